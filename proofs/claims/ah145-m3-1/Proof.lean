import JvmDerived
import JvmDerived.Pilot.@@N@@Statement
import JvmDerived.Pilot.@@N@@Code
set_option linter.unusedVariables false
set_option linter.unusedSimpArgs false
namespace Jvm.Pilot.@@N@@
open Jvm Jvm.ClassFile Sem Op Lib Jvm.Free Jvm.Stand Jvm.LawKit Jvm.RoadKit Bundle Jvm.Pilot.@@N@@.Jvm.D
/-! the walk's own small kit: a run that ends in a return (own_Ends), a method's contract (own_Con), one step (own_go), the returns, the calls -/
section Own
variable {p : Program} {l : Launch} {e : Env} {R : Room} {s : State} {m : MethodId} {args : Array Value} {below : List Frame} {meth : Method} {c : Code} {T : State} {locs : List Loc} {cells slots : Nat} {Z : State} {a0 : Array Value} {h : Heap} {n0 kc ks : Nat}
/-- from the frame g at T the run comes to a return; what was written lies at or above n0; Q says what is returned and what the heap is then -/
def own_Ends (p : Program) (e : Env) (below : List Frame) (s : State) (n0 kc ks : Nat) (T : State) (g : JFrame) (Q : Option Value → Heap → Prop) : Prop :=
  ∃ s₂ o, Steps p.tables e below (T.setTop g) s₂ ∧ s₂.status = .running ∧ Ended s₂ below o ∧ ∃ v L, o = .returned v ∧ (Fr n0 L ∧ Q v s₂.heap) ∧ FrameEnd s o s₂ L kc ks
theorem own_go {T' : State} {g g' : JFrame} {Q : Option Value → Heap → Prop} (k : ∀ t, Steps p.tables e below (T'.setTop g') t → Steps p.tables e below (T.setTop g) t) (q : own_Ends p e below s n0 kc ks T' g' Q) : own_Ends p e below s n0 kc ks T g Q := by
  obtain ⟨s₂, o, h1, r⟩ := q
  exact ⟨s₂, o, k _ h1, r⟩
theorem own_mono {g : JFrame} {Q Q' : Option Value → Heap → Prop} (q : own_Ends p e below s n0 kc ks T g Q) (i : ∀ v h, Q v h → Q' v h) : own_Ends p e below s n0 kc ks T g Q' := by
  obtain ⟨s₂, o, h1, h2, h3, v, L, h4, ⟨h5, h6⟩, h7⟩ := q
  exact ⟨s₂, o, h1, h2, h3, v, L, h4, ⟨h5, i _ _ h6⟩, h7⟩
theorem own_retW (X : Stand p l e R s m args below meth c T locs cells slots) (hx : p.tables.exec = Jvm.exec) (hlk : meth.locks = false) {pc : Nat} {Ls : Array Slot} {w : Value} {t : FieldType} {i : Instr} {rest : List Value} (hret : meth.sig.returnType = some t) (hn : narrow t w = w)
    (hi : (i = .ireturn ∧ (t = .int ∨ t = .boolean ∨ t = .byte ∨ t = .char ∨ t = .short) ∧ ∃ z, w = .int z) ∨ (i = .lreturn ∧ t = .long ∧ ∃ z, w = .long z) ∨ (i = .dreturn ∧ t = .double ∧ ∃ z, w = .double z) ∨ (i = .freturn ∧ t = .float ∧ ∃ z, w = .float z) ∨ (i = .areturn ∧ t.isReference = true ∧ w.isRef = true))
    (hd : decode c.code pc = .ok (i, 1)) {Q : Option Value → Heap → Prop} (hc : cells ≤ kc) (hs : slots ≤ ks) (N : Fr n0 locs) (q : Q (some w) T.heap) : own_Ends p e below s n0 kc ks T (mkF m pc Ls (w :: rest)) Q := by
  obtain ⟨fs, hr, hrun, hended, hW, hsame⟩ := X.leave (v := some w) (fun h => by rw [hret] at h; cases h) hlk
  exact ⟨_, _, retOut X hx hret hn hi hd hr, hrun, hended, _, _, rfl, ⟨N, q⟩, ⟨_, rfl⟩, hW, hsame.mono hc hs⟩
theorem own_retI (X : Stand p l e R s m args below meth c T locs cells slots) (hx : p.tables.exec = Jvm.exec) (hlk : meth.locks = false) {pc : Nat} {Ls : Array Slot} {z : Int32} {rest : List Value} (hret : meth.sig.returnType = some .int)
    (hd : decode c.code pc = .ok (.ireturn, 1)) {Q : Option Value → Heap → Prop} (hc : cells ≤ kc) (hs : slots ≤ ks) (N : Fr n0 locs) (q : Q (some (.int z)) T.heap) : own_Ends p e below s n0 kc ks T (mkF m pc Ls (.int z :: rest)) Q :=
  own_retW X hx hlk hret rfl (Or.inl ⟨rfl, Or.inl rfl, z, rfl⟩) hd hc hs N q
theorem own_retJ (X : Stand p l e R s m args below meth c T locs cells slots) (hx : p.tables.exec = Jvm.exec) (hlk : meth.locks = false) {pc : Nat} {Ls : Array Slot} {z : Int64} {rest : List Value} (hret : meth.sig.returnType = some .long)
    (hd : decode c.code pc = .ok (.lreturn, 1)) {Q : Option Value → Heap → Prop} (hc : cells ≤ kc) (hs : slots ≤ ks) (N : Fr n0 locs) (q : Q (some (.long z)) T.heap) : own_Ends p e below s n0 kc ks T (mkF m pc Ls (.long z :: rest)) Q :=
  own_retW X hx hlk hret rfl (Or.inr (Or.inl ⟨rfl, rfl, z, rfl⟩)) hd hc hs N q
theorem own_retA (X : Stand p l e R s m args below meth c T locs cells slots) (hx : p.tables.exec = Jvm.exec) (hlk : meth.locks = false) {pc : Nat} {Ls : Array Slot} {a : Addr} {t : FieldType} {rest : List Value} (hret : meth.sig.returnType = some t) (ht : t.isReference = true) (hn : narrow t (.ref a) = .ref a)
    (hd : decode c.code pc = .ok (.areturn, 1)) {Q : Option Value → Heap → Prop} (hc : cells ≤ kc) (hs : slots ≤ ks) (N : Fr n0 locs) (q : Q (some (.ref a)) T.heap) : own_Ends p e below s n0 kc ks T (mkF m pc Ls (.ref a :: rest)) Q :=
  own_retW X hx hlk hret hn (Or.inr (Or.inr (Or.inr (Or.inr ⟨rfl, ht, rfl⟩)))) hd hc hs N q
theorem own_retN (X : Stand p l e R s m args below meth c T locs cells slots) (hx : p.tables.exec = Jvm.exec) (hlk : meth.locks = false) {pc : Nat} {Ls : Array Slot} {z : Int32} {t : FieldType} {rest : List Value} (hret : meth.sig.returnType = some t) (ht : t = .boolean ∨ t = .byte ∨ t = .char ∨ t = .short)
    (hd : decode c.code pc = .ok (.ireturn, 1)) {Q : Option Value → Heap → Prop} (hc : cells ≤ kc) (hs : slots ≤ ks) (N : Fr n0 locs) (q : Q (some (.int (nar t z))) T.heap) : own_Ends p e below s n0 kc ks T (mkF m pc Ls (.int z :: rest)) Q := by
  obtain ⟨fs, hr, hrun, hended, hW, hsame⟩ := X.leave (v := some (.int (nar t z))) (fun h => by rw [hret] at h; cases h) hlk
  exact ⟨_, _, retN X hx hret ht hd hr, hrun, hended, _, _, rfl, ⟨N, q⟩, ⟨_, rfl⟩, hW, hsame.mono hc hs⟩
theorem own_retV (X : Stand p l e R s m args below meth c T locs cells slots) (hx : p.tables.exec = Jvm.exec) (hlk : meth.locks = false) {pc : Nat} {Ls : Array Slot} (hret : meth.sig.returnType = none)
    (hd : decode c.code pc = .ok (.return_, 1)) {Q : Option Value → Heap → Prop} (hc : cells ≤ kc) (hs : slots ≤ ks) (N : Fr n0 locs) (q : Q none T.heap) : own_Ends p e below s n0 kc ks T (mkF m pc Ls []) Q := by
  obtain ⟨fs, hr, hrun, hended, hW, hsame⟩ := X.leave (v := none) (fun _ => rfl) hlk
  exact ⟨_, _, X.returnOut hx hret hd hr, hrun, hended, _, _, rfl, ⟨N, q⟩, ⟨_, rfl⟩, hW, hsame.mono hc hs⟩
/-- a method's contract: called with as' at the heap h it returns, and Q says what; nothing below n0 is written -/
def own_Con (ws : List Jvm.Cond) (l : Launch) (Z : State) (y : MethodName) (bytes : ByteArray) (maxL : Nat) (ret : Option FieldType) (rm : Room) (n0 : Nat) (as' : Array Value) (h : Heap) (Q : Option Value → Heap → Prop) : Prop :=
  MetFree l y (head1 (Jvm.Cond.code y bytes maxL ret :: ws) rm) (fun a U => a = as' ∧ Z.Warmed39 U.vm ∧ U.heap = h) (fun _ _ _ _ _ => True) (fun _ U o U' => ∃ v L, o = .returned v ∧ (Fr n0 L ∧ Q v U'.heap) ∧ FrameEnd U o U' L rm.cells rm.slots)
theorem own_body {ws : List Jvm.Cond} {y : MethodName} {bytes : ByteArray} {maxL : Nat} {ret : Option FieldType} {rm : Room} {as' : Array Value} {Q : Option Value → Heap → Prop} (hy : plainFor y = true) (fr : MethodId → JFrame) (hfr : ∀ m, entryFrame m as' maxL = fr m)
    (H : ∀ (p : Program) (e : Env) (s : State) (m : MethodId) (below : List Frame) (meth : Method) (c : Code) (s₁ : State), p.tables.exec = Jvm.exec → c.code = bytes → c.maxLocals = maxL → s.vm.findClass y.cls = some m.cls → meth.name = y.name → Z.Warmed39 s.vm → meth.sig.returnType = ret → meth.locks = false →
      Stand p l e rm s m as' below meth c s₁ [] 0 0 → s₁.heap = h → Fr n0 [] → own_Ends p e below s n0 rm.cells rm.slots s₁ (fr m) Q) : own_Con ws l Z y bytes maxL ret rm n0 as' h Q := by
  refine MetFree.of_bodySF hy hisR ?_
  intro p e s m args below meth c s₁ Bd hml0 hP hK
  obtain ⟨rfl, hZ, hh⟩ := hP
  have E := H p e s m below meth c s₁ Bd.exec Bd.bytes hml0 (findClass_of_methodNamed Bd.named) (name_of_methodNamed Bd.named Bd.method).1 hZ Bd.returns Bd.notSynchronized (Stand.of_body Bd) (by rw [← hh, Bd.state]; rfl) (Fr.nil n0)
  rw [← hfr m] at E
  exact E
/-- invokestatic by the callee's contract -/
theorem own_callS (X : Stand p l e R s m args below meth c T locs cells slots) (hx : p.tables.exec = Jvm.exec) (hZ : Z.Warmed39 s.vm) {own : String} {index : Nat} {y : MethodName} {bytes : ByteArray} {maxL : Nat} {ret : Option FieldType}
    (hown : s.vm.findClass own = some m.cls) (w1 : (Jvm.Cond.methodLink own index y).before a0 Z = true) (w2 : (Jvm.Cond.static y).before a0 Z = true) (w3 : (Jvm.Cond.initialized y.cls).before a0 Z = true) (w4 : (Jvm.Cond.code y bytes maxL ret).before a0 Z = true)
    (hy : y.cls ≠ "java/lang/invoke/MethodHandle" ∧ y.cls ≠ "java/lang/invoke/VarHandle") {argsL rest : List Value} {Q : Option Value → Heap → Prop} {rm : Room} (hM : own_Con [] l Z y bytes maxL ret rm n0 argsL.toArray h Q) {W : Nat} (hf : rm.frames + 1 ≤ R.frames) (hl : W + (maxL + 11) + rm.locals ≤ R.locals)
    {g : JFrame} (hg : g.method = m) (hsize : g.locals.size = c.maxLocals) {ps : List FieldType} {r : Option FieldType} (hpd : parseMethodDescriptor y.desc = some ⟨ps, r⟩) (hlen : argsL.length = ps.length) (hstack : g.stack = argsL.reverse ++ rest) (hW : 2 * g.monitorRoom + (rest.map fun v => v.category).sum ≤ W)
    (hd : decode c.code g.pc = .ok (.invokestatic index, 3)) (eT : T.heap = h) (hc : cells + rm.cells ≤ R.cells) (hs : slots + rm.slots ≤ R.slots) (N : Fr n0 locs) :
    ∃ v T' L', Stand p l e R s m args below meth c T' L' (cells + rm.cells) (slots + rm.slots) ∧ Fr n0 L' ∧ Q v T'.heap ∧ ∀ t, Steps p.tables e below (T'.setTop { g with pc := g.pc + 3, stack := v.toList ++ rest }) t → Steps p.tables e below (T.setTop g) t := by
  obtain ⟨v, _, ⟨T', L', k', n'⟩, -, X', ⟨Lc, ⟨hN, hQ⟩, l', y', z'⟩, st⟩ := Jvm.LawKit.callS X hx hown (mvT hZ w1) (mvT hZ w2) (mvT hZ w3) (mvT hZ w4) hy (backOf (Q := fun v h L => Fr n0 L ∧ Q v h) (W := W) hM hZ w4 w3 hf hl) hg hsize (lenOf hpd hlen) hstack hW hd (fun _ _ => ⟨rfl, eT, hc, hs⟩)
  dsimp only [Pt.U, Pt.locs, Pt.cells, Pt.slots] at X' l' y' z' st hQ
  subst l' y' z'
  exact ⟨v, T', _, X', Fr.app N hN, hQ, st⟩
/-- a constructor by its contract -/
theorem own_callI (X : Stand p l e R s m args below meth c T locs cells slots) (hx : p.tables.exec = Jvm.exec) (hZ : Z.Warmed39 s.vm) {own : String} {index : Nat} {y : MethodName} {bytes : ByteArray} {maxL : Nat}
    (hy1 : y.name = "<init>") (hown : s.vm.findClass own = some m.cls) (w1 : (Jvm.Cond.methodLink own index y).before a0 Z = true) (w2 : (Jvm.Cond.instanceMethod y).before a0 Z = true) (w3 : (Jvm.Cond.initialized y.cls).before a0 Z = true) (w4 : (Jvm.Cond.code y bytes maxL none).before a0 Z = true)
    (hy : y.cls ≠ "java/lang/invoke/MethodHandle" ∧ y.cls ≠ "java/lang/invoke/VarHandle") {a : Addr} {argsL rest : List Value} {Q : Option Value → Heap → Prop} {rm : Room} (hM : own_Con [] l Z y bytes maxL none rm n0 (.ref a :: argsL).toArray h Q) {W : Nat} (hf : rm.frames + 1 ≤ R.frames) (hl : W + (maxL + 11) + rm.locals ≤ R.locals)
    {g : JFrame} (hg : g.method = m) (hsize : g.locals.size = c.maxLocals) {ps : List FieldType} {r : Option FieldType} (hpd : parseMethodDescriptor y.desc = some ⟨ps, r⟩) (hlen : argsL.length = ps.length) (hstack : g.stack = argsL.reverse ++ .ref a :: rest) (hW : 2 * g.monitorRoom + (rest.map fun v => v.category).sum ≤ W)
    (hd : decode c.code g.pc = .ok (.invokespecial index, 3)) (eT : T.heap = h) (hc : cells + rm.cells ≤ R.cells) (hs : slots + rm.slots ≤ R.slots) (N : Fr n0 locs) :
    ∃ v T' L', Stand p l e R s m args below meth c T' L' (cells + rm.cells) (slots + rm.slots) ∧ Fr n0 L' ∧ Q v T'.heap ∧ ∀ t, Steps p.tables e below (T'.setTop { g with pc := g.pc + 3, stack := v.toList ++ rest }) t → Steps p.tables e below (T.setTop g) t := by
  obtain ⟨v, _, ⟨T', L', k', n'⟩, -, X', ⟨Lc, ⟨hN, hQ⟩, l', y', z'⟩, st⟩ := X.specialBack hx hy1 hown (mvT hZ w1) (mvT hZ w2) (mvT hZ w4) hy (backOf (Q := fun v h L => Fr n0 L ∧ Q v h) (W := W) hM hZ w4 w3 hf hl) hg hsize (Steps.refl _) (lenOf hpd hlen) hstack hW hd (fun _ _ => ⟨rfl, eT, hc, hs⟩)
  dsimp only [Pt.U, Pt.locs, Pt.cells, Pt.slots] at X' l' y' z' st hQ
  subst l' y' z'
  exact ⟨v, T', _, X', Fr.app N hN, hQ, fun t k => st.trans k⟩
/-- an instance method that its own class declares, by its contract -/
theorem own_callV (X : Stand p l e R s m args below meth c T locs cells slots) (hx : p.tables.exec = Jvm.exec) (hZ : Z.Warmed39 s.vm) {own C : String} {index : Nat} {y : MethodName} {bytes : ByteArray} {maxL : Nat} {ret : Option FieldType}
    (hown : s.vm.findClass own = some m.cls) (w1 : (Jvm.Cond.methodLink own index y).before a0 Z = true) (wd : (Jvm.Cond.declares y).before a0 Z = true) (ws : (Jvm.Cond.selects C y y).before a0 Z = true) (w2 : (Jvm.Cond.instanceMethod y).before a0 Z = true) (w3 : (Jvm.Cond.initialized y.cls).before a0 Z = true) (w4 : (Jvm.Cond.code y bytes maxL ret).before a0 Z = true)
    (hy : y.cls ≠ "java/lang/invoke/MethodHandle" ∧ y.cls ≠ "java/lang/invoke/VarHandle") {a : Addr} {argsL rest : List Value} {Q : Option Value → Heap → Prop} {rm : Room} (hM : own_Con [] l Z y bytes maxL ret rm n0 (.ref a :: argsL).toArray h Q) {W : Nat} (hf : rm.frames + 1 ≤ R.frames) (hl : W + (maxL + 11) + rm.locals ≤ R.locals)
    (E : Exa Z h a C) {g : JFrame} (hg : g.method = m) (hsize : g.locals.size = c.maxLocals) {ps : List FieldType} {r : Option FieldType} (hpd : parseMethodDescriptor y.desc = some ⟨ps, r⟩) (hlen : argsL.length = ps.length) (hstack : g.stack = argsL.reverse ++ .ref a :: rest) (hW : 2 * g.monitorRoom + (rest.map fun v => v.category).sum ≤ W)
    (hd : decode c.code g.pc = .ok (.invokevirtual index, 3)) (eT : T.heap = h) (hc : cells + rm.cells ≤ R.cells) (hs : slots + rm.slots ≤ R.slots) (N : Fr n0 locs) :
    ∃ v T' L', Stand p l e R s m args below meth c T' L' (cells + rm.cells) (slots + rm.slots) ∧ Fr n0 L' ∧ Q v T'.heap ∧ ∀ t, Steps p.tables e below (T'.setTop { g with pc := g.pc + 3, stack := v.toList ++ rest }) t → Steps p.tables e below (T.setTop g) t := by
  obtain ⟨cq, kq, qa, qb, qc⟩ := isOf hZ eT E
  obtain ⟨v, _, ⟨T', L', k', n'⟩, -, X', ⟨Lc, ⟨hN, hQ⟩, l', y', z'⟩, st⟩ := X.virtualBack hx (z := y) hown (mvT hZ w1) (mvT hZ wd) (notFace_of_selects (args := #[]) (mvT hZ ws)) (mvT hZ ws) (mvT hZ w2) hy (backOf (Q := fun v h L => Fr n0 L ∧ Q v h) (W := W) hM hZ w4 w3 hf hl) qa qc hg hsize (Steps.refl _) (lenOf hpd hlen) hstack hW hd (fun _ _ => ⟨rfl, eT, hc, hs⟩)
  dsimp only [Pt.U, Pt.locs, Pt.cells, Pt.slots] at X' l' y' z' st hQ
  subst l' y' z'
  exact ⟨v, T', _, X', Fr.app N hN, hQ, fun t k => st.trans k⟩
theorem own_dup2 {g : JFrame} {target : State} (X : Stand p l e R s m args below meth c T locs cells slots) (hx : p.tables.exec = Jvm.exec) (hg : g.method = m) {x y : Value} {rest : List Value} (hd : decode c.code g.pc = .ok (.dup2, 1)) (hs : g.stack = x :: y :: rest) (hc : x.category = 1) (hc2 : y.category = 1)
    (hr : Steps p.tables e below (T.setTop { g with pc := g.pc + 1, stack := x :: y :: x :: y :: rest }) target) : Steps p.tables e below (T.setTop g) target := by
  subst hg
  jvm_step X.here [X.here.top, hx, hd, hs, hc, hc2]
  exact hr
/-! arrays by their values -/
theorem own_ldI (X : Stand p l e R s m args below meth c T locs cells slots) (hx : p.tables.exec = Jvm.exec) (hZ : Z.Warmed39 s.vm) (eT : T.heap = h) {a : Addr} {k : ClassId} {n : Int32} {vs : List Value} {d : Value} (V : Arv Z h a k .int n vs d) {j : Int32} (hj : ¬ j < 0 ∧ j < n) {v : Value} (hv : vs.getD j.toNatClampNeg d = v)
    {g : JFrame} (hg : g.method = m) {rest : List Value} (hs : g.stack = .int j :: .ref a :: rest) (hd : decode c.code g.pc = .ok (.iaload, 1)) : ∀ t, Steps p.tables e below (T.setTop { g with pc := g.pc + 1, stack := v :: rest }) t → Steps p.tables e below (T.setTop g) t := by
  obtain ⟨cl, Ar, -, S, M, H, G⟩ := V
  have hin := inb_of S hj
  exact fun t k => X.iaload hx (by rw [eT]; exact Ar.1) (State.isArrayOf_alike hZ.alike Ar.2.1) Ar.2.2 hin (H.at hin hv) hg hs hd t k
theorem own_ldJ (X : Stand p l e R s m args below meth c T locs cells slots) (hx : p.tables.exec = Jvm.exec) (hZ : Z.Warmed39 s.vm) (eT : T.heap = h) {a : Addr} {k : ClassId} {n : Int32} {vs : List Value} {d : Value} (V : Arv Z h a k .long n vs d) {j : Int32} (hj : ¬ j < 0 ∧ j < n) {v : Value} (hv : vs.getD j.toNatClampNeg d = v)
    {g : JFrame} (hg : g.method = m) {rest : List Value} (hs : g.stack = .int j :: .ref a :: rest) (hd : decode c.code g.pc = .ok (.laload, 1)) : ∀ t, Steps p.tables e below (T.setTop { g with pc := g.pc + 1, stack := v :: rest }) t → Steps p.tables e below (T.setTop g) t := by
  obtain ⟨cl, Ar, -, S, M, H, G⟩ := V
  have hin := inb_of S hj
  exact fun t k => X.laload hx (by rw [eT]; exact Ar.1) (State.isArrayOf_alike hZ.alike Ar.2.1) Ar.2.2 hin (H.at hin hv) hg hs hd t k
theorem own_ldC (X : Stand p l e R s m args below meth c T locs cells slots) (hx : p.tables.exec = Jvm.exec) (hZ : Z.Warmed39 s.vm) (eT : T.heap = h) {a : Addr} {k : ClassId} {n : Int32} {vs : List Value} {d : Value} (V : Arv Z h a k .char n vs d) {j : Int32} (hj : ¬ j < 0 ∧ j < n) {v : Value} (hv : vs.getD j.toNatClampNeg d = v)
    {g : JFrame} (hg : g.method = m) {rest : List Value} (hs : g.stack = .int j :: .ref a :: rest) (hd : decode c.code g.pc = .ok (.caload, 1)) : ∀ t, Steps p.tables e below (T.setTop { g with pc := g.pc + 1, stack := v :: rest }) t → Steps p.tables e below (T.setTop g) t := by
  obtain ⟨cl, Ar, -, S, M, H, G⟩ := V
  have hin := inb_of S hj
  exact fun t k => X.caload hx (by rw [eT]; exact Ar.1) (State.isArrayOf_alike hZ.alike Ar.2.1) Ar.2.2 hin (H.at hin hv) hg hs hd t k
theorem own_ldB (X : Stand p l e R s m args below meth c T locs cells slots) (hx : p.tables.exec = Jvm.exec) (hZ : Z.Warmed39 s.vm) (eT : T.heap = h) {a : Addr} {k : ClassId} {n : Int32} {vs : List Value} {d : Value} (V : Arv Z h a k .byte n vs d) {j : Int32} (hj : ¬ j < 0 ∧ j < n) {v : Value} (hv : vs.getD j.toNatClampNeg d = v)
    {g : JFrame} (hg : g.method = m) {rest : List Value} (hs : g.stack = .int j :: .ref a :: rest) (hd : decode c.code g.pc = .ok (.baload, 1)) : ∀ t, Steps p.tables e below (T.setTop { g with pc := g.pc + 1, stack := v :: rest }) t → Steps p.tables e below (T.setTop g) t := by
  obtain ⟨cl, Ar, -, S, M, H, G⟩ := V
  have hin := inb_of S hj
  exact fun t k => X.baloadBytes hx (by rw [eT]; exact Ar.1) (State.isArrayOf_alike hZ.alike Ar.2.1) Ar.2.2 hin (H.at hin hv) hg hs hd t k
theorem own_len (X : Stand p l e R s m args below meth c T locs cells slots) (hx : p.tables.exec = Jvm.exec) (hZ : Z.Warmed39 s.vm) (eT : T.heap = h) {a : Addr} {k : ClassId} {ty : FieldType} {n : Int32} {vs : List Value} {d : Value} (V : Arv Z h a k ty n vs d)
    {g : JFrame} (hg : g.method = m) {rest : List Value} (hs : g.stack = .ref a :: rest) (hd : decode c.code g.pc = .ok (.arraylength, 1)) : ∀ t, Steps p.tables e below (T.setTop { g with pc := g.pc + 1, stack := .int n :: rest }) t → Steps p.tables e below (T.setTop g) t := by
  obtain ⟨cl, Ar, -, S, M, H, G⟩ := V
  intro t k
  refine X.arraylength hx (by rw [eT]; exact Ar.1) (State.isArrayOf_alike hZ.alike Ar.2.1) hg hs hd _ ?_
  rw [len_of S M]
  exact k
theorem own_stI (X : Stand p l e R s m args below meth c T locs cells slots) (hx : p.tables.exec = Jvm.exec) (hZ : Z.Warmed39 s.vm) (eT : T.heap = h) {a : Addr} {k : ClassId} {n : Int32} {vs : List Value} {d : Value} (V : Arv Z h a k .int n vs d) {j : Int32} (hj : ¬ j < 0 ∧ j < n) (i : Nat) (hi : j.toNatClampNeg = i) (hl : i < vs.length) {x : Int32}
    (N : Fr n0 locs) (ga : n0 ≤ a) {g : JFrame} (hg : g.method = m) {rest : List Value} (hs : g.stack = (.int x) :: .int j :: .ref a :: rest) (hd : decode c.code g.pc = .ok (.iastore, 1)) :
    ∃ T' h' L', Stand p l e R s m args below meth c T' L' cells slots ∧ Fr n0 L' ∧ T'.heap = h' ∧ Wr h h' a i (.int x) ∧ Arv Z h' a k .int n (vs.set i (.int x)) d ∧ ∀ t, Steps p.tables e below (T'.setTop { g with pc := g.pc + 1, stack := rest }) t → Steps p.tables e below (T.setTop g) t := by
  obtain ⟨cl, Ar, q, S, M, H, G⟩ := V
  obtain ⟨T', h', X', e', W, st⟩ := stI X hx hZ eT Ar (inb_of S hj) hg hs hd
  have V' := Arv.set Ar q S M H G rfl W i hi hl
  rw [hi] at W
  exact ⟨T', h', _, X', Fr.snoc X' N ga, e', W, V', st⟩
theorem own_stJ (X : Stand p l e R s m args below meth c T locs cells slots) (hx : p.tables.exec = Jvm.exec) (hZ : Z.Warmed39 s.vm) (eT : T.heap = h) {a : Addr} {k : ClassId} {n : Int32} {vs : List Value} {d : Value} (V : Arv Z h a k .long n vs d) {j : Int32} (hj : ¬ j < 0 ∧ j < n) (i : Nat) (hi : j.toNatClampNeg = i) (hl : i < vs.length) {x : Int64}
    (N : Fr n0 locs) (ga : n0 ≤ a) {g : JFrame} (hg : g.method = m) {rest : List Value} (hs : g.stack = (.long x) :: .int j :: .ref a :: rest) (hd : decode c.code g.pc = .ok (.lastore, 1)) :
    ∃ T' h' L', Stand p l e R s m args below meth c T' L' cells slots ∧ Fr n0 L' ∧ T'.heap = h' ∧ Wr h h' a i (.long x) ∧ Arv Z h' a k .long n (vs.set i (.long x)) d ∧ ∀ t, Steps p.tables e below (T'.setTop { g with pc := g.pc + 1, stack := rest }) t → Steps p.tables e below (T.setTop g) t := by
  obtain ⟨cl, Ar, q, S, M, H, G⟩ := V
  obtain ⟨T', h', X', e', W, st⟩ := stJ X hx hZ eT Ar (inb_of S hj) hg hs hd
  have V' := Arv.set Ar q S M H G rfl W i hi hl
  rw [hi] at W
  exact ⟨T', h', _, X', Fr.snoc X' N ga, e', W, V', st⟩
theorem own_stC (X : Stand p l e R s m args below meth c T locs cells slots) (hx : p.tables.exec = Jvm.exec) (hZ : Z.Warmed39 s.vm) (eT : T.heap = h) {a : Addr} {k : ClassId} {n : Int32} {vs : List Value} {d : Value} (V : Arv Z h a k .char n vs d) {j : Int32} (hj : ¬ j < 0 ∧ j < n) (i : Nat) (hi : j.toNatClampNeg = i) (hl : i < vs.length) {x : Int32}
    (N : Fr n0 locs) (ga : n0 ≤ a) {g : JFrame} (hg : g.method = m) {rest : List Value} (hs : g.stack = (.int x) :: .int j :: .ref a :: rest) (hd : decode c.code g.pc = .ok (.castore, 1)) :
    ∃ T' h' L', Stand p l e R s m args below meth c T' L' cells slots ∧ Fr n0 L' ∧ T'.heap = h' ∧ Wr h h' a i (.int (nar .char x)) ∧ Arv Z h' a k .char n (vs.set i (.int (nar .char x))) d ∧ ∀ t, Steps p.tables e below (T'.setTop { g with pc := g.pc + 1, stack := rest }) t → Steps p.tables e below (T.setTop g) t := by
  obtain ⟨cl, Ar, q, S, M, H, G⟩ := V
  obtain ⟨T', h', X', e', W, st⟩ := stC X hx hZ eT Ar (inb_of S hj) hg hs hd
  have V' := Arv.set Ar q S M H G (fits_nar_char _) W i hi hl
  rw [hi] at W
  exact ⟨T', h', _, X', Fr.snoc X' N ga, e', W, V', st⟩
theorem own_stB (X : Stand p l e R s m args below meth c T locs cells slots) (hx : p.tables.exec = Jvm.exec) (hZ : Z.Warmed39 s.vm) (eT : T.heap = h) {a : Addr} {k : ClassId} {n : Int32} {vs : List Value} {d : Value} (V : Arv Z h a k .byte n vs d) {j : Int32} (hj : ¬ j < 0 ∧ j < n) (i : Nat) (hi : j.toNatClampNeg = i) (hl : i < vs.length) {x : Int32}
    (N : Fr n0 locs) (ga : n0 ≤ a) {g : JFrame} (hg : g.method = m) {rest : List Value} (hs : g.stack = (.int x) :: .int j :: .ref a :: rest) (hd : decode c.code g.pc = .ok (.bastore, 1)) :
    ∃ T' h' L', Stand p l e R s m args below meth c T' L' cells slots ∧ Fr n0 L' ∧ T'.heap = h' ∧ Wr h h' a i (.int (nar .byte x)) ∧ Arv Z h' a k .byte n (vs.set i (.int (nar .byte x))) d ∧ ∀ t, Steps p.tables e below (T'.setTop { g with pc := g.pc + 1, stack := rest }) t → Steps p.tables e below (T.setTop g) t := by
  obtain ⟨cl, Ar, q, S, M, H, G⟩ := V
  obtain ⟨T', h', X', e', W, st⟩ := stB X hx hZ eT Ar (inb_of S hj) hg hs hd
  have V' := Arv.set Ar q S M H G (fits_nar_byte _) W i hi hl
  rw [hi] at W
  exact ⟨T', h', _, X', Fr.snoc X' N ga, e', W, V', st⟩
theorem own_new (X : Stand p l e R s m args below meth c T locs cells slots) (hx : p.tables.exec = Jvm.exec) (hZ : Z.Warmed39 s.vm) {aty : ArrayType} (w : (Jvm.Cond.arrayClass (newarray.typeOf aty)).before a0 Z = true) (eT : T.heap = h) {g : JFrame} (hg : g.method = m) (hd : decode c.code g.pc = .ok (.newarray aty, 2)) {n : Int32} {rest : List Value} (hs : g.stack = .int n :: rest)
    (hn : ¬ n < 0) {cap : Nat} (hcap : n.toNatClampNeg ≤ cap) (hb : cap * 8 ≤ 536870912) (hc : cells + 1 ≤ R.cells) (hl : slots + cap ≤ R.slots) :
    ∃ T' h' k a, a = h.size ∧ Stand p l e R s m args below meth c T' locs (cells + 1) (slots + cap) ∧ T'.heap = h' ∧ Ext h h' ∧ Arv Z h' a k (newarray.typeOf aty) n [] (defaultValue (newarray.typeOf aty)) ∧
      ∀ t, Steps p.tables e below (T'.setTop { g with pc := g.pc + 2, stack := .ref a :: rest }) t → Steps p.tables e below (T.setTop g) t := by
  obtain ⟨T', h', k, X', e', E, A, st⟩ := newP X hx hZ w eT hg hd hs hn hcap hb hc hl
  exact ⟨T', h', k, _, rfl, X', e', E, Arv.new A hn, st⟩
/-- what a method that only reads leaves -/
def own_P (z : Value) (h0 : Heap) : Option Value → Heap → Prop := fun v h => v = some z ∧ h = h0
end Own
theorem own_ti {n : Nat} (h : n < 2 ^ 31) : (Int32.ofNat n).toInt = n := Jvm.LawKit.toInt_of rfl h
theorem own_ci {n : Nat} (h : n < 2 ^ 31) : (Int32.ofNat n).toNatClampNeg = n := Jvm.LawKit.clamp_of rfl h
theorem own_addN (a b : Nat) : Int32.ofNat a + Int32.ofNat b = Int32.ofNat (a + b) := by
  apply Int32.toBitVec_inj.mp
  simp [BitVec.ofNat_add]
theorem own_subN {a b : Nat} (h : b ≤ a) (ha : a < 2 ^ 31) : Int32.ofNat a - Int32.ofNat b = Int32.ofNat (a - b) := by
  have hs := c_isub (Int32.ofNat a) (Int32.ofNat b)
  have := rng32 (Int32.ofNat a - Int32.ofNat b)
  apply Int32.toInt_inj.mp
  rw [own_ti (by omega), own_ti (by omega)] at hs
  rw [own_ti (by omega)]
  omega
/-- a byte[] of forty by its values -/
def own_tab (f : Nat → Int32) : List Value := (List.range 40).map fun i => .int (f i)
def own_upd (f : Nat → Int32) (i : Nat) (x : Int32) : Nat → Int32 := fun j => if j = i then x else f j
theorem own_tab_len (f : Nat → Int32) : (own_tab f).length = 40 := by simp [own_tab]
theorem own_tab_set (f : Nat → Int32) (i : Nat) (x : Int32) : (own_tab f).set i (.int x) = own_tab (own_upd f i x) := by
  apply List.ext_getElem?
  intro j
  simp only [own_tab, List.getElem?_set, List.getElem?_map, List.length_map, List.length_range, own_upd]
  by_cases h : i = j
  · subst h
    by_cases h2 : i < 40
    · simp [h2, List.getElem?_range]
    · simp [h2, List.getElem?_eq_none]
  · have h' : ¬ j = i := fun e => h e.symm
    by_cases h2 : j < 40
    · simp [h, h', h2, List.getElem?_range]
    · simp [h, h2, List.getElem?_eq_none]
theorem own_tab_at (f : Nat → Int32) {i : Nat} (h : i < 40) (d : Value) : (own_tab f).getD i d = .int (f i) := by
  simp [own_tab, List.getD_eq_getElem?_getD, List.getElem?_map, List.getElem?_range, h]
def own_tabJ (g : Nat → Int64) : List Value := (List.range 5).map fun i => .long (g i)
def own_updJ (g : Nat → Int64) (i : Nat) (x : Int64) : Nat → Int64 := fun j => if j = i then x else g j
theorem own_tabJ_len (g : Nat → Int64) : (own_tabJ g).length = 5 := by simp [own_tabJ]
theorem own_tabJ_set (g : Nat → Int64) (i : Nat) (x : Int64) : (own_tabJ g).set i (.long x) = own_tabJ (own_updJ g i x) := by
  apply List.ext_getElem?
  intro j
  simp only [own_tabJ, List.getElem?_set, List.getElem?_map, List.length_map, List.length_range, own_updJ]
  by_cases h : i = j
  · subst h
    by_cases h2 : i < 5
    · simp [h2, List.getElem?_range]
    · simp [h2, List.getElem?_eq_none]
  · have h' : ¬ j = i := fun e => h e.symm
    by_cases h2 : j < 5
    · simp [h, h', h2, List.getElem?_range]
    · simp [h, h2, List.getElem?_eq_none]
theorem own_tabJ_at (g : Nat → Int64) {i : Nat} (h : i < 5) (d : Value) : (own_tabJ g).getD i d = .long (g i) := by
  simp [own_tabJ, List.getD_eq_getElem?_getD, List.getElem?_map, List.getElem?_range, h]
/-- the byte of v at a shift -/
def own_by (v : Int64) (s : Int32) : Int32 := (((v.toUInt64 >>> (s &&& 0x3f).toInt64.toUInt64).toInt64).toInt32).toInt8.toInt32
def own_by0 (v : Int64) : Int32 := (v.toInt32).toInt8.toInt32
def own_put (f : Nat → Int32) (at_ : Nat) (v : Int64) : Nat → Int32 :=
  own_upd (own_upd (own_upd (own_upd (own_upd (own_upd (own_upd (own_upd f (at_ + 0) (own_by v 56)) (at_ + 1) (own_by v 48)) (at_ + 2) (own_by v 40)) (at_ + 3) (own_by v 32)) (at_ + 4) (own_by v 24)) (at_ + 5) (own_by v 16)) (at_ + 6) (own_by v 8)) (at_ + 7) (own_by0 v)
def own_Qp (Z : State) (r0 : Addr) (k : ClassId) (f : Nat → Int32) (h0 : Heap) : Option Value → Heap → Prop := fun v h => v = none ∧ Keep h0 h [r0] ∧ Arv Z h r0 k .byte (40 : Int32) (own_tab f) (.int 0)
theorem own_narb (x : Int32) : nar .byte x.toInt8.toInt32 = x.toInt8.toInt32 := by
  show x.toInt8.toInt32.toInt8.toInt32 = _
  simp
theorem own_jadd {p1 : Int32} {at_ j : Nat} (hp : p1 = Int32.ofNat at_) (hat : at_ ≤ 32) (hj : j < 8) : p1 + Int32.ofNat j = Int32.ofNat (at_ + j) := by rw [hp, own_addN]
theorem own_in40 {n : Nat} (h : n < 40) : ¬ Int32.ofNat n < 0 ∧ Int32.ofNat n < 40 := by
  rw [Int32.lt_iff_toInt_lt, Int32.lt_iff_toInt_lt, own_ti (by omega), show (0 : Int32).toInt = 0 from rfl, show (40 : Int32).toInt = 40 from rfl]
  omega
theorem own_in5 {n : Nat} (h : n < 5) : ¬ Int32.ofNat n < 0 ∧ Int32.ofNat n < 5 := by
  rw [Int32.lt_iff_toInt_lt, Int32.lt_iff_toInt_lt, own_ti (by omega), show (0 : Int32).toInt = 0 from rfl, show (5 : Int32).toInt = 5 from rfl]
  omega
theorem own_j {p1 jx : Int32} {at_ : Nat} (j : Nat) (hp : p1 = Int32.ofNat at_) (hat : at_ ≤ 32) (hj : j < 8) (hx : jx = p1 + Int32.ofNat j) : (¬ jx < 0 ∧ jx < 40) ∧ jx.toNatClampNeg = at_ + j := by
  rw [hx, own_jadd hp hat hj]
  exact ⟨own_in40 (by omega), own_ci (by omega)⟩

/-- one turn's first store, and the turns -/
def own_vv (f : Nat → Int32) (off i : Nat) : Int64 := (f (off + 31 - i)).toInt64 &&& (255 : Int64)
def own_g1 (g : Nat → Int64) (i : Nat) (vv : Int64) : Nat → Int64 := own_updJ g (8 * i / 52) (g (8 * i / 52) ||| ((vv <<< (Int32.ofNat (8 * i % 52) &&& 0x3f).toInt64) &&& (4503599627370495 : Int64)))
def own_of (f : Nat → Int32) (off : Nat) : Nat → Nat → Int64
  | 0 => fun _ => 0
  | i + 1 => if 8 * i % 52 ≤ 44 then own_g1 (own_of f off i) i (own_vv f off i) else own_updJ (own_g1 (own_of f off i) i (own_vv f off i)) (8 * i / 52 + 1) (own_g1 (own_of f off i) i (own_vv f off i) (8 * i / 52 + 1) ||| (((own_vv f off i).toUInt64 >>> (Int32.ofNat (52 - 8 * i % 52) &&& 0x3f).toInt64.toUInt64).toInt64))
def own_Qo (Z : State) (r0 : Addr) (n0 : Nat) (g : Nat → Int64) (h0 : Heap) : Option Value → Heap → Prop := fun v h => ∃ b k, v = some (.ref b) ∧ Keep h0 h [] ∧ Arv Z h b k .long (5 : Int32) (own_tabJ g) (.long 0)
theorem own_tabJ0 (f : Nat → Int32) (off : Nat) : own_tabJ (own_of f off 0) = [(.long (0 : Int64)), (.long (0 : Int64)), (.long (0 : Int64)), (.long (0 : Int64)), (.long (0 : Int64))] := rfl
theorem own_i31 {i : Nat} (h : i < 32) : Int32.ofNat i < 32 := by
  rw [Int32.lt_iff_toInt_lt, own_ti (by omega), show (32 : Int32).toInt = 32 from rfl]
  omega
theorem own_k {p1 : Int32} {off i : Nat} (hp : p1 = Int32.ofNat off) (hoff : off ≤ 7) (hi : i < 32) : (p1 + (31 : Int32)) - Int32.ofNat i = Int32.ofNat (off + 31 - i) := by
  rw [hp, show (31 : Int32) = Int32.ofNat 31 from rfl, own_addN, own_subN (by omega) (by omega)]
theorem own_bit {i : Nat} (hi : i < 32) : (8 : Int32) * Int32.ofNat i = Int32.ofNat (8 * i) := by
  have m := c_imul 8 (Int32.ofNat i)
  have r := rng32 ((8 : Int32) * Int32.ofNat i)
  rw [own_ti (by omega), show (8 : Int32).toInt = 8 from rfl] at m
  apply Int32.toInt_inj.mp
  rw [own_ti (by omega)]
  omega
theorem own_q {i : Nat} (hi : i < 32) : Int32.ofNat (8 * i) / (52 : Int32) = Int32.ofNat (8 * i / 52) := by
  have d := (c_idiv (Int32.ofNat (8 * i)) 52 52 (by decide) (by decide)).1 (by rw [own_ti (by omega)]; omega)
  apply Int32.toInt_inj.mp
  rw [d, own_ti (by omega), own_ti (by omega)]
  omega
theorem own_m {i : Nat} (hi : i < 32) : Int32.ofNat (8 * i) % (52 : Int32) = Int32.ofNat (8 * i % 52) := by
  have d := (c_irem (Int32.ofNat (8 * i)) 52 52 (by decide)).1 (by rw [own_ti (by omega)]; omega)
  apply Int32.toInt_inj.mp
  rw [d, own_ti (by omega), own_ti (by omega)]
  omega
theorem own_inc {n : Nat} : Int32.ofNat n + 1 = Int32.ofNat (n + 1) := (inc_ofNat n).symm
theorem own_44 {i : Nat} (hi : i < 32) : ((44 : Int32) < Int32.ofNat (8 * i % 52)) ↔ ¬ 8 * i % 52 ≤ 44 := by
  rw [Int32.lt_iff_toInt_lt, own_ti (by omega), show (44 : Int32).toInt = 44 from rfl]
  omega
theorem own_52 {i : Nat} (hi : i < 32) : (52 : Int32) - Int32.ofNat (8 * i % 52) = Int32.ofNat (52 - 8 * i % 52) := by
  rw [show (52 : Int32) = Int32.ofNat 52 from rfl, own_subN (by omega) (by omega)]

abbrev own_r1 : Room := { frames := 0, cells := 0, slots := 0, locals := 0 }
theorem d1_0 : decode method_2_code 0 = .ok (.aload_n 0, 1) := by decide +kernel
theorem d1_1 : decode method_2_code 1 = .ok (.iload_n 1, 1) := by decide +kernel
theorem d1_2 : decode method_2_code 2 = .ok (.lload_n 2, 1) := by decide +kernel
theorem d1_3 : decode method_2_code 3 = .ok (.bipush 56, 2) := by decide +kernel
theorem d1_5 : decode method_2_code 5 = .ok (.lushr, 1) := by decide +kernel
theorem d1_6 : decode method_2_code 6 = .ok (.l2i, 1) := by decide +kernel
theorem d1_7 : decode method_2_code 7 = .ok (.i2b, 1) := by decide +kernel
theorem d1_8 : decode method_2_code 8 = .ok (.bastore, 1) := by decide +kernel
theorem d1_9 : decode method_2_code 9 = .ok (.aload_n 0, 1) := by decide +kernel
theorem d1_10 : decode method_2_code 10 = .ok (.iload_n 1, 1) := by decide +kernel
theorem d1_11 : decode method_2_code 11 = .ok (.iconst 1, 1) := by decide +kernel
theorem d1_12 : decode method_2_code 12 = .ok (.iadd, 1) := by decide +kernel
theorem d1_13 : decode method_2_code 13 = .ok (.lload_n 2, 1) := by decide +kernel
theorem d1_14 : decode method_2_code 14 = .ok (.bipush 48, 2) := by decide +kernel
theorem d1_16 : decode method_2_code 16 = .ok (.lushr, 1) := by decide +kernel
theorem d1_17 : decode method_2_code 17 = .ok (.l2i, 1) := by decide +kernel
theorem d1_18 : decode method_2_code 18 = .ok (.i2b, 1) := by decide +kernel
theorem d1_19 : decode method_2_code 19 = .ok (.bastore, 1) := by decide +kernel
theorem d1_20 : decode method_2_code 20 = .ok (.aload_n 0, 1) := by decide +kernel
theorem d1_21 : decode method_2_code 21 = .ok (.iload_n 1, 1) := by decide +kernel
theorem d1_22 : decode method_2_code 22 = .ok (.iconst 2, 1) := by decide +kernel
theorem d1_23 : decode method_2_code 23 = .ok (.iadd, 1) := by decide +kernel
theorem d1_24 : decode method_2_code 24 = .ok (.lload_n 2, 1) := by decide +kernel
theorem d1_25 : decode method_2_code 25 = .ok (.bipush 40, 2) := by decide +kernel
theorem d1_27 : decode method_2_code 27 = .ok (.lushr, 1) := by decide +kernel
theorem d1_28 : decode method_2_code 28 = .ok (.l2i, 1) := by decide +kernel
theorem d1_29 : decode method_2_code 29 = .ok (.i2b, 1) := by decide +kernel
theorem d1_30 : decode method_2_code 30 = .ok (.bastore, 1) := by decide +kernel
theorem d1_31 : decode method_2_code 31 = .ok (.aload_n 0, 1) := by decide +kernel
theorem d1_32 : decode method_2_code 32 = .ok (.iload_n 1, 1) := by decide +kernel
theorem d1_33 : decode method_2_code 33 = .ok (.iconst 3, 1) := by decide +kernel
theorem d1_34 : decode method_2_code 34 = .ok (.iadd, 1) := by decide +kernel
theorem d1_35 : decode method_2_code 35 = .ok (.lload_n 2, 1) := by decide +kernel
theorem d1_36 : decode method_2_code 36 = .ok (.bipush 32, 2) := by decide +kernel
theorem d1_38 : decode method_2_code 38 = .ok (.lushr, 1) := by decide +kernel
theorem d1_39 : decode method_2_code 39 = .ok (.l2i, 1) := by decide +kernel
theorem d1_40 : decode method_2_code 40 = .ok (.i2b, 1) := by decide +kernel
theorem d1_41 : decode method_2_code 41 = .ok (.bastore, 1) := by decide +kernel
theorem d1_42 : decode method_2_code 42 = .ok (.aload_n 0, 1) := by decide +kernel
theorem d1_43 : decode method_2_code 43 = .ok (.iload_n 1, 1) := by decide +kernel
theorem d1_44 : decode method_2_code 44 = .ok (.iconst 4, 1) := by decide +kernel
theorem d1_45 : decode method_2_code 45 = .ok (.iadd, 1) := by decide +kernel
theorem d1_46 : decode method_2_code 46 = .ok (.lload_n 2, 1) := by decide +kernel
theorem d1_47 : decode method_2_code 47 = .ok (.bipush 24, 2) := by decide +kernel
theorem d1_49 : decode method_2_code 49 = .ok (.lushr, 1) := by decide +kernel
theorem d1_50 : decode method_2_code 50 = .ok (.l2i, 1) := by decide +kernel
theorem d1_51 : decode method_2_code 51 = .ok (.i2b, 1) := by decide +kernel
theorem d1_52 : decode method_2_code 52 = .ok (.bastore, 1) := by decide +kernel
theorem d1_53 : decode method_2_code 53 = .ok (.aload_n 0, 1) := by decide +kernel
theorem d1_54 : decode method_2_code 54 = .ok (.iload_n 1, 1) := by decide +kernel
theorem d1_55 : decode method_2_code 55 = .ok (.iconst 5, 1) := by decide +kernel
theorem d1_56 : decode method_2_code 56 = .ok (.iadd, 1) := by decide +kernel
theorem d1_57 : decode method_2_code 57 = .ok (.lload_n 2, 1) := by decide +kernel
theorem d1_58 : decode method_2_code 58 = .ok (.bipush 16, 2) := by decide +kernel
theorem d1_60 : decode method_2_code 60 = .ok (.lushr, 1) := by decide +kernel
theorem d1_61 : decode method_2_code 61 = .ok (.l2i, 1) := by decide +kernel
theorem d1_62 : decode method_2_code 62 = .ok (.i2b, 1) := by decide +kernel
theorem d1_63 : decode method_2_code 63 = .ok (.bastore, 1) := by decide +kernel
theorem d1_64 : decode method_2_code 64 = .ok (.aload_n 0, 1) := by decide +kernel
theorem d1_65 : decode method_2_code 65 = .ok (.iload_n 1, 1) := by decide +kernel
theorem d1_66 : decode method_2_code 66 = .ok (.bipush 6, 2) := by decide +kernel
theorem d1_68 : decode method_2_code 68 = .ok (.iadd, 1) := by decide +kernel
theorem d1_69 : decode method_2_code 69 = .ok (.lload_n 2, 1) := by decide +kernel
theorem d1_70 : decode method_2_code 70 = .ok (.bipush 8, 2) := by decide +kernel
theorem d1_72 : decode method_2_code 72 = .ok (.lushr, 1) := by decide +kernel
theorem d1_73 : decode method_2_code 73 = .ok (.l2i, 1) := by decide +kernel
theorem d1_74 : decode method_2_code 74 = .ok (.i2b, 1) := by decide +kernel
theorem d1_75 : decode method_2_code 75 = .ok (.bastore, 1) := by decide +kernel
theorem d1_76 : decode method_2_code 76 = .ok (.aload_n 0, 1) := by decide +kernel
theorem d1_77 : decode method_2_code 77 = .ok (.iload_n 1, 1) := by decide +kernel
theorem d1_78 : decode method_2_code 78 = .ok (.bipush 7, 2) := by decide +kernel
theorem d1_80 : decode method_2_code 80 = .ok (.iadd, 1) := by decide +kernel
theorem d1_81 : decode method_2_code 81 = .ok (.lload_n 2, 1) := by decide +kernel
theorem d1_82 : decode method_2_code 82 = .ok (.l2i, 1) := by decide +kernel
theorem d1_83 : decode method_2_code 83 = .ok (.i2b, 1) := by decide +kernel
theorem d1_84 : decode method_2_code 84 = .ok (.bastore, 1) := by decide +kernel
theorem d1_85 : decode method_2_code 85 = .ok (.return_, 1) := by decide +kernel
theorem ef_1 (m : MethodId) (r0 : Addr) (p1 : Int32) (q2 : Int64) : entryFrame m #[(.ref r0), (.int p1), (.long q2)] 4 = mkF m 0 #[.val (.ref r0), .val (.int p1), .val (.long q2), .second] [] := by first | (simp [entryFrame, mkF, argsToLocals, Value.category]; done) | rfl
set_option maxRecDepth 65536 in
set_option maxHeartbeats 40000000 in
theorem rm1 (l : Launch) (Z : State) (a0 : Array Value) (hw : ∀ d ∈ tables_1, d.before a0 Z = true) (r0 : Addr) (p1 : Int32) (q2 : Int64) (k : ClassId) (f : Nat → Int32) (at_ : Nat) (h0 : Heap) (n0 : Nat) (Z0 : n0 ≤ h0.size) (ga_r0 : n0 ≤ r0) (V0 : Arv Z h0 r0 k .byte (40 : Int32) (own_tab f) (.int 0)) (hp : p1 = Int32.ofNat at_) (hat : at_ ≤ 32) : own_Con [] l Z (⟨"com/example/linkwell/linkwell/cards/P256ScalarOfPinLaw", "put", "([BIJ)V"⟩ : MethodName) method_2_code 4 none own_r1 n0 #[(.ref r0), (.int p1), (.long q2)] h0 (own_Qp Z r0 k (own_put f at_ q2) h0) := by
  refine own_body (plainFor_of_name (by first | (simp [plainName, overriddenIn]; done) | decide +kernel)) (fun m => mkF m 0 #[.val (.ref r0), .val (.int p1), .val (.long q2), .second] []) (fun m => ef_1 m r0 p1 q2) ?_
  intro p e s m below meth c s₁ hx hby hml hown hnm hZ hret hlk X0 e0 N0
  have K0 := Keep.refl h0 [r0]
  refine own_go (T' := s₁) (g' := (mkF m 8 #[.val (.ref r0), .val (.int p1), .val (.long q2), .second] [(.int ((((q2.toUInt64 >>> ((56 : Int32) &&& 0x3f).toInt64.toUInt64).toInt64).toInt32).toInt8.toInt32)), (.int p1), (.ref r0)])) (fun t k => ?_) ?_
  · show Steps p.tables e below (s₁.setTop (mkF m 0 #[.val (.ref r0), .val (.int p1), .val (.long q2), .second] [])) t
    refine XS.aloadN X0.here hx rfl (hb hby d1_0) rfl rfl ?_
    show Steps p.tables e below (s₁.setTop (mkF m 1 #[.val (.ref r0), .val (.int p1), .val (.long q2), .second] [(.ref r0)])) _
    refine XS.iloadN X0.here hx rfl (hb hby d1_1) rfl ?_
    show Steps p.tables e below (s₁.setTop (mkF m 2 #[.val (.ref r0), .val (.int p1), .val (.long q2), .second] [(.int p1), (.ref r0)])) _
    refine XS.lloadN X0.here hx rfl (hb hby d1_2) rfl ?_
    show Steps p.tables e below (s₁.setTop (mkF m 3 #[.val (.ref r0), .val (.int p1), .val (.long q2), .second] [(.long q2), (.int p1), (.ref r0)])) _
    refine XS.bipush X0.here hx rfl (hb hby d1_3) ?_
    show Steps p.tables e below (s₁.setTop (mkF m 5 #[.val (.ref r0), .val (.int p1), .val (.long q2), .second] [(.int (56 : Int32)), (.long q2), (.int p1), (.ref r0)])) _
    refine XS.lushr X0.here hx rfl (hb hby d1_5) rfl ?_
    show Steps p.tables e below (s₁.setTop (mkF m 6 #[.val (.ref r0), .val (.int p1), .val (.long q2), .second] [(.long ((q2.toUInt64 >>> ((56 : Int32) &&& 0x3f).toInt64.toUInt64).toInt64)), (.int p1), (.ref r0)])) _
    refine XS.l2i X0.here hx rfl (hb hby d1_6) rfl ?_
    show Steps p.tables e below (s₁.setTop (mkF m 7 #[.val (.ref r0), .val (.int p1), .val (.long q2), .second] [(.int (((q2.toUInt64 >>> ((56 : Int32) &&& 0x3f).toInt64.toUInt64).toInt64).toInt32)), (.int p1), (.ref r0)])) _
    refine XS.i2b X0.here hx rfl (hb hby d1_7) rfl ?_
    show Steps p.tables e below (s₁.setTop (mkF m 8 #[.val (.ref r0), .val (.int p1), .val (.long q2), .second] [(.int ((((q2.toUInt64 >>> ((56 : Int32) &&& 0x3f).toInt64.toUInt64).toInt64).toInt32).toInt8.toInt32)), (.int p1), (.ref r0)])) _
    exact k
  have J1 := own_j (jx := p1) 0 hp hat (by decide) (by rw [show (Int32.ofNat 0) = (0 : Int32) from rfl, Int32.add_zero])
  obtain ⟨T1, h1, L1, X1, N1, e1, W1, Y1, st1⟩ := own_stB X0 hx hZ e0 V0 (j := p1) J1.1 (at_ + 0) J1.2 (by rw [own_tab_len]; omega) N0 ga_r0 (g := (mkF m 8 #[.val (.ref r0), .val (.int p1), .val (.long q2), .second] [(.int ((((q2.toUInt64 >>> ((56 : Int32) &&& 0x3f).toInt64.toUInt64).toInt64).toInt32).toInt8.toInt32)), (.int p1), (.ref r0)])) rfl rfl (hb hby d1_8)
  rw [own_narb] at W1 Y1
  rw [own_tab_set] at Y1
  have K1 := K0.wr W1 (Or.inl (List.mem_of_getElem? (i := 0) rfl))
  refine own_go (T' := T1) (g' := (mkF m 9 #[.val (.ref r0), .val (.int p1), .val (.long q2), .second] [])) st1 ?_
  refine own_go (T' := T1) (g' := (mkF m 19 #[.val (.ref r0), .val (.int p1), .val (.long q2), .second] [(.int ((((q2.toUInt64 >>> ((48 : Int32) &&& 0x3f).toInt64.toUInt64).toInt64).toInt32).toInt8.toInt32)), (.int (p1 + (1 : Int32))), (.ref r0)])) (fun t k => ?_) ?_
  · show Steps p.tables e below (T1.setTop (mkF m 9 #[.val (.ref r0), .val (.int p1), .val (.long q2), .second] [])) t
    refine XS.aloadN X1.here hx rfl (hb hby d1_9) rfl rfl ?_
    show Steps p.tables e below (T1.setTop (mkF m 10 #[.val (.ref r0), .val (.int p1), .val (.long q2), .second] [(.ref r0)])) _
    refine XS.iloadN X1.here hx rfl (hb hby d1_10) rfl ?_
    show Steps p.tables e below (T1.setTop (mkF m 11 #[.val (.ref r0), .val (.int p1), .val (.long q2), .second] [(.int p1), (.ref r0)])) _
    refine XS.iconst X1.here hx rfl (hb hby d1_11) ?_
    show Steps p.tables e below (T1.setTop (mkF m 12 #[.val (.ref r0), .val (.int p1), .val (.long q2), .second] [(.int (1 : Int32)), (.int p1), (.ref r0)])) _
    refine XS.iadd X1.here hx rfl (hb hby d1_12) rfl ?_
    show Steps p.tables e below (T1.setTop (mkF m 13 #[.val (.ref r0), .val (.int p1), .val (.long q2), .second] [(.int (p1 + (1 : Int32))), (.ref r0)])) _
    refine XS.lloadN X1.here hx rfl (hb hby d1_13) rfl ?_
    show Steps p.tables e below (T1.setTop (mkF m 14 #[.val (.ref r0), .val (.int p1), .val (.long q2), .second] [(.long q2), (.int (p1 + (1 : Int32))), (.ref r0)])) _
    refine XS.bipush X1.here hx rfl (hb hby d1_14) ?_
    show Steps p.tables e below (T1.setTop (mkF m 16 #[.val (.ref r0), .val (.int p1), .val (.long q2), .second] [(.int (48 : Int32)), (.long q2), (.int (p1 + (1 : Int32))), (.ref r0)])) _
    refine XS.lushr X1.here hx rfl (hb hby d1_16) rfl ?_
    show Steps p.tables e below (T1.setTop (mkF m 17 #[.val (.ref r0), .val (.int p1), .val (.long q2), .second] [(.long ((q2.toUInt64 >>> ((48 : Int32) &&& 0x3f).toInt64.toUInt64).toInt64)), (.int (p1 + (1 : Int32))), (.ref r0)])) _
    refine XS.l2i X1.here hx rfl (hb hby d1_17) rfl ?_
    show Steps p.tables e below (T1.setTop (mkF m 18 #[.val (.ref r0), .val (.int p1), .val (.long q2), .second] [(.int (((q2.toUInt64 >>> ((48 : Int32) &&& 0x3f).toInt64.toUInt64).toInt64).toInt32)), (.int (p1 + (1 : Int32))), (.ref r0)])) _
    refine XS.i2b X1.here hx rfl (hb hby d1_18) rfl ?_
    show Steps p.tables e below (T1.setTop (mkF m 19 #[.val (.ref r0), .val (.int p1), .val (.long q2), .second] [(.int ((((q2.toUInt64 >>> ((48 : Int32) &&& 0x3f).toInt64.toUInt64).toInt64).toInt32).toInt8.toInt32)), (.int (p1 + (1 : Int32))), (.ref r0)])) _
    exact k
  have J2 := own_j (jx := (p1 + (1 : Int32))) 1 hp hat (by decide) rfl
  obtain ⟨T2, h2, L2, X2, N2, e2, W2, Y2, st2⟩ := own_stB X1 hx hZ e1 Y1 (j := (p1 + (1 : Int32))) J2.1 (at_ + 1) J2.2 (by rw [own_tab_len]; omega) N1 ga_r0 (g := (mkF m 19 #[.val (.ref r0), .val (.int p1), .val (.long q2), .second] [(.int ((((q2.toUInt64 >>> ((48 : Int32) &&& 0x3f).toInt64.toUInt64).toInt64).toInt32).toInt8.toInt32)), (.int (p1 + (1 : Int32))), (.ref r0)])) rfl rfl (hb hby d1_19)
  rw [own_narb] at W2 Y2
  rw [own_tab_set] at Y2
  have K2 := K1.wr W2 (Or.inl (List.mem_of_getElem? (i := 0) rfl))
  refine own_go (T' := T2) (g' := (mkF m 20 #[.val (.ref r0), .val (.int p1), .val (.long q2), .second] [])) st2 ?_
  refine own_go (T' := T2) (g' := (mkF m 30 #[.val (.ref r0), .val (.int p1), .val (.long q2), .second] [(.int ((((q2.toUInt64 >>> ((40 : Int32) &&& 0x3f).toInt64.toUInt64).toInt64).toInt32).toInt8.toInt32)), (.int (p1 + (2 : Int32))), (.ref r0)])) (fun t k => ?_) ?_
  · show Steps p.tables e below (T2.setTop (mkF m 20 #[.val (.ref r0), .val (.int p1), .val (.long q2), .second] [])) t
    refine XS.aloadN X2.here hx rfl (hb hby d1_20) rfl rfl ?_
    show Steps p.tables e below (T2.setTop (mkF m 21 #[.val (.ref r0), .val (.int p1), .val (.long q2), .second] [(.ref r0)])) _
    refine XS.iloadN X2.here hx rfl (hb hby d1_21) rfl ?_
    show Steps p.tables e below (T2.setTop (mkF m 22 #[.val (.ref r0), .val (.int p1), .val (.long q2), .second] [(.int p1), (.ref r0)])) _
    refine XS.iconst X2.here hx rfl (hb hby d1_22) ?_
    show Steps p.tables e below (T2.setTop (mkF m 23 #[.val (.ref r0), .val (.int p1), .val (.long q2), .second] [(.int (2 : Int32)), (.int p1), (.ref r0)])) _
    refine XS.iadd X2.here hx rfl (hb hby d1_23) rfl ?_
    show Steps p.tables e below (T2.setTop (mkF m 24 #[.val (.ref r0), .val (.int p1), .val (.long q2), .second] [(.int (p1 + (2 : Int32))), (.ref r0)])) _
    refine XS.lloadN X2.here hx rfl (hb hby d1_24) rfl ?_
    show Steps p.tables e below (T2.setTop (mkF m 25 #[.val (.ref r0), .val (.int p1), .val (.long q2), .second] [(.long q2), (.int (p1 + (2 : Int32))), (.ref r0)])) _
    refine XS.bipush X2.here hx rfl (hb hby d1_25) ?_
    show Steps p.tables e below (T2.setTop (mkF m 27 #[.val (.ref r0), .val (.int p1), .val (.long q2), .second] [(.int (40 : Int32)), (.long q2), (.int (p1 + (2 : Int32))), (.ref r0)])) _
    refine XS.lushr X2.here hx rfl (hb hby d1_27) rfl ?_
    show Steps p.tables e below (T2.setTop (mkF m 28 #[.val (.ref r0), .val (.int p1), .val (.long q2), .second] [(.long ((q2.toUInt64 >>> ((40 : Int32) &&& 0x3f).toInt64.toUInt64).toInt64)), (.int (p1 + (2 : Int32))), (.ref r0)])) _
    refine XS.l2i X2.here hx rfl (hb hby d1_28) rfl ?_
    show Steps p.tables e below (T2.setTop (mkF m 29 #[.val (.ref r0), .val (.int p1), .val (.long q2), .second] [(.int (((q2.toUInt64 >>> ((40 : Int32) &&& 0x3f).toInt64.toUInt64).toInt64).toInt32)), (.int (p1 + (2 : Int32))), (.ref r0)])) _
    refine XS.i2b X2.here hx rfl (hb hby d1_29) rfl ?_
    show Steps p.tables e below (T2.setTop (mkF m 30 #[.val (.ref r0), .val (.int p1), .val (.long q2), .second] [(.int ((((q2.toUInt64 >>> ((40 : Int32) &&& 0x3f).toInt64.toUInt64).toInt64).toInt32).toInt8.toInt32)), (.int (p1 + (2 : Int32))), (.ref r0)])) _
    exact k
  have J3 := own_j (jx := (p1 + (2 : Int32))) 2 hp hat (by decide) rfl
  obtain ⟨T3, h3, L3, X3, N3, e3, W3, Y3, st3⟩ := own_stB X2 hx hZ e2 Y2 (j := (p1 + (2 : Int32))) J3.1 (at_ + 2) J3.2 (by rw [own_tab_len]; omega) N2 ga_r0 (g := (mkF m 30 #[.val (.ref r0), .val (.int p1), .val (.long q2), .second] [(.int ((((q2.toUInt64 >>> ((40 : Int32) &&& 0x3f).toInt64.toUInt64).toInt64).toInt32).toInt8.toInt32)), (.int (p1 + (2 : Int32))), (.ref r0)])) rfl rfl (hb hby d1_30)
  rw [own_narb] at W3 Y3
  rw [own_tab_set] at Y3
  have K3 := K2.wr W3 (Or.inl (List.mem_of_getElem? (i := 0) rfl))
  refine own_go (T' := T3) (g' := (mkF m 31 #[.val (.ref r0), .val (.int p1), .val (.long q2), .second] [])) st3 ?_
  refine own_go (T' := T3) (g' := (mkF m 41 #[.val (.ref r0), .val (.int p1), .val (.long q2), .second] [(.int ((((q2.toUInt64 >>> ((32 : Int32) &&& 0x3f).toInt64.toUInt64).toInt64).toInt32).toInt8.toInt32)), (.int (p1 + (3 : Int32))), (.ref r0)])) (fun t k => ?_) ?_
  · show Steps p.tables e below (T3.setTop (mkF m 31 #[.val (.ref r0), .val (.int p1), .val (.long q2), .second] [])) t
    refine XS.aloadN X3.here hx rfl (hb hby d1_31) rfl rfl ?_
    show Steps p.tables e below (T3.setTop (mkF m 32 #[.val (.ref r0), .val (.int p1), .val (.long q2), .second] [(.ref r0)])) _
    refine XS.iloadN X3.here hx rfl (hb hby d1_32) rfl ?_
    show Steps p.tables e below (T3.setTop (mkF m 33 #[.val (.ref r0), .val (.int p1), .val (.long q2), .second] [(.int p1), (.ref r0)])) _
    refine XS.iconst X3.here hx rfl (hb hby d1_33) ?_
    show Steps p.tables e below (T3.setTop (mkF m 34 #[.val (.ref r0), .val (.int p1), .val (.long q2), .second] [(.int (3 : Int32)), (.int p1), (.ref r0)])) _
    refine XS.iadd X3.here hx rfl (hb hby d1_34) rfl ?_
    show Steps p.tables e below (T3.setTop (mkF m 35 #[.val (.ref r0), .val (.int p1), .val (.long q2), .second] [(.int (p1 + (3 : Int32))), (.ref r0)])) _
    refine XS.lloadN X3.here hx rfl (hb hby d1_35) rfl ?_
    show Steps p.tables e below (T3.setTop (mkF m 36 #[.val (.ref r0), .val (.int p1), .val (.long q2), .second] [(.long q2), (.int (p1 + (3 : Int32))), (.ref r0)])) _
    refine XS.bipush X3.here hx rfl (hb hby d1_36) ?_
    show Steps p.tables e below (T3.setTop (mkF m 38 #[.val (.ref r0), .val (.int p1), .val (.long q2), .second] [(.int (32 : Int32)), (.long q2), (.int (p1 + (3 : Int32))), (.ref r0)])) _
    refine XS.lushr X3.here hx rfl (hb hby d1_38) rfl ?_
    show Steps p.tables e below (T3.setTop (mkF m 39 #[.val (.ref r0), .val (.int p1), .val (.long q2), .second] [(.long ((q2.toUInt64 >>> ((32 : Int32) &&& 0x3f).toInt64.toUInt64).toInt64)), (.int (p1 + (3 : Int32))), (.ref r0)])) _
    refine XS.l2i X3.here hx rfl (hb hby d1_39) rfl ?_
    show Steps p.tables e below (T3.setTop (mkF m 40 #[.val (.ref r0), .val (.int p1), .val (.long q2), .second] [(.int (((q2.toUInt64 >>> ((32 : Int32) &&& 0x3f).toInt64.toUInt64).toInt64).toInt32)), (.int (p1 + (3 : Int32))), (.ref r0)])) _
    refine XS.i2b X3.here hx rfl (hb hby d1_40) rfl ?_
    show Steps p.tables e below (T3.setTop (mkF m 41 #[.val (.ref r0), .val (.int p1), .val (.long q2), .second] [(.int ((((q2.toUInt64 >>> ((32 : Int32) &&& 0x3f).toInt64.toUInt64).toInt64).toInt32).toInt8.toInt32)), (.int (p1 + (3 : Int32))), (.ref r0)])) _
    exact k
  have J4 := own_j (jx := (p1 + (3 : Int32))) 3 hp hat (by decide) rfl
  obtain ⟨T4, h4, L4, X4, N4, e4, W4, Y4, st4⟩ := own_stB X3 hx hZ e3 Y3 (j := (p1 + (3 : Int32))) J4.1 (at_ + 3) J4.2 (by rw [own_tab_len]; omega) N3 ga_r0 (g := (mkF m 41 #[.val (.ref r0), .val (.int p1), .val (.long q2), .second] [(.int ((((q2.toUInt64 >>> ((32 : Int32) &&& 0x3f).toInt64.toUInt64).toInt64).toInt32).toInt8.toInt32)), (.int (p1 + (3 : Int32))), (.ref r0)])) rfl rfl (hb hby d1_41)
  rw [own_narb] at W4 Y4
  rw [own_tab_set] at Y4
  have K4 := K3.wr W4 (Or.inl (List.mem_of_getElem? (i := 0) rfl))
  refine own_go (T' := T4) (g' := (mkF m 42 #[.val (.ref r0), .val (.int p1), .val (.long q2), .second] [])) st4 ?_
  refine own_go (T' := T4) (g' := (mkF m 52 #[.val (.ref r0), .val (.int p1), .val (.long q2), .second] [(.int ((((q2.toUInt64 >>> ((24 : Int32) &&& 0x3f).toInt64.toUInt64).toInt64).toInt32).toInt8.toInt32)), (.int (p1 + (4 : Int32))), (.ref r0)])) (fun t k => ?_) ?_
  · show Steps p.tables e below (T4.setTop (mkF m 42 #[.val (.ref r0), .val (.int p1), .val (.long q2), .second] [])) t
    refine XS.aloadN X4.here hx rfl (hb hby d1_42) rfl rfl ?_
    show Steps p.tables e below (T4.setTop (mkF m 43 #[.val (.ref r0), .val (.int p1), .val (.long q2), .second] [(.ref r0)])) _
    refine XS.iloadN X4.here hx rfl (hb hby d1_43) rfl ?_
    show Steps p.tables e below (T4.setTop (mkF m 44 #[.val (.ref r0), .val (.int p1), .val (.long q2), .second] [(.int p1), (.ref r0)])) _
    refine XS.iconst X4.here hx rfl (hb hby d1_44) ?_
    show Steps p.tables e below (T4.setTop (mkF m 45 #[.val (.ref r0), .val (.int p1), .val (.long q2), .second] [(.int (4 : Int32)), (.int p1), (.ref r0)])) _
    refine XS.iadd X4.here hx rfl (hb hby d1_45) rfl ?_
    show Steps p.tables e below (T4.setTop (mkF m 46 #[.val (.ref r0), .val (.int p1), .val (.long q2), .second] [(.int (p1 + (4 : Int32))), (.ref r0)])) _
    refine XS.lloadN X4.here hx rfl (hb hby d1_46) rfl ?_
    show Steps p.tables e below (T4.setTop (mkF m 47 #[.val (.ref r0), .val (.int p1), .val (.long q2), .second] [(.long q2), (.int (p1 + (4 : Int32))), (.ref r0)])) _
    refine XS.bipush X4.here hx rfl (hb hby d1_47) ?_
    show Steps p.tables e below (T4.setTop (mkF m 49 #[.val (.ref r0), .val (.int p1), .val (.long q2), .second] [(.int (24 : Int32)), (.long q2), (.int (p1 + (4 : Int32))), (.ref r0)])) _
    refine XS.lushr X4.here hx rfl (hb hby d1_49) rfl ?_
    show Steps p.tables e below (T4.setTop (mkF m 50 #[.val (.ref r0), .val (.int p1), .val (.long q2), .second] [(.long ((q2.toUInt64 >>> ((24 : Int32) &&& 0x3f).toInt64.toUInt64).toInt64)), (.int (p1 + (4 : Int32))), (.ref r0)])) _
    refine XS.l2i X4.here hx rfl (hb hby d1_50) rfl ?_
    show Steps p.tables e below (T4.setTop (mkF m 51 #[.val (.ref r0), .val (.int p1), .val (.long q2), .second] [(.int (((q2.toUInt64 >>> ((24 : Int32) &&& 0x3f).toInt64.toUInt64).toInt64).toInt32)), (.int (p1 + (4 : Int32))), (.ref r0)])) _
    refine XS.i2b X4.here hx rfl (hb hby d1_51) rfl ?_
    show Steps p.tables e below (T4.setTop (mkF m 52 #[.val (.ref r0), .val (.int p1), .val (.long q2), .second] [(.int ((((q2.toUInt64 >>> ((24 : Int32) &&& 0x3f).toInt64.toUInt64).toInt64).toInt32).toInt8.toInt32)), (.int (p1 + (4 : Int32))), (.ref r0)])) _
    exact k
  have J5 := own_j (jx := (p1 + (4 : Int32))) 4 hp hat (by decide) rfl
  obtain ⟨T5, h5, L5, X5, N5, e5, W5, Y5, st5⟩ := own_stB X4 hx hZ e4 Y4 (j := (p1 + (4 : Int32))) J5.1 (at_ + 4) J5.2 (by rw [own_tab_len]; omega) N4 ga_r0 (g := (mkF m 52 #[.val (.ref r0), .val (.int p1), .val (.long q2), .second] [(.int ((((q2.toUInt64 >>> ((24 : Int32) &&& 0x3f).toInt64.toUInt64).toInt64).toInt32).toInt8.toInt32)), (.int (p1 + (4 : Int32))), (.ref r0)])) rfl rfl (hb hby d1_52)
  rw [own_narb] at W5 Y5
  rw [own_tab_set] at Y5
  have K5 := K4.wr W5 (Or.inl (List.mem_of_getElem? (i := 0) rfl))
  refine own_go (T' := T5) (g' := (mkF m 53 #[.val (.ref r0), .val (.int p1), .val (.long q2), .second] [])) st5 ?_
  refine own_go (T' := T5) (g' := (mkF m 63 #[.val (.ref r0), .val (.int p1), .val (.long q2), .second] [(.int ((((q2.toUInt64 >>> ((16 : Int32) &&& 0x3f).toInt64.toUInt64).toInt64).toInt32).toInt8.toInt32)), (.int (p1 + (5 : Int32))), (.ref r0)])) (fun t k => ?_) ?_
  · show Steps p.tables e below (T5.setTop (mkF m 53 #[.val (.ref r0), .val (.int p1), .val (.long q2), .second] [])) t
    refine XS.aloadN X5.here hx rfl (hb hby d1_53) rfl rfl ?_
    show Steps p.tables e below (T5.setTop (mkF m 54 #[.val (.ref r0), .val (.int p1), .val (.long q2), .second] [(.ref r0)])) _
    refine XS.iloadN X5.here hx rfl (hb hby d1_54) rfl ?_
    show Steps p.tables e below (T5.setTop (mkF m 55 #[.val (.ref r0), .val (.int p1), .val (.long q2), .second] [(.int p1), (.ref r0)])) _
    refine XS.iconst X5.here hx rfl (hb hby d1_55) ?_
    show Steps p.tables e below (T5.setTop (mkF m 56 #[.val (.ref r0), .val (.int p1), .val (.long q2), .second] [(.int (5 : Int32)), (.int p1), (.ref r0)])) _
    refine XS.iadd X5.here hx rfl (hb hby d1_56) rfl ?_
    show Steps p.tables e below (T5.setTop (mkF m 57 #[.val (.ref r0), .val (.int p1), .val (.long q2), .second] [(.int (p1 + (5 : Int32))), (.ref r0)])) _
    refine XS.lloadN X5.here hx rfl (hb hby d1_57) rfl ?_
    show Steps p.tables e below (T5.setTop (mkF m 58 #[.val (.ref r0), .val (.int p1), .val (.long q2), .second] [(.long q2), (.int (p1 + (5 : Int32))), (.ref r0)])) _
    refine XS.bipush X5.here hx rfl (hb hby d1_58) ?_
    show Steps p.tables e below (T5.setTop (mkF m 60 #[.val (.ref r0), .val (.int p1), .val (.long q2), .second] [(.int (16 : Int32)), (.long q2), (.int (p1 + (5 : Int32))), (.ref r0)])) _
    refine XS.lushr X5.here hx rfl (hb hby d1_60) rfl ?_
    show Steps p.tables e below (T5.setTop (mkF m 61 #[.val (.ref r0), .val (.int p1), .val (.long q2), .second] [(.long ((q2.toUInt64 >>> ((16 : Int32) &&& 0x3f).toInt64.toUInt64).toInt64)), (.int (p1 + (5 : Int32))), (.ref r0)])) _
    refine XS.l2i X5.here hx rfl (hb hby d1_61) rfl ?_
    show Steps p.tables e below (T5.setTop (mkF m 62 #[.val (.ref r0), .val (.int p1), .val (.long q2), .second] [(.int (((q2.toUInt64 >>> ((16 : Int32) &&& 0x3f).toInt64.toUInt64).toInt64).toInt32)), (.int (p1 + (5 : Int32))), (.ref r0)])) _
    refine XS.i2b X5.here hx rfl (hb hby d1_62) rfl ?_
    show Steps p.tables e below (T5.setTop (mkF m 63 #[.val (.ref r0), .val (.int p1), .val (.long q2), .second] [(.int ((((q2.toUInt64 >>> ((16 : Int32) &&& 0x3f).toInt64.toUInt64).toInt64).toInt32).toInt8.toInt32)), (.int (p1 + (5 : Int32))), (.ref r0)])) _
    exact k
  have J6 := own_j (jx := (p1 + (5 : Int32))) 5 hp hat (by decide) rfl
  obtain ⟨T6, h6, L6, X6, N6, e6, W6, Y6, st6⟩ := own_stB X5 hx hZ e5 Y5 (j := (p1 + (5 : Int32))) J6.1 (at_ + 5) J6.2 (by rw [own_tab_len]; omega) N5 ga_r0 (g := (mkF m 63 #[.val (.ref r0), .val (.int p1), .val (.long q2), .second] [(.int ((((q2.toUInt64 >>> ((16 : Int32) &&& 0x3f).toInt64.toUInt64).toInt64).toInt32).toInt8.toInt32)), (.int (p1 + (5 : Int32))), (.ref r0)])) rfl rfl (hb hby d1_63)
  rw [own_narb] at W6 Y6
  rw [own_tab_set] at Y6
  have K6 := K5.wr W6 (Or.inl (List.mem_of_getElem? (i := 0) rfl))
  refine own_go (T' := T6) (g' := (mkF m 64 #[.val (.ref r0), .val (.int p1), .val (.long q2), .second] [])) st6 ?_
  refine own_go (T' := T6) (g' := (mkF m 75 #[.val (.ref r0), .val (.int p1), .val (.long q2), .second] [(.int ((((q2.toUInt64 >>> ((8 : Int32) &&& 0x3f).toInt64.toUInt64).toInt64).toInt32).toInt8.toInt32)), (.int (p1 + (6 : Int32))), (.ref r0)])) (fun t k => ?_) ?_
  · show Steps p.tables e below (T6.setTop (mkF m 64 #[.val (.ref r0), .val (.int p1), .val (.long q2), .second] [])) t
    refine XS.aloadN X6.here hx rfl (hb hby d1_64) rfl rfl ?_
    show Steps p.tables e below (T6.setTop (mkF m 65 #[.val (.ref r0), .val (.int p1), .val (.long q2), .second] [(.ref r0)])) _
    refine XS.iloadN X6.here hx rfl (hb hby d1_65) rfl ?_
    show Steps p.tables e below (T6.setTop (mkF m 66 #[.val (.ref r0), .val (.int p1), .val (.long q2), .second] [(.int p1), (.ref r0)])) _
    refine XS.bipush X6.here hx rfl (hb hby d1_66) ?_
    show Steps p.tables e below (T6.setTop (mkF m 68 #[.val (.ref r0), .val (.int p1), .val (.long q2), .second] [(.int (6 : Int32)), (.int p1), (.ref r0)])) _
    refine XS.iadd X6.here hx rfl (hb hby d1_68) rfl ?_
    show Steps p.tables e below (T6.setTop (mkF m 69 #[.val (.ref r0), .val (.int p1), .val (.long q2), .second] [(.int (p1 + (6 : Int32))), (.ref r0)])) _
    refine XS.lloadN X6.here hx rfl (hb hby d1_69) rfl ?_
    show Steps p.tables e below (T6.setTop (mkF m 70 #[.val (.ref r0), .val (.int p1), .val (.long q2), .second] [(.long q2), (.int (p1 + (6 : Int32))), (.ref r0)])) _
    refine XS.bipush X6.here hx rfl (hb hby d1_70) ?_
    show Steps p.tables e below (T6.setTop (mkF m 72 #[.val (.ref r0), .val (.int p1), .val (.long q2), .second] [(.int (8 : Int32)), (.long q2), (.int (p1 + (6 : Int32))), (.ref r0)])) _
    refine XS.lushr X6.here hx rfl (hb hby d1_72) rfl ?_
    show Steps p.tables e below (T6.setTop (mkF m 73 #[.val (.ref r0), .val (.int p1), .val (.long q2), .second] [(.long ((q2.toUInt64 >>> ((8 : Int32) &&& 0x3f).toInt64.toUInt64).toInt64)), (.int (p1 + (6 : Int32))), (.ref r0)])) _
    refine XS.l2i X6.here hx rfl (hb hby d1_73) rfl ?_
    show Steps p.tables e below (T6.setTop (mkF m 74 #[.val (.ref r0), .val (.int p1), .val (.long q2), .second] [(.int (((q2.toUInt64 >>> ((8 : Int32) &&& 0x3f).toInt64.toUInt64).toInt64).toInt32)), (.int (p1 + (6 : Int32))), (.ref r0)])) _
    refine XS.i2b X6.here hx rfl (hb hby d1_74) rfl ?_
    show Steps p.tables e below (T6.setTop (mkF m 75 #[.val (.ref r0), .val (.int p1), .val (.long q2), .second] [(.int ((((q2.toUInt64 >>> ((8 : Int32) &&& 0x3f).toInt64.toUInt64).toInt64).toInt32).toInt8.toInt32)), (.int (p1 + (6 : Int32))), (.ref r0)])) _
    exact k
  have J7 := own_j (jx := (p1 + (6 : Int32))) 6 hp hat (by decide) rfl
  obtain ⟨T7, h7, L7, X7, N7, e7, W7, Y7, st7⟩ := own_stB X6 hx hZ e6 Y6 (j := (p1 + (6 : Int32))) J7.1 (at_ + 6) J7.2 (by rw [own_tab_len]; omega) N6 ga_r0 (g := (mkF m 75 #[.val (.ref r0), .val (.int p1), .val (.long q2), .second] [(.int ((((q2.toUInt64 >>> ((8 : Int32) &&& 0x3f).toInt64.toUInt64).toInt64).toInt32).toInt8.toInt32)), (.int (p1 + (6 : Int32))), (.ref r0)])) rfl rfl (hb hby d1_75)
  rw [own_narb] at W7 Y7
  rw [own_tab_set] at Y7
  have K7 := K6.wr W7 (Or.inl (List.mem_of_getElem? (i := 0) rfl))
  refine own_go (T' := T7) (g' := (mkF m 76 #[.val (.ref r0), .val (.int p1), .val (.long q2), .second] [])) st7 ?_
  refine own_go (T' := T7) (g' := (mkF m 84 #[.val (.ref r0), .val (.int p1), .val (.long q2), .second] [(.int ((q2.toInt32).toInt8.toInt32)), (.int (p1 + (7 : Int32))), (.ref r0)])) (fun t k => ?_) ?_
  · show Steps p.tables e below (T7.setTop (mkF m 76 #[.val (.ref r0), .val (.int p1), .val (.long q2), .second] [])) t
    refine XS.aloadN X7.here hx rfl (hb hby d1_76) rfl rfl ?_
    show Steps p.tables e below (T7.setTop (mkF m 77 #[.val (.ref r0), .val (.int p1), .val (.long q2), .second] [(.ref r0)])) _
    refine XS.iloadN X7.here hx rfl (hb hby d1_77) rfl ?_
    show Steps p.tables e below (T7.setTop (mkF m 78 #[.val (.ref r0), .val (.int p1), .val (.long q2), .second] [(.int p1), (.ref r0)])) _
    refine XS.bipush X7.here hx rfl (hb hby d1_78) ?_
    show Steps p.tables e below (T7.setTop (mkF m 80 #[.val (.ref r0), .val (.int p1), .val (.long q2), .second] [(.int (7 : Int32)), (.int p1), (.ref r0)])) _
    refine XS.iadd X7.here hx rfl (hb hby d1_80) rfl ?_
    show Steps p.tables e below (T7.setTop (mkF m 81 #[.val (.ref r0), .val (.int p1), .val (.long q2), .second] [(.int (p1 + (7 : Int32))), (.ref r0)])) _
    refine XS.lloadN X7.here hx rfl (hb hby d1_81) rfl ?_
    show Steps p.tables e below (T7.setTop (mkF m 82 #[.val (.ref r0), .val (.int p1), .val (.long q2), .second] [(.long q2), (.int (p1 + (7 : Int32))), (.ref r0)])) _
    refine XS.l2i X7.here hx rfl (hb hby d1_82) rfl ?_
    show Steps p.tables e below (T7.setTop (mkF m 83 #[.val (.ref r0), .val (.int p1), .val (.long q2), .second] [(.int (q2.toInt32)), (.int (p1 + (7 : Int32))), (.ref r0)])) _
    refine XS.i2b X7.here hx rfl (hb hby d1_83) rfl ?_
    show Steps p.tables e below (T7.setTop (mkF m 84 #[.val (.ref r0), .val (.int p1), .val (.long q2), .second] [(.int ((q2.toInt32).toInt8.toInt32)), (.int (p1 + (7 : Int32))), (.ref r0)])) _
    exact k
  have J8 := own_j (jx := (p1 + (7 : Int32))) 7 hp hat (by decide) rfl
  obtain ⟨T8, h8, L8, X8, N8, e8, W8, Y8, st8⟩ := own_stB X7 hx hZ e7 Y7 (j := (p1 + (7 : Int32))) J8.1 (at_ + 7) J8.2 (by rw [own_tab_len]; omega) N7 ga_r0 (g := (mkF m 84 #[.val (.ref r0), .val (.int p1), .val (.long q2), .second] [(.int ((q2.toInt32).toInt8.toInt32)), (.int (p1 + (7 : Int32))), (.ref r0)])) rfl rfl (hb hby d1_84)
  rw [own_narb] at W8 Y8
  rw [own_tab_set] at Y8
  have K8 := K7.wr W8 (Or.inl (List.mem_of_getElem? (i := 0) rfl))
  refine own_go (T' := T8) (g' := (mkF m 85 #[.val (.ref r0), .val (.int p1), .val (.long q2), .second] [])) st8 ?_
  exact own_retV X8 hx hlk hret (hb hby d1_85) (by decide) (by decide) N8 (by rw [e8]; exact ⟨rfl, K8, Y8⟩)
abbrev own_r2 : Room := { frames := 0, cells := 1, slots := 5, locals := 0 }
theorem d2_0 : decode prog_12_method_2_code 0 = .ok (.iconst 5, 1) := by decide +kernel
theorem d2_1 : decode prog_12_method_2_code 1 = .ok (.newarray .long, 2) := by decide +kernel
theorem d2_3 : decode prog_12_method_2_code 3 = .ok (.astore_n 2, 1) := by decide +kernel
theorem d2_4 : decode prog_12_method_2_code 4 = .ok (.iconst 0, 1) := by decide +kernel
theorem d2_5 : decode prog_12_method_2_code 5 = .ok (.istore_n 3, 1) := by decide +kernel
theorem d2_6 : decode prog_12_method_2_code 6 = .ok (.iload_n 3, 1) := by decide +kernel
theorem d2_7 : decode prog_12_method_2_code 7 = .ok (.bipush 32, 2) := by decide +kernel
theorem d2_9 : decode prog_12_method_2_code 9 = .ok (.if_icmp .ge 85, 3) := by decide +kernel
theorem d2_94 : decode prog_12_method_2_code 94 = .ok (.aload_n 2, 1) := by decide +kernel
theorem d2_95 : decode prog_12_method_2_code 95 = .ok (.areturn, 1) := by decide +kernel
theorem d2_12 : decode prog_12_method_2_code 12 = .ok (.aload_n 0, 1) := by decide +kernel
theorem d2_13 : decode prog_12_method_2_code 13 = .ok (.iload_n 1, 1) := by decide +kernel
theorem d2_14 : decode prog_12_method_2_code 14 = .ok (.bipush 31, 2) := by decide +kernel
theorem d2_16 : decode prog_12_method_2_code 16 = .ok (.iadd, 1) := by decide +kernel
theorem d2_17 : decode prog_12_method_2_code 17 = .ok (.iload_n 3, 1) := by decide +kernel
theorem d2_18 : decode prog_12_method_2_code 18 = .ok (.isub, 1) := by decide +kernel
theorem d2_19 : decode prog_12_method_2_code 19 = .ok (.baload, 1) := by decide +kernel
theorem d2_20 : decode prog_12_method_2_code 20 = .ok (.i2l, 1) := by decide +kernel
theorem d2_21 : decode prog_12_method_2_code 21 = .ok (.ldc2_w 11, 3) := by decide +kernel
theorem d2_24 : decode prog_12_method_2_code 24 = .ok (.land, 1) := by decide +kernel
theorem d2_25 : decode prog_12_method_2_code 25 = .ok (.lstore 4, 2) := by decide +kernel
theorem d2_27 : decode prog_12_method_2_code 27 = .ok (.bipush 8, 2) := by decide +kernel
theorem d2_29 : decode prog_12_method_2_code 29 = .ok (.iload_n 3, 1) := by decide +kernel
theorem d2_30 : decode prog_12_method_2_code 30 = .ok (.imul, 1) := by decide +kernel
theorem d2_31 : decode prog_12_method_2_code 31 = .ok (.istore 6, 2) := by decide +kernel
theorem d2_33 : decode prog_12_method_2_code 33 = .ok (.aload_n 2, 1) := by decide +kernel
theorem d2_34 : decode prog_12_method_2_code 34 = .ok (.iload 6, 2) := by decide +kernel
theorem d2_36 : decode prog_12_method_2_code 36 = .ok (.bipush 52, 2) := by decide +kernel
theorem d2_38 : decode prog_12_method_2_code 38 = .ok (.idiv, 1) := by decide +kernel
theorem d2_39 : decode prog_12_method_2_code 39 = .ok (.dup2, 1) := by decide +kernel
theorem d2_40 : decode prog_12_method_2_code 40 = .ok (.laload, 1) := by decide +kernel
theorem d2_41 : decode prog_12_method_2_code 41 = .ok (.lload 4, 2) := by decide +kernel
theorem d2_43 : decode prog_12_method_2_code 43 = .ok (.iload 6, 2) := by decide +kernel
theorem d2_45 : decode prog_12_method_2_code 45 = .ok (.bipush 52, 2) := by decide +kernel
theorem d2_47 : decode prog_12_method_2_code 47 = .ok (.irem, 1) := by decide +kernel
theorem d2_48 : decode prog_12_method_2_code 48 = .ok (.lshl, 1) := by decide +kernel
theorem d2_49 : decode prog_12_method_2_code 49 = .ok (.ldc2_w 13, 3) := by decide +kernel
theorem d2_52 : decode prog_12_method_2_code 52 = .ok (.land, 1) := by decide +kernel
theorem d2_53 : decode prog_12_method_2_code 53 = .ok (.lor, 1) := by decide +kernel
theorem d2_54 : decode prog_12_method_2_code 54 = .ok (.lastore, 1) := by decide +kernel
theorem d2_55 : decode prog_12_method_2_code 55 = .ok (.iload 6, 2) := by decide +kernel
theorem d2_57 : decode prog_12_method_2_code 57 = .ok (.bipush 52, 2) := by decide +kernel
theorem d2_59 : decode prog_12_method_2_code 59 = .ok (.irem, 1) := by decide +kernel
theorem d2_60 : decode prog_12_method_2_code 60 = .ok (.bipush 44, 2) := by decide +kernel
theorem d2_62 : decode prog_12_method_2_code 62 = .ok (.if_icmp .le 26, 3) := by decide +kernel
theorem d2_65 : decode prog_12_method_2_code 65 = .ok (.aload_n 2, 1) := by decide +kernel
theorem d2_66 : decode prog_12_method_2_code 66 = .ok (.iload 6, 2) := by decide +kernel
theorem d2_68 : decode prog_12_method_2_code 68 = .ok (.bipush 52, 2) := by decide +kernel
theorem d2_70 : decode prog_12_method_2_code 70 = .ok (.idiv, 1) := by decide +kernel
theorem d2_71 : decode prog_12_method_2_code 71 = .ok (.iconst 1, 1) := by decide +kernel
theorem d2_72 : decode prog_12_method_2_code 72 = .ok (.iadd, 1) := by decide +kernel
theorem d2_73 : decode prog_12_method_2_code 73 = .ok (.dup2, 1) := by decide +kernel
theorem d2_74 : decode prog_12_method_2_code 74 = .ok (.laload, 1) := by decide +kernel
theorem d2_75 : decode prog_12_method_2_code 75 = .ok (.lload 4, 2) := by decide +kernel
theorem d2_77 : decode prog_12_method_2_code 77 = .ok (.bipush 52, 2) := by decide +kernel
theorem d2_79 : decode prog_12_method_2_code 79 = .ok (.iload 6, 2) := by decide +kernel
theorem d2_81 : decode prog_12_method_2_code 81 = .ok (.bipush 52, 2) := by decide +kernel
theorem d2_83 : decode prog_12_method_2_code 83 = .ok (.irem, 1) := by decide +kernel
theorem d2_84 : decode prog_12_method_2_code 84 = .ok (.isub, 1) := by decide +kernel
theorem d2_85 : decode prog_12_method_2_code 85 = .ok (.lushr, 1) := by decide +kernel
theorem d2_86 : decode prog_12_method_2_code 86 = .ok (.lor, 1) := by decide +kernel
theorem d2_87 : decode prog_12_method_2_code 87 = .ok (.lastore, 1) := by decide +kernel
theorem d2_88 : decode prog_12_method_2_code 88 = .ok (.iinc 3 1, 3) := by decide +kernel
theorem d2_91 : decode prog_12_method_2_code 91 = .ok (.goto (-85), 3) := by decide +kernel
theorem ef_2 (m : MethodId) (r0 : Addr) (p1 : Int32) : entryFrame m #[(.ref r0), (.int p1)] 7 = mkF m 0 #[.val (.ref r0), .val (.int p1), .unset, .unset, .unset, .unset, .unset] [] := by first | (simp [entryFrame, mkF, argsToLocals, Value.category]; done) | rfl
set_option maxRecDepth 65536 in
set_option maxHeartbeats 40000000 in
theorem rm2 (l : Launch) (Z : State) (a0 : Array Value) (hw : ∀ d ∈ tables_1, d.before a0 Z = true) (r0 : Addr) (p1 : Int32) (k : ClassId) (f : Nat → Int32) (off : Nat) (h0 : Heap) (n0 : Nat) (Z0 : n0 ≤ h0.size) (V0 : Arv Z h0 r0 k .byte (40 : Int32) (own_tab f) (.int 0)) (hp : p1 = Int32.ofNat off) (hoff : off ≤ 7) : own_Con [] l Z (⟨"com/example/linkwell/linkwell/cards/P256Scalar", "of", "([BI)[J"⟩ : MethodName) prog_12_method_2_code 7 (some (.array .long)) own_r2 n0 #[(.ref r0), (.int p1)] h0 (own_Qo Z r0 n0 (own_of f off 32) h0) := by
  refine own_body (plainFor_of_name (by first | (simp [plainName, overriddenIn]; done) | decide +kernel)) (fun m => mkF m 0 #[.val (.ref r0), .val (.int p1), .unset, .unset, .unset, .unset, .unset] []) (fun m => ef_2 m r0 p1) ?_
  intro p e s m below meth c s₁ hx hby hml hown hnm hZ hret hlk X0 e0 N0
  have K0 := Keep.refl h0 []
  refine own_go (T' := s₁) (g' := (mkF m 1 #[.val (.ref r0), .val (.int p1), .unset, .unset, .unset, .unset, .unset] [(.int (5 : Int32))])) (fun t k => ?_) ?_
  · show Steps p.tables e below (s₁.setTop (mkF m 0 #[.val (.ref r0), .val (.int p1), .unset, .unset, .unset, .unset, .unset] [])) t
    refine XS.iconst X0.here hx rfl (hb hby d2_0) ?_
    show Steps p.tables e below (s₁.setTop (mkF m 1 #[.val (.ref r0), .val (.int p1), .unset, .unset, .unset, .unset, .unset] [(.int (5 : Int32))])) _
    exact k
  obtain ⟨T1, h1, k1, b1, g1, X1, e1, E1, A1, st1⟩ := own_new X0 hx hZ (hw _ (List.mem_of_getElem? (i := 10) rfl)) e0 (g := (mkF m 1 #[.val (.ref r0), .val (.int p1), .unset, .unset, .unset, .unset, .unset] [(.int (5 : Int32))])) rfl (hb hby d2_1) rfl (by decide) (cap := 5) (by decide) (by decide) (by decide) (by decide)
  have lt_r0_b1 : r0 < b1 := Nat.lt_of_lt_of_le V0.lt (Nat.le_of_eq g1.symm)
  have ga_b1 : n0 ≤ b1 := Nat.le_trans Z0 (Nat.le_of_eq g1.symm)
  have sz_1 := Nat.le_trans Z0 E1.1
  have hx_b1 := Nat.le_trans K0.1 (Nat.le_of_eq g1.symm)
  have K1 := K0.ext E1
  have V_r0_1 := V0.ext E1
  have V_b1_1 : Arv Z h1 b1 k1 .long (5 : Int32) [(.long (0 : Int64)), (.long (0 : Int64)), (.long (0 : Int64)), (.long (0 : Int64)), (.long (0 : Int64))] (.long (0 : Int64)) := A1.pad (pad_rep [] (.long (0 : Int64)) 5)
  refine own_go (T' := T1) (g' := (mkF m 3 #[.val (.ref r0), .val (.int p1), .unset, .unset, .unset, .unset, .unset] [(.ref b1)])) st1 ?_
  refine own_go (T' := T1) (g' := (mkF m 6 #[.val (.ref r0), .val (.int p1), .val (.ref b1), .val (.int (0 : Int32)), .unset, .unset, .unset] [])) (fun t k => ?_) ?_
  · show Steps p.tables e below (T1.setTop (mkF m 3 #[.val (.ref r0), .val (.int p1), .unset, .unset, .unset, .unset, .unset] [(.ref b1)])) t
    refine XS.astoreN X1.here hx rfl (hb hby d2_3) rfl rfl (l' := #[.val (.ref r0), .val (.int p1), .val (.ref b1), .unset, .unset, .unset, .unset]) rfl ?_
    show Steps p.tables e below (T1.setTop (mkF m 4 #[.val (.ref r0), .val (.int p1), .val (.ref b1), .unset, .unset, .unset, .unset] [])) _
    refine XS.iconst X1.here hx rfl (hb hby d2_4) ?_
    show Steps p.tables e below (T1.setTop (mkF m 5 #[.val (.ref r0), .val (.int p1), .val (.ref b1), .unset, .unset, .unset, .unset] [(.int (0 : Int32))])) _
    refine XS.istoreN X1.here hx rfl (hb hby d2_5) rfl (l' := #[.val (.ref r0), .val (.int p1), .val (.ref b1), .val (.int (0 : Int32)), .unset, .unset, .unset]) rfl ?_
    show Steps p.tables e below (T1.setTop (mkF m 6 #[.val (.ref r0), .val (.int p1), .val (.ref b1), .val (.int (0 : Int32)), .unset, .unset, .unset] [])) _
    exact k
  have V2 : Arv Z h1 b1 k1 .long (5 : Int32) (own_tabJ (own_of f off 0)) (.long 0) := V_b1_1
  have loop : ∀ (q i : Nat) (hq : i + q = 32) (s4 s5 s6 : Slot) (hs : (s4 = .unset ∧ s5 = .unset ∧ s6 = .unset) ∨ ∃ (v : Int64) (y : Int32), s4 = .val (.long v) ∧ s5 = .second ∧ s6 = .val (.int y)) (T : State) (locs : List Loc) (h : Heap) (X : Stand p l e own_r2 s m #[(.ref r0), (.int p1)] below meth c T locs 1 5) (eT : T.heap = h) (N : Fr n0 locs) (K : Keep h0 h []) (B : Arv Z h r0 k .byte (40 : Int32) (own_tab f) (.int 0)) (V : Arv Z h b1 k1 .long (5 : Int32) (own_tabJ (own_of f off i)) (.long 0)), own_Ends p e below s n0 own_r2.cells own_r2.slots T (mkF m 6 #[.val (.ref r0), .val (.int p1), .val (.ref b1), .val (.int (Int32.ofNat i)), s4, s5, s6] []) (own_Qo Z r0 n0 (own_of f off 32) h0) := by
    intro q
    induction q with
    | zero =>
      intro i hq s4 s5 s6 hs T locs h X eT N K B V
      obtain rfl : i = 32 := by omega
      refine own_go (T' := T) (g' := (mkF m 9 #[.val (.ref r0), .val (.int p1), .val (.ref b1), .val (.int (Int32.ofNat 32)), s4, s5, s6] [(.int (32 : Int32)), (.int (Int32.ofNat 32))])) (fun t k => ?_) ?_
      · show Steps p.tables e below (T.setTop (mkF m 6 #[.val (.ref r0), .val (.int p1), .val (.ref b1), .val (.int (Int32.ofNat 32)), s4, s5, s6] [])) t
        refine XS.iloadN X.here hx rfl (hb hby d2_6) rfl ?_
        show Steps p.tables e below (T.setTop (mkF m 7 #[.val (.ref r0), .val (.int p1), .val (.ref b1), .val (.int (Int32.ofNat 32)), s4, s5, s6] [(.int (Int32.ofNat 32))])) _
        refine XS.bipush X.here hx rfl (hb hby d2_7) ?_
        show Steps p.tables e below (T.setTop (mkF m 9 #[.val (.ref r0), .val (.int p1), .val (.ref b1), .val (.int (Int32.ofNat 32)), s4, s5, s6] [(.int (32 : Int32)), (.int (Int32.ofNat 32))])) _
        exact k
      refine own_go (T' := T) (g' := (mkF m 95 #[.val (.ref r0), .val (.int p1), .val (.ref b1), .val (.int (Int32.ofNat 32)), s4, s5, s6] [(.ref b1)])) (fun t k => ?_) ?_
      · show Steps p.tables e below (T.setTop (mkF m 9 #[.val (.ref r0), .val (.int p1), .val (.ref b1), .val (.int (Int32.ofNat 32)), s4, s5, s6] [(.int (32 : Int32)), (.int (Int32.ofNat 32))])) t
        refine XS.icmpYes X.here hx rfl (pc0 := 9) (pc' := 94) rfl (hb hby d2_9) rfl (flt (by decide)).2.1 (by decide) (by decide) ?_
        show Steps p.tables e below (T.setTop (mkF m 94 #[.val (.ref r0), .val (.int p1), .val (.ref b1), .val (.int (Int32.ofNat 32)), s4, s5, s6] [])) _
        refine XS.aloadN X.here hx rfl (hb hby d2_94) rfl rfl ?_
        show Steps p.tables e below (T.setTop (mkF m 95 #[.val (.ref r0), .val (.int p1), .val (.ref b1), .val (.int (Int32.ofNat 32)), s4, s5, s6] [(.ref b1)])) _
        exact k
      exact own_retA X hx hlk hret rfl rfl (hb hby d2_95) (by decide) (by decide) N (by rw [eT]; exact ⟨b1, k1, rfl, K, V⟩)
    | succ q ih =>
      intro i hq s4 s5 s6 hs T locs h X eT N K B V
      have hi : i < 32 := by omega
      rcases hs with ⟨rfl, rfl, rfl⟩ | ⟨v, y, rfl, rfl, rfl⟩
      · refine own_go (T' := T) (g' := (mkF m 9 #[.val (.ref r0), .val (.int p1), .val (.ref b1), .val (.int (Int32.ofNat i)), .unset, .unset, .unset] [(.int (32 : Int32)), (.int (Int32.ofNat i))])) (fun t k => ?_) ?_
        · show Steps p.tables e below (T.setTop (mkF m 6 #[.val (.ref r0), .val (.int p1), .val (.ref b1), .val (.int (Int32.ofNat i)), .unset, .unset, .unset] [])) t
          refine XS.iloadN X.here hx rfl (hb hby d2_6) rfl ?_
          show Steps p.tables e below (T.setTop (mkF m 7 #[.val (.ref r0), .val (.int p1), .val (.ref b1), .val (.int (Int32.ofNat i)), .unset, .unset, .unset] [(.int (Int32.ofNat i))])) _
          refine XS.bipush X.here hx rfl (hb hby d2_7) ?_
          show Steps p.tables e below (T.setTop (mkF m 9 #[.val (.ref r0), .val (.int p1), .val (.ref b1), .val (.int (Int32.ofNat i)), .unset, .unset, .unset] [(.int (32 : Int32)), (.int (Int32.ofNat i))])) _
          exact k
        refine own_go (T' := T) (g' := (mkF m 19 #[.val (.ref r0), .val (.int p1), .val (.ref b1), .val (.int (Int32.ofNat i)), .unset, .unset, .unset] [(.int ((p1 + (31 : Int32)) - (Int32.ofNat i))), (.ref r0)])) (fun t k => ?_) ?_
        · show Steps p.tables e below (T.setTop (mkF m 9 #[.val (.ref r0), .val (.int p1), .val (.ref b1), .val (.int (Int32.ofNat i)), .unset, .unset, .unset] [(.int (32 : Int32)), (.int (Int32.ofNat i))])) t
          refine XS.icmpNo X.here hx rfl (hb hby d2_9) rfl (tlt (own_i31 hi)).2.1 ?_
          show Steps p.tables e below (T.setTop (mkF m 12 #[.val (.ref r0), .val (.int p1), .val (.ref b1), .val (.int (Int32.ofNat i)), .unset, .unset, .unset] [])) _
          refine XS.aloadN X.here hx rfl (hb hby d2_12) rfl rfl ?_
          show Steps p.tables e below (T.setTop (mkF m 13 #[.val (.ref r0), .val (.int p1), .val (.ref b1), .val (.int (Int32.ofNat i)), .unset, .unset, .unset] [(.ref r0)])) _
          refine XS.iloadN X.here hx rfl (hb hby d2_13) rfl ?_
          show Steps p.tables e below (T.setTop (mkF m 14 #[.val (.ref r0), .val (.int p1), .val (.ref b1), .val (.int (Int32.ofNat i)), .unset, .unset, .unset] [(.int p1), (.ref r0)])) _
          refine XS.bipush X.here hx rfl (hb hby d2_14) ?_
          show Steps p.tables e below (T.setTop (mkF m 16 #[.val (.ref r0), .val (.int p1), .val (.ref b1), .val (.int (Int32.ofNat i)), .unset, .unset, .unset] [(.int (31 : Int32)), (.int p1), (.ref r0)])) _
          refine XS.iadd X.here hx rfl (hb hby d2_16) rfl ?_
          show Steps p.tables e below (T.setTop (mkF m 17 #[.val (.ref r0), .val (.int p1), .val (.ref b1), .val (.int (Int32.ofNat i)), .unset, .unset, .unset] [(.int (p1 + (31 : Int32))), (.ref r0)])) _
          refine XS.iloadN X.here hx rfl (hb hby d2_17) rfl ?_
          show Steps p.tables e below (T.setTop (mkF m 18 #[.val (.ref r0), .val (.int p1), .val (.ref b1), .val (.int (Int32.ofNat i)), .unset, .unset, .unset] [(.int (Int32.ofNat i)), (.int (p1 + (31 : Int32))), (.ref r0)])) _
          refine XS.isub X.here hx rfl (hb hby d2_18) rfl ?_
          show Steps p.tables e below (T.setTop (mkF m 19 #[.val (.ref r0), .val (.int p1), .val (.ref b1), .val (.int (Int32.ofNat i)), .unset, .unset, .unset] [(.int ((p1 + (31 : Int32)) - (Int32.ofNat i))), (.ref r0)])) _
          exact k
        rw [own_k hp hoff hi]
        refine own_go (T' := T) (g' := (mkF m 27 #[.val (.ref r0), .val (.int p1), .val (.ref b1), .val (.int (Int32.ofNat i)), .val (.long (((f (off + 31 - i)).toInt64) &&& (255 : Int64))), .second, .unset] [])) (fun t k => ?_) ?_
        · show Steps p.tables e below (T.setTop (mkF m 19 #[.val (.ref r0), .val (.int p1), .val (.ref b1), .val (.int (Int32.ofNat i)), .unset, .unset, .unset] [(.int (Int32.ofNat (off + 31 - i))), (.ref r0)])) t
          refine own_ldB X hx hZ eT B (j := (Int32.ofNat (off + 31 - i))) (own_in40 (by omega)) (v := (.int (f (off + 31 - i)))) (by rw [own_ci (by omega)]; exact own_tab_at f (by omega) _) (g := (mkF m 19 #[.val (.ref r0), .val (.int p1), .val (.ref b1), .val (.int (Int32.ofNat i)), .unset, .unset, .unset] [(.int (Int32.ofNat (off + 31 - i))), (.ref r0)])) rfl rfl (hb hby d2_19) _ ?_
          show Steps p.tables e below (T.setTop (mkF m 20 #[.val (.ref r0), .val (.int p1), .val (.ref b1), .val (.int (Int32.ofNat i)), .unset, .unset, .unset] [(.int (f (off + 31 - i)))])) _
          refine XS.i2l X.here hx rfl (hb hby d2_20) rfl ?_
          show Steps p.tables e below (T.setTop (mkF m 21 #[.val (.ref r0), .val (.int p1), .val (.ref b1), .val (.int (Int32.ofNat i)), .unset, .unset, .unset] [(.long ((f (off + 31 - i)).toInt64))])) _
          refine X.ldc2Long hx hown (mvT hZ (hw _ (List.mem_of_getElem? (i := 11) rfl))) (g := (mkF m 21 #[.val (.ref r0), .val (.int p1), .val (.ref b1), .val (.int (Int32.ofNat i)), .unset, .unset, .unset] [(.long ((f (off + 31 - i)).toInt64))])) rfl (hb hby d2_21) _ ?_
          show Steps p.tables e below (T.setTop (mkF m 24 #[.val (.ref r0), .val (.int p1), .val (.ref b1), .val (.int (Int32.ofNat i)), .unset, .unset, .unset] [(.long (255 : Int64)), (.long ((f (off + 31 - i)).toInt64))])) _
          refine XS.land X.here hx rfl (hb hby d2_24) rfl ?_
          show Steps p.tables e below (T.setTop (mkF m 25 #[.val (.ref r0), .val (.int p1), .val (.ref b1), .val (.int (Int32.ofNat i)), .unset, .unset, .unset] [(.long (((f (off + 31 - i)).toInt64) &&& (255 : Int64)))])) _
          refine XS.lstore X.here hx rfl (hb hby d2_25) rfl (l' := #[.val (.ref r0), .val (.int p1), .val (.ref b1), .val (.int (Int32.ofNat i)), .val (.long (((f (off + 31 - i)).toInt64) &&& (255 : Int64))), .second, .unset]) rfl ?_
          show Steps p.tables e below (T.setTop (mkF m 27 #[.val (.ref r0), .val (.int p1), .val (.ref b1), .val (.int (Int32.ofNat i)), .val (.long (((f (off + 31 - i)).toInt64) &&& (255 : Int64))), .second, .unset] [])) _
          exact k
        refine own_go (T' := T) (g' := (mkF m 33 #[.val (.ref r0), .val (.int p1), .val (.ref b1), .val (.int (Int32.ofNat i)), .val (.long (own_vv f off i)), .second, .val (.int ((8 : Int32) * (Int32.ofNat i)))] [])) (fun t k => ?_) ?_
        · show Steps p.tables e below (T.setTop (mkF m 27 #[.val (.ref r0), .val (.int p1), .val (.ref b1), .val (.int (Int32.ofNat i)), .val (.long (own_vv f off i)), .second, .unset] [])) t
          refine XS.bipush X.here hx rfl (hb hby d2_27) ?_
          show Steps p.tables e below (T.setTop (mkF m 29 #[.val (.ref r0), .val (.int p1), .val (.ref b1), .val (.int (Int32.ofNat i)), .val (.long (own_vv f off i)), .second, .unset] [(.int (8 : Int32))])) _
          refine XS.iloadN X.here hx rfl (hb hby d2_29) rfl ?_
          show Steps p.tables e below (T.setTop (mkF m 30 #[.val (.ref r0), .val (.int p1), .val (.ref b1), .val (.int (Int32.ofNat i)), .val (.long (own_vv f off i)), .second, .unset] [(.int (Int32.ofNat i)), (.int (8 : Int32))])) _
          refine XS.imul X.here hx rfl (hb hby d2_30) rfl ?_
          show Steps p.tables e below (T.setTop (mkF m 31 #[.val (.ref r0), .val (.int p1), .val (.ref b1), .val (.int (Int32.ofNat i)), .val (.long (own_vv f off i)), .second, .unset] [(.int ((8 : Int32) * (Int32.ofNat i)))])) _
          refine XS.istore X.here hx rfl (hb hby d2_31) rfl (l' := #[.val (.ref r0), .val (.int p1), .val (.ref b1), .val (.int (Int32.ofNat i)), .val (.long (own_vv f off i)), .second, .val (.int ((8 : Int32) * (Int32.ofNat i)))]) rfl ?_
          show Steps p.tables e below (T.setTop (mkF m 33 #[.val (.ref r0), .val (.int p1), .val (.ref b1), .val (.int (Int32.ofNat i)), .val (.long (own_vv f off i)), .second, .val (.int ((8 : Int32) * (Int32.ofNat i)))] [])) _
          exact k
        rw [own_bit hi]
        refine own_go (T' := T) (g' := (mkF m 39 #[.val (.ref r0), .val (.int p1), .val (.ref b1), .val (.int (Int32.ofNat i)), .val (.long (own_vv f off i)), .second, .val (.int (Int32.ofNat (8 * i)))] [(.int ((Int32.ofNat (8 * i)) / (52 : Int32))), (.ref b1)])) (fun t k => ?_) ?_
        · show Steps p.tables e below (T.setTop (mkF m 33 #[.val (.ref r0), .val (.int p1), .val (.ref b1), .val (.int (Int32.ofNat i)), .val (.long (own_vv f off i)), .second, .val (.int (Int32.ofNat (8 * i)))] [])) t
          refine XS.aloadN X.here hx rfl (hb hby d2_33) rfl rfl ?_
          show Steps p.tables e below (T.setTop (mkF m 34 #[.val (.ref r0), .val (.int p1), .val (.ref b1), .val (.int (Int32.ofNat i)), .val (.long (own_vv f off i)), .second, .val (.int (Int32.ofNat (8 * i)))] [(.ref b1)])) _
          refine XS.iload X.here hx rfl (hb hby d2_34) rfl ?_
          show Steps p.tables e below (T.setTop (mkF m 36 #[.val (.ref r0), .val (.int p1), .val (.ref b1), .val (.int (Int32.ofNat i)), .val (.long (own_vv f off i)), .second, .val (.int (Int32.ofNat (8 * i)))] [(.int (Int32.ofNat (8 * i))), (.ref b1)])) _
          refine XS.bipush X.here hx rfl (hb hby d2_36) ?_
          show Steps p.tables e below (T.setTop (mkF m 38 #[.val (.ref r0), .val (.int p1), .val (.ref b1), .val (.int (Int32.ofNat i)), .val (.long (own_vv f off i)), .second, .val (.int (Int32.ofNat (8 * i)))] [(.int (52 : Int32)), (.int (Int32.ofNat (8 * i))), (.ref b1)])) _
          refine XS.idiv X.here hx rfl (hb hby d2_38) rfl (by decide) ?_
          show Steps p.tables e below (T.setTop (mkF m 39 #[.val (.ref r0), .val (.int p1), .val (.ref b1), .val (.int (Int32.ofNat i)), .val (.long (own_vv f off i)), .second, .val (.int (Int32.ofNat (8 * i)))] [(.int ((Int32.ofNat (8 * i)) / (52 : Int32))), (.ref b1)])) _
          exact k
        rw [own_q hi]
        refine own_go (T' := T) (g' := (mkF m 48 #[.val (.ref r0), .val (.int p1), .val (.ref b1), .val (.int (Int32.ofNat i)), .val (.long (own_vv f off i)), .second, .val (.int (Int32.ofNat (8 * i)))] [(.int ((Int32.ofNat (8 * i)) % (52 : Int32))), (.long (own_vv f off i)), (.long (own_of f off i (8 * i / 52))), (.int (Int32.ofNat (8 * i / 52))), (.ref b1)])) (fun t k => ?_) ?_
        · show Steps p.tables e below (T.setTop (mkF m 39 #[.val (.ref r0), .val (.int p1), .val (.ref b1), .val (.int (Int32.ofNat i)), .val (.long (own_vv f off i)), .second, .val (.int (Int32.ofNat (8 * i)))] [(.int (Int32.ofNat (8 * i / 52))), (.ref b1)])) t
          refine own_dup2 X hx rfl (hb hby d2_39) rfl rfl rfl ?_
          show Steps p.tables e below (T.setTop (mkF m 40 #[.val (.ref r0), .val (.int p1), .val (.ref b1), .val (.int (Int32.ofNat i)), .val (.long (own_vv f off i)), .second, .val (.int (Int32.ofNat (8 * i)))] [(.int (Int32.ofNat (8 * i / 52))), (.ref b1), (.int (Int32.ofNat (8 * i / 52))), (.ref b1)])) _
          refine own_ldJ X hx hZ eT V (j := (Int32.ofNat (8 * i / 52))) (own_in5 (by omega)) (v := (.long (own_of f off i (8 * i / 52)))) (by rw [own_ci (by omega)]; exact own_tabJ_at _ (by omega) _) (g := (mkF m 40 #[.val (.ref r0), .val (.int p1), .val (.ref b1), .val (.int (Int32.ofNat i)), .val (.long (own_vv f off i)), .second, .val (.int (Int32.ofNat (8 * i)))] [(.int (Int32.ofNat (8 * i / 52))), (.ref b1), (.int (Int32.ofNat (8 * i / 52))), (.ref b1)])) rfl rfl (hb hby d2_40) _ ?_
          show Steps p.tables e below (T.setTop (mkF m 41 #[.val (.ref r0), .val (.int p1), .val (.ref b1), .val (.int (Int32.ofNat i)), .val (.long (own_vv f off i)), .second, .val (.int (Int32.ofNat (8 * i)))] [(.long (own_of f off i (8 * i / 52))), (.int (Int32.ofNat (8 * i / 52))), (.ref b1)])) _
          refine XS.lload X.here hx rfl (hb hby d2_41) rfl ?_
          show Steps p.tables e below (T.setTop (mkF m 43 #[.val (.ref r0), .val (.int p1), .val (.ref b1), .val (.int (Int32.ofNat i)), .val (.long (own_vv f off i)), .second, .val (.int (Int32.ofNat (8 * i)))] [(.long (own_vv f off i)), (.long (own_of f off i (8 * i / 52))), (.int (Int32.ofNat (8 * i / 52))), (.ref b1)])) _
          refine XS.iload X.here hx rfl (hb hby d2_43) rfl ?_
          show Steps p.tables e below (T.setTop (mkF m 45 #[.val (.ref r0), .val (.int p1), .val (.ref b1), .val (.int (Int32.ofNat i)), .val (.long (own_vv f off i)), .second, .val (.int (Int32.ofNat (8 * i)))] [(.int (Int32.ofNat (8 * i))), (.long (own_vv f off i)), (.long (own_of f off i (8 * i / 52))), (.int (Int32.ofNat (8 * i / 52))), (.ref b1)])) _
          refine XS.bipush X.here hx rfl (hb hby d2_45) ?_
          show Steps p.tables e below (T.setTop (mkF m 47 #[.val (.ref r0), .val (.int p1), .val (.ref b1), .val (.int (Int32.ofNat i)), .val (.long (own_vv f off i)), .second, .val (.int (Int32.ofNat (8 * i)))] [(.int (52 : Int32)), (.int (Int32.ofNat (8 * i))), (.long (own_vv f off i)), (.long (own_of f off i (8 * i / 52))), (.int (Int32.ofNat (8 * i / 52))), (.ref b1)])) _
          refine iremM X hx rfl (hb hby d2_47) rfl (by decide) ?_
          show Steps p.tables e below (T.setTop (mkF m 48 #[.val (.ref r0), .val (.int p1), .val (.ref b1), .val (.int (Int32.ofNat i)), .val (.long (own_vv f off i)), .second, .val (.int (Int32.ofNat (8 * i)))] [(.int ((Int32.ofNat (8 * i)) % (52 : Int32))), (.long (own_vv f off i)), (.long (own_of f off i (8 * i / 52))), (.int (Int32.ofNat (8 * i / 52))), (.ref b1)])) _
          exact k
        rw [own_m hi]
        refine own_go (T' := T) (g' := (mkF m 54 #[.val (.ref r0), .val (.int p1), .val (.ref b1), .val (.int (Int32.ofNat i)), .val (.long (own_vv f off i)), .second, .val (.int (Int32.ofNat (8 * i)))] [(.long ((own_of f off i (8 * i / 52)) ||| (((own_vv f off i) <<< ((Int32.ofNat (8 * i % 52)) &&& 0x3f).toInt64) &&& (4503599627370495 : Int64)))), (.int (Int32.ofNat (8 * i / 52))), (.ref b1)])) (fun t k => ?_) ?_
        · show Steps p.tables e below (T.setTop (mkF m 48 #[.val (.ref r0), .val (.int p1), .val (.ref b1), .val (.int (Int32.ofNat i)), .val (.long (own_vv f off i)), .second, .val (.int (Int32.ofNat (8 * i)))] [(.int (Int32.ofNat (8 * i % 52))), (.long (own_vv f off i)), (.long (own_of f off i (8 * i / 52))), (.int (Int32.ofNat (8 * i / 52))), (.ref b1)])) t
          refine XS.lshl X.here hx rfl (hb hby d2_48) rfl ?_
          show Steps p.tables e below (T.setTop (mkF m 49 #[.val (.ref r0), .val (.int p1), .val (.ref b1), .val (.int (Int32.ofNat i)), .val (.long (own_vv f off i)), .second, .val (.int (Int32.ofNat (8 * i)))] [(.long ((own_vv f off i) <<< ((Int32.ofNat (8 * i % 52)) &&& 0x3f).toInt64)), (.long (own_of f off i (8 * i / 52))), (.int (Int32.ofNat (8 * i / 52))), (.ref b1)])) _
          refine X.ldc2Long hx hown (mvT hZ (hw _ (List.mem_of_getElem? (i := 12) rfl))) (g := (mkF m 49 #[.val (.ref r0), .val (.int p1), .val (.ref b1), .val (.int (Int32.ofNat i)), .val (.long (own_vv f off i)), .second, .val (.int (Int32.ofNat (8 * i)))] [(.long ((own_vv f off i) <<< ((Int32.ofNat (8 * i % 52)) &&& 0x3f).toInt64)), (.long (own_of f off i (8 * i / 52))), (.int (Int32.ofNat (8 * i / 52))), (.ref b1)])) rfl (hb hby d2_49) _ ?_
          show Steps p.tables e below (T.setTop (mkF m 52 #[.val (.ref r0), .val (.int p1), .val (.ref b1), .val (.int (Int32.ofNat i)), .val (.long (own_vv f off i)), .second, .val (.int (Int32.ofNat (8 * i)))] [(.long (4503599627370495 : Int64)), (.long ((own_vv f off i) <<< ((Int32.ofNat (8 * i % 52)) &&& 0x3f).toInt64)), (.long (own_of f off i (8 * i / 52))), (.int (Int32.ofNat (8 * i / 52))), (.ref b1)])) _
          refine XS.land X.here hx rfl (hb hby d2_52) rfl ?_
          show Steps p.tables e below (T.setTop (mkF m 53 #[.val (.ref r0), .val (.int p1), .val (.ref b1), .val (.int (Int32.ofNat i)), .val (.long (own_vv f off i)), .second, .val (.int (Int32.ofNat (8 * i)))] [(.long (((own_vv f off i) <<< ((Int32.ofNat (8 * i % 52)) &&& 0x3f).toInt64) &&& (4503599627370495 : Int64))), (.long (own_of f off i (8 * i / 52))), (.int (Int32.ofNat (8 * i / 52))), (.ref b1)])) _
          refine XS.lor X.here hx rfl (hb hby d2_53) rfl ?_
          show Steps p.tables e below (T.setTop (mkF m 54 #[.val (.ref r0), .val (.int p1), .val (.ref b1), .val (.int (Int32.ofNat i)), .val (.long (own_vv f off i)), .second, .val (.int (Int32.ofNat (8 * i)))] [(.long ((own_of f off i (8 * i / 52)) ||| (((own_vv f off i) <<< ((Int32.ofNat (8 * i % 52)) &&& 0x3f).toInt64) &&& (4503599627370495 : Int64)))), (.int (Int32.ofNat (8 * i / 52))), (.ref b1)])) _
          exact k
        obtain ⟨T2, h2, L2, X2, N2, e2, W2, Y2, st2⟩ := own_stJ X hx hZ eT V (j := (Int32.ofNat (8 * i / 52))) (own_in5 (by omega)) (8 * i / 52) (own_ci (by omega)) (by rw [own_tabJ_len]; omega) N ga_b1 (g := (mkF m 54 #[.val (.ref r0), .val (.int p1), .val (.ref b1), .val (.int (Int32.ofNat i)), .val (.long (own_vv f off i)), .second, .val (.int (Int32.ofNat (8 * i)))] [(.long ((own_of f off i (8 * i / 52)) ||| (((own_vv f off i) <<< ((Int32.ofNat (8 * i % 52)) &&& 0x3f).toInt64) &&& (4503599627370495 : Int64)))), (.int (Int32.ofNat (8 * i / 52))), (.ref b1)])) rfl rfl (hb hby d2_54)
        rw [own_tabJ_set] at Y2
        have K2 := K.wr W2 (Or.inr hx_b1)
        have B2 := B.other W2 (Nat.ne_of_lt lt_r0_b1)
        refine own_go (T' := T2) (g' := (mkF m 55 #[.val (.ref r0), .val (.int p1), .val (.ref b1), .val (.int (Int32.ofNat i)), .val (.long (own_vv f off i)), .second, .val (.int (Int32.ofNat (8 * i)))] [])) st2 ?_
        refine own_go (T' := T2) (g' := (mkF m 60 #[.val (.ref r0), .val (.int p1), .val (.ref b1), .val (.int (Int32.ofNat i)), .val (.long (own_vv f off i)), .second, .val (.int (Int32.ofNat (8 * i)))] [(.int ((Int32.ofNat (8 * i)) % (52 : Int32)))])) (fun t k => ?_) ?_
        · show Steps p.tables e below (T2.setTop (mkF m 55 #[.val (.ref r0), .val (.int p1), .val (.ref b1), .val (.int (Int32.ofNat i)), .val (.long (own_vv f off i)), .second, .val (.int (Int32.ofNat (8 * i)))] [])) t
          refine XS.iload X2.here hx rfl (hb hby d2_55) rfl ?_
          show Steps p.tables e below (T2.setTop (mkF m 57 #[.val (.ref r0), .val (.int p1), .val (.ref b1), .val (.int (Int32.ofNat i)), .val (.long (own_vv f off i)), .second, .val (.int (Int32.ofNat (8 * i)))] [(.int (Int32.ofNat (8 * i)))])) _
          refine XS.bipush X2.here hx rfl (hb hby d2_57) ?_
          show Steps p.tables e below (T2.setTop (mkF m 59 #[.val (.ref r0), .val (.int p1), .val (.ref b1), .val (.int (Int32.ofNat i)), .val (.long (own_vv f off i)), .second, .val (.int (Int32.ofNat (8 * i)))] [(.int (52 : Int32)), (.int (Int32.ofNat (8 * i)))])) _
          refine iremM X2 hx rfl (hb hby d2_59) rfl (by decide) ?_
          show Steps p.tables e below (T2.setTop (mkF m 60 #[.val (.ref r0), .val (.int p1), .val (.ref b1), .val (.int (Int32.ofNat i)), .val (.long (own_vv f off i)), .second, .val (.int (Int32.ofNat (8 * i)))] [(.int ((Int32.ofNat (8 * i)) % (52 : Int32)))])) _
          exact k
        rw [own_m hi]
        refine own_go (T' := T2) (g' := (mkF m 62 #[.val (.ref r0), .val (.int p1), .val (.ref b1), .val (.int (Int32.ofNat i)), .val (.long (own_vv f off i)), .second, .val (.int (Int32.ofNat (8 * i)))] [(.int (44 : Int32)), (.int (Int32.ofNat (8 * i % 52)))])) (fun t k => ?_) ?_
        · show Steps p.tables e below (T2.setTop (mkF m 60 #[.val (.ref r0), .val (.int p1), .val (.ref b1), .val (.int (Int32.ofNat i)), .val (.long (own_vv f off i)), .second, .val (.int (Int32.ofNat (8 * i)))] [(.int (Int32.ofNat (8 * i % 52)))])) t
          refine XS.bipush X2.here hx rfl (hb hby d2_60) ?_
          show Steps p.tables e below (T2.setTop (mkF m 62 #[.val (.ref r0), .val (.int p1), .val (.ref b1), .val (.int (Int32.ofNat i)), .val (.long (own_vv f off i)), .second, .val (.int (Int32.ofNat (8 * i)))] [(.int (44 : Int32)), (.int (Int32.ofNat (8 * i % 52)))])) _
          exact k
        by_cases hc62_3 : (44 : Int32) < (Int32.ofNat (8 * i % 52))
        · refine own_go (T' := T2) (g' := (mkF m 65 #[.val (.ref r0), .val (.int p1), .val (.ref b1), .val (.int (Int32.ofNat i)), .val (.long (own_vv f off i)), .second, .val (.int (Int32.ofNat (8 * i)))] [])) (fun t k => ?_) ?_
          · refine XS.icmpNo X2.here hx rfl (hb hby d2_62) rfl (tlt hc62_3).2.2.2 ?_
            exact k
          have h52 := (own_44 hi).mp hc62_3
          refine own_go (T' := T2) (g' := (mkF m 71 #[.val (.ref r0), .val (.int p1), .val (.ref b1), .val (.int (Int32.ofNat i)), .val (.long (own_vv f off i)), .second, .val (.int (Int32.ofNat (8 * i)))] [(.int ((Int32.ofNat (8 * i)) / (52 : Int32))), (.ref b1)])) (fun t k => ?_) ?_
          · show Steps p.tables e below (T2.setTop (mkF m 65 #[.val (.ref r0), .val (.int p1), .val (.ref b1), .val (.int (Int32.ofNat i)), .val (.long (own_vv f off i)), .second, .val (.int (Int32.ofNat (8 * i)))] [])) t
            refine XS.aloadN X2.here hx rfl (hb hby d2_65) rfl rfl ?_
            show Steps p.tables e below (T2.setTop (mkF m 66 #[.val (.ref r0), .val (.int p1), .val (.ref b1), .val (.int (Int32.ofNat i)), .val (.long (own_vv f off i)), .second, .val (.int (Int32.ofNat (8 * i)))] [(.ref b1)])) _
            refine XS.iload X2.here hx rfl (hb hby d2_66) rfl ?_
            show Steps p.tables e below (T2.setTop (mkF m 68 #[.val (.ref r0), .val (.int p1), .val (.ref b1), .val (.int (Int32.ofNat i)), .val (.long (own_vv f off i)), .second, .val (.int (Int32.ofNat (8 * i)))] [(.int (Int32.ofNat (8 * i))), (.ref b1)])) _
            refine XS.bipush X2.here hx rfl (hb hby d2_68) ?_
            show Steps p.tables e below (T2.setTop (mkF m 70 #[.val (.ref r0), .val (.int p1), .val (.ref b1), .val (.int (Int32.ofNat i)), .val (.long (own_vv f off i)), .second, .val (.int (Int32.ofNat (8 * i)))] [(.int (52 : Int32)), (.int (Int32.ofNat (8 * i))), (.ref b1)])) _
            refine XS.idiv X2.here hx rfl (hb hby d2_70) rfl (by decide) ?_
            show Steps p.tables e below (T2.setTop (mkF m 71 #[.val (.ref r0), .val (.int p1), .val (.ref b1), .val (.int (Int32.ofNat i)), .val (.long (own_vv f off i)), .second, .val (.int (Int32.ofNat (8 * i)))] [(.int ((Int32.ofNat (8 * i)) / (52 : Int32))), (.ref b1)])) _
            exact k
          rw [own_q hi]
          refine own_go (T' := T2) (g' := (mkF m 73 #[.val (.ref r0), .val (.int p1), .val (.ref b1), .val (.int (Int32.ofNat i)), .val (.long (own_vv f off i)), .second, .val (.int (Int32.ofNat (8 * i)))] [(.int ((Int32.ofNat (8 * i / 52)) + (1 : Int32))), (.ref b1)])) (fun t k => ?_) ?_
          · show Steps p.tables e below (T2.setTop (mkF m 71 #[.val (.ref r0), .val (.int p1), .val (.ref b1), .val (.int (Int32.ofNat i)), .val (.long (own_vv f off i)), .second, .val (.int (Int32.ofNat (8 * i)))] [(.int (Int32.ofNat (8 * i / 52))), (.ref b1)])) t
            refine XS.iconst X2.here hx rfl (hb hby d2_71) ?_
            show Steps p.tables e below (T2.setTop (mkF m 72 #[.val (.ref r0), .val (.int p1), .val (.ref b1), .val (.int (Int32.ofNat i)), .val (.long (own_vv f off i)), .second, .val (.int (Int32.ofNat (8 * i)))] [(.int (1 : Int32)), (.int (Int32.ofNat (8 * i / 52))), (.ref b1)])) _
            refine XS.iadd X2.here hx rfl (hb hby d2_72) rfl ?_
            show Steps p.tables e below (T2.setTop (mkF m 73 #[.val (.ref r0), .val (.int p1), .val (.ref b1), .val (.int (Int32.ofNat i)), .val (.long (own_vv f off i)), .second, .val (.int (Int32.ofNat (8 * i)))] [(.int ((Int32.ofNat (8 * i / 52)) + (1 : Int32))), (.ref b1)])) _
            exact k
          rw [own_inc]
          refine own_go (T' := T2) (g' := (mkF m 84 #[.val (.ref r0), .val (.int p1), .val (.ref b1), .val (.int (Int32.ofNat i)), .val (.long (own_vv f off i)), .second, .val (.int (Int32.ofNat (8 * i)))] [(.int ((Int32.ofNat (8 * i)) % (52 : Int32))), (.int (52 : Int32)), (.long (own_vv f off i)), (.long (own_g1 (own_of f off i) i (own_vv f off i) (8 * i / 52 + 1))), (.int (Int32.ofNat (8 * i / 52 + 1))), (.ref b1)])) (fun t k => ?_) ?_
          · show Steps p.tables e below (T2.setTop (mkF m 73 #[.val (.ref r0), .val (.int p1), .val (.ref b1), .val (.int (Int32.ofNat i)), .val (.long (own_vv f off i)), .second, .val (.int (Int32.ofNat (8 * i)))] [(.int (Int32.ofNat (8 * i / 52 + 1))), (.ref b1)])) t
            refine own_dup2 X2 hx rfl (hb hby d2_73) rfl rfl rfl ?_
            show Steps p.tables e below (T2.setTop (mkF m 74 #[.val (.ref r0), .val (.int p1), .val (.ref b1), .val (.int (Int32.ofNat i)), .val (.long (own_vv f off i)), .second, .val (.int (Int32.ofNat (8 * i)))] [(.int (Int32.ofNat (8 * i / 52 + 1))), (.ref b1), (.int (Int32.ofNat (8 * i / 52 + 1))), (.ref b1)])) _
            refine own_ldJ X2 hx hZ e2 Y2 (j := (Int32.ofNat (8 * i / 52 + 1))) (own_in5 (by omega)) (v := (.long (own_g1 (own_of f off i) i (own_vv f off i) (8 * i / 52 + 1)))) (by rw [own_ci (by omega)]; exact own_tabJ_at _ (by omega) _) (g := (mkF m 74 #[.val (.ref r0), .val (.int p1), .val (.ref b1), .val (.int (Int32.ofNat i)), .val (.long (own_vv f off i)), .second, .val (.int (Int32.ofNat (8 * i)))] [(.int (Int32.ofNat (8 * i / 52 + 1))), (.ref b1), (.int (Int32.ofNat (8 * i / 52 + 1))), (.ref b1)])) rfl rfl (hb hby d2_74) _ ?_
            show Steps p.tables e below (T2.setTop (mkF m 75 #[.val (.ref r0), .val (.int p1), .val (.ref b1), .val (.int (Int32.ofNat i)), .val (.long (own_vv f off i)), .second, .val (.int (Int32.ofNat (8 * i)))] [(.long (own_g1 (own_of f off i) i (own_vv f off i) (8 * i / 52 + 1))), (.int (Int32.ofNat (8 * i / 52 + 1))), (.ref b1)])) _
            refine XS.lload X2.here hx rfl (hb hby d2_75) rfl ?_
            show Steps p.tables e below (T2.setTop (mkF m 77 #[.val (.ref r0), .val (.int p1), .val (.ref b1), .val (.int (Int32.ofNat i)), .val (.long (own_vv f off i)), .second, .val (.int (Int32.ofNat (8 * i)))] [(.long (own_vv f off i)), (.long (own_g1 (own_of f off i) i (own_vv f off i) (8 * i / 52 + 1))), (.int (Int32.ofNat (8 * i / 52 + 1))), (.ref b1)])) _
            refine XS.bipush X2.here hx rfl (hb hby d2_77) ?_
            show Steps p.tables e below (T2.setTop (mkF m 79 #[.val (.ref r0), .val (.int p1), .val (.ref b1), .val (.int (Int32.ofNat i)), .val (.long (own_vv f off i)), .second, .val (.int (Int32.ofNat (8 * i)))] [(.int (52 : Int32)), (.long (own_vv f off i)), (.long (own_g1 (own_of f off i) i (own_vv f off i) (8 * i / 52 + 1))), (.int (Int32.ofNat (8 * i / 52 + 1))), (.ref b1)])) _
            refine XS.iload X2.here hx rfl (hb hby d2_79) rfl ?_
            show Steps p.tables e below (T2.setTop (mkF m 81 #[.val (.ref r0), .val (.int p1), .val (.ref b1), .val (.int (Int32.ofNat i)), .val (.long (own_vv f off i)), .second, .val (.int (Int32.ofNat (8 * i)))] [(.int (Int32.ofNat (8 * i))), (.int (52 : Int32)), (.long (own_vv f off i)), (.long (own_g1 (own_of f off i) i (own_vv f off i) (8 * i / 52 + 1))), (.int (Int32.ofNat (8 * i / 52 + 1))), (.ref b1)])) _
            refine XS.bipush X2.here hx rfl (hb hby d2_81) ?_
            show Steps p.tables e below (T2.setTop (mkF m 83 #[.val (.ref r0), .val (.int p1), .val (.ref b1), .val (.int (Int32.ofNat i)), .val (.long (own_vv f off i)), .second, .val (.int (Int32.ofNat (8 * i)))] [(.int (52 : Int32)), (.int (Int32.ofNat (8 * i))), (.int (52 : Int32)), (.long (own_vv f off i)), (.long (own_g1 (own_of f off i) i (own_vv f off i) (8 * i / 52 + 1))), (.int (Int32.ofNat (8 * i / 52 + 1))), (.ref b1)])) _
            refine iremM X2 hx rfl (hb hby d2_83) rfl (by decide) ?_
            show Steps p.tables e below (T2.setTop (mkF m 84 #[.val (.ref r0), .val (.int p1), .val (.ref b1), .val (.int (Int32.ofNat i)), .val (.long (own_vv f off i)), .second, .val (.int (Int32.ofNat (8 * i)))] [(.int ((Int32.ofNat (8 * i)) % (52 : Int32))), (.int (52 : Int32)), (.long (own_vv f off i)), (.long (own_g1 (own_of f off i) i (own_vv f off i) (8 * i / 52 + 1))), (.int (Int32.ofNat (8 * i / 52 + 1))), (.ref b1)])) _
            exact k
          rw [own_m hi]
          refine own_go (T' := T2) (g' := (mkF m 85 #[.val (.ref r0), .val (.int p1), .val (.ref b1), .val (.int (Int32.ofNat i)), .val (.long (own_vv f off i)), .second, .val (.int (Int32.ofNat (8 * i)))] [(.int ((52 : Int32) - (Int32.ofNat (8 * i % 52)))), (.long (own_vv f off i)), (.long (own_g1 (own_of f off i) i (own_vv f off i) (8 * i / 52 + 1))), (.int (Int32.ofNat (8 * i / 52 + 1))), (.ref b1)])) (fun t k => ?_) ?_
          · show Steps p.tables e below (T2.setTop (mkF m 84 #[.val (.ref r0), .val (.int p1), .val (.ref b1), .val (.int (Int32.ofNat i)), .val (.long (own_vv f off i)), .second, .val (.int (Int32.ofNat (8 * i)))] [(.int (Int32.ofNat (8 * i % 52))), (.int (52 : Int32)), (.long (own_vv f off i)), (.long (own_g1 (own_of f off i) i (own_vv f off i) (8 * i / 52 + 1))), (.int (Int32.ofNat (8 * i / 52 + 1))), (.ref b1)])) t
            refine XS.isub X2.here hx rfl (hb hby d2_84) rfl ?_
            show Steps p.tables e below (T2.setTop (mkF m 85 #[.val (.ref r0), .val (.int p1), .val (.ref b1), .val (.int (Int32.ofNat i)), .val (.long (own_vv f off i)), .second, .val (.int (Int32.ofNat (8 * i)))] [(.int ((52 : Int32) - (Int32.ofNat (8 * i % 52)))), (.long (own_vv f off i)), (.long (own_g1 (own_of f off i) i (own_vv f off i) (8 * i / 52 + 1))), (.int (Int32.ofNat (8 * i / 52 + 1))), (.ref b1)])) _
            exact k
          rw [own_52 hi]
          refine own_go (T' := T2) (g' := (mkF m 87 #[.val (.ref r0), .val (.int p1), .val (.ref b1), .val (.int (Int32.ofNat i)), .val (.long (own_vv f off i)), .second, .val (.int (Int32.ofNat (8 * i)))] [(.long ((own_g1 (own_of f off i) i (own_vv f off i) (8 * i / 52 + 1)) ||| (((own_vv f off i).toUInt64 >>> ((Int32.ofNat (52 - 8 * i % 52)) &&& 0x3f).toInt64.toUInt64).toInt64))), (.int (Int32.ofNat (8 * i / 52 + 1))), (.ref b1)])) (fun t k => ?_) ?_
          · show Steps p.tables e below (T2.setTop (mkF m 85 #[.val (.ref r0), .val (.int p1), .val (.ref b1), .val (.int (Int32.ofNat i)), .val (.long (own_vv f off i)), .second, .val (.int (Int32.ofNat (8 * i)))] [(.int (Int32.ofNat (52 - 8 * i % 52))), (.long (own_vv f off i)), (.long (own_g1 (own_of f off i) i (own_vv f off i) (8 * i / 52 + 1))), (.int (Int32.ofNat (8 * i / 52 + 1))), (.ref b1)])) t
            refine XS.lushr X2.here hx rfl (hb hby d2_85) rfl ?_
            show Steps p.tables e below (T2.setTop (mkF m 86 #[.val (.ref r0), .val (.int p1), .val (.ref b1), .val (.int (Int32.ofNat i)), .val (.long (own_vv f off i)), .second, .val (.int (Int32.ofNat (8 * i)))] [(.long (((own_vv f off i).toUInt64 >>> ((Int32.ofNat (52 - 8 * i % 52)) &&& 0x3f).toInt64.toUInt64).toInt64)), (.long (own_g1 (own_of f off i) i (own_vv f off i) (8 * i / 52 + 1))), (.int (Int32.ofNat (8 * i / 52 + 1))), (.ref b1)])) _
            refine XS.lor X2.here hx rfl (hb hby d2_86) rfl ?_
            show Steps p.tables e below (T2.setTop (mkF m 87 #[.val (.ref r0), .val (.int p1), .val (.ref b1), .val (.int (Int32.ofNat i)), .val (.long (own_vv f off i)), .second, .val (.int (Int32.ofNat (8 * i)))] [(.long ((own_g1 (own_of f off i) i (own_vv f off i) (8 * i / 52 + 1)) ||| (((own_vv f off i).toUInt64 >>> ((Int32.ofNat (52 - 8 * i % 52)) &&& 0x3f).toInt64.toUInt64).toInt64))), (.int (Int32.ofNat (8 * i / 52 + 1))), (.ref b1)])) _
            exact k
          obtain ⟨T4, h4, L4, X4, N4, e4, W4, Y4, st4⟩ := own_stJ X2 hx hZ e2 Y2 (j := (Int32.ofNat (8 * i / 52 + 1))) (own_in5 (by omega)) (8 * i / 52 + 1) (own_ci (by omega)) (by rw [own_tabJ_len]; omega) N2 ga_b1 (g := (mkF m 87 #[.val (.ref r0), .val (.int p1), .val (.ref b1), .val (.int (Int32.ofNat i)), .val (.long (own_vv f off i)), .second, .val (.int (Int32.ofNat (8 * i)))] [(.long ((own_g1 (own_of f off i) i (own_vv f off i) (8 * i / 52 + 1)) ||| (((own_vv f off i).toUInt64 >>> ((Int32.ofNat (52 - 8 * i % 52)) &&& 0x3f).toInt64.toUInt64).toInt64))), (.int (Int32.ofNat (8 * i / 52 + 1))), (.ref b1)])) rfl rfl (hb hby d2_87)
          rw [own_tabJ_set] at Y4
          have K4 := K2.wr W4 (Or.inr hx_b1)
          have B4 := B2.other W4 (Nat.ne_of_lt lt_r0_b1)
          refine own_go (T' := T4) (g' := (mkF m 88 #[.val (.ref r0), .val (.int p1), .val (.ref b1), .val (.int (Int32.ofNat i)), .val (.long (own_vv f off i)), .second, .val (.int (Int32.ofNat (8 * i)))] [])) st4 ?_
          refine own_go (T' := T4) (g' := (mkF m 6 #[.val (.ref r0), .val (.int p1), .val (.ref b1), .val (.int ((Int32.ofNat i) + (1 : Int32))), .val (.long (own_vv f off i)), .second, .val (.int (Int32.ofNat (8 * i)))] [])) (fun t k => ?_) ?_
          · show Steps p.tables e below (T4.setTop (mkF m 88 #[.val (.ref r0), .val (.int p1), .val (.ref b1), .val (.int (Int32.ofNat i)), .val (.long (own_vv f off i)), .second, .val (.int (Int32.ofNat (8 * i)))] [])) t
            refine XS.iinc X4.here hx rfl (hb hby d2_88) rfl (l' := #[.val (.ref r0), .val (.int p1), .val (.ref b1), .val (.int ((Int32.ofNat i) + (1 : Int32))), .val (.long (own_vv f off i)), .second, .val (.int (Int32.ofNat (8 * i)))]) rfl ?_
            show Steps p.tables e below (T4.setTop (mkF m 91 #[.val (.ref r0), .val (.int p1), .val (.ref b1), .val (.int ((Int32.ofNat i) + (1 : Int32))), .val (.long (own_vv f off i)), .second, .val (.int (Int32.ofNat (8 * i)))] [])) _
            refine XS.goto X4.here hx rfl (pc0 := 91) (pc' := 6) rfl (hb hby d2_91) (by decide) (by decide) ?_
            show Steps p.tables e below (T4.setTop (mkF m 6 #[.val (.ref r0), .val (.int p1), .val (.ref b1), .val (.int ((Int32.ofNat i) + (1 : Int32))), .val (.long (own_vv f off i)), .second, .val (.int (Int32.ofNat (8 * i)))] [])) _
            exact k
          have V9 : Arv Z h4 b1 k1 .long (5 : Int32) (own_tabJ (own_of f off (i + 1))) (.long 0) := by
            show Arv _ _ _ _ _ _ (own_tabJ (if 8 * i % 52 ≤ 44 then _ else _)) _
            rw [if_neg h52]; exact Y4
          rw [own_inc]
          exact ih (i + 1) (by omega) _ _ _ (Or.inr ⟨_, _, rfl, rfl, rfl⟩) T4 _ _ X4 e4 N4 K4 B4 V9
        · refine own_go (T' := T2) (g' := (mkF m 88 #[.val (.ref r0), .val (.int p1), .val (.ref b1), .val (.int (Int32.ofNat i)), .val (.long (own_vv f off i)), .second, .val (.int (Int32.ofNat (8 * i)))] [])) (fun t k => ?_) ?_
          · refine XS.icmpYes X2.here hx rfl (pc0 := 62) (pc' := 88) rfl (hb hby d2_62) rfl (flt hc62_3).2.2.2 (by decide) (by decide) ?_
            exact k
          have h52 : 8 * i % 52 ≤ 44 := by have := mt (own_44 hi).mpr hc62_3; omega
          refine own_go (T' := T2) (g' := (mkF m 6 #[.val (.ref r0), .val (.int p1), .val (.ref b1), .val (.int ((Int32.ofNat i) + (1 : Int32))), .val (.long (own_vv f off i)), .second, .val (.int (Int32.ofNat (8 * i)))] [])) (fun t k => ?_) ?_
          · show Steps p.tables e below (T2.setTop (mkF m 88 #[.val (.ref r0), .val (.int p1), .val (.ref b1), .val (.int (Int32.ofNat i)), .val (.long (own_vv f off i)), .second, .val (.int (Int32.ofNat (8 * i)))] [])) t
            refine XS.iinc X2.here hx rfl (hb hby d2_88) rfl (l' := #[.val (.ref r0), .val (.int p1), .val (.ref b1), .val (.int ((Int32.ofNat i) + (1 : Int32))), .val (.long (own_vv f off i)), .second, .val (.int (Int32.ofNat (8 * i)))]) rfl ?_
            show Steps p.tables e below (T2.setTop (mkF m 91 #[.val (.ref r0), .val (.int p1), .val (.ref b1), .val (.int ((Int32.ofNat i) + (1 : Int32))), .val (.long (own_vv f off i)), .second, .val (.int (Int32.ofNat (8 * i)))] [])) _
            refine XS.goto X2.here hx rfl (pc0 := 91) (pc' := 6) rfl (hb hby d2_91) (by decide) (by decide) ?_
            show Steps p.tables e below (T2.setTop (mkF m 6 #[.val (.ref r0), .val (.int p1), .val (.ref b1), .val (.int ((Int32.ofNat i) + (1 : Int32))), .val (.long (own_vv f off i)), .second, .val (.int (Int32.ofNat (8 * i)))] [])) _
            exact k
          have V9 : Arv Z h2 b1 k1 .long (5 : Int32) (own_tabJ (own_of f off (i + 1))) (.long 0) := by
            show Arv _ _ _ _ _ _ (own_tabJ (if 8 * i % 52 ≤ 44 then _ else _)) _
            rw [if_pos h52]; exact Y2
          rw [own_inc]
          exact ih (i + 1) (by omega) _ _ _ (Or.inr ⟨_, _, rfl, rfl, rfl⟩) T2 _ _ X2 e2 N2 K2 B2 V9
      · refine own_go (T' := T) (g' := (mkF m 9 #[.val (.ref r0), .val (.int p1), .val (.ref b1), .val (.int (Int32.ofNat i)), .val (.long v), .second, .val (.int y)] [(.int (32 : Int32)), (.int (Int32.ofNat i))])) (fun t k => ?_) ?_
        · show Steps p.tables e below (T.setTop (mkF m 6 #[.val (.ref r0), .val (.int p1), .val (.ref b1), .val (.int (Int32.ofNat i)), .val (.long v), .second, .val (.int y)] [])) t
          refine XS.iloadN X.here hx rfl (hb hby d2_6) rfl ?_
          show Steps p.tables e below (T.setTop (mkF m 7 #[.val (.ref r0), .val (.int p1), .val (.ref b1), .val (.int (Int32.ofNat i)), .val (.long v), .second, .val (.int y)] [(.int (Int32.ofNat i))])) _
          refine XS.bipush X.here hx rfl (hb hby d2_7) ?_
          show Steps p.tables e below (T.setTop (mkF m 9 #[.val (.ref r0), .val (.int p1), .val (.ref b1), .val (.int (Int32.ofNat i)), .val (.long v), .second, .val (.int y)] [(.int (32 : Int32)), (.int (Int32.ofNat i))])) _
          exact k
        refine own_go (T' := T) (g' := (mkF m 19 #[.val (.ref r0), .val (.int p1), .val (.ref b1), .val (.int (Int32.ofNat i)), .val (.long v), .second, .val (.int y)] [(.int ((p1 + (31 : Int32)) - (Int32.ofNat i))), (.ref r0)])) (fun t k => ?_) ?_
        · show Steps p.tables e below (T.setTop (mkF m 9 #[.val (.ref r0), .val (.int p1), .val (.ref b1), .val (.int (Int32.ofNat i)), .val (.long v), .second, .val (.int y)] [(.int (32 : Int32)), (.int (Int32.ofNat i))])) t
          refine XS.icmpNo X.here hx rfl (hb hby d2_9) rfl (tlt (own_i31 hi)).2.1 ?_
          show Steps p.tables e below (T.setTop (mkF m 12 #[.val (.ref r0), .val (.int p1), .val (.ref b1), .val (.int (Int32.ofNat i)), .val (.long v), .second, .val (.int y)] [])) _
          refine XS.aloadN X.here hx rfl (hb hby d2_12) rfl rfl ?_
          show Steps p.tables e below (T.setTop (mkF m 13 #[.val (.ref r0), .val (.int p1), .val (.ref b1), .val (.int (Int32.ofNat i)), .val (.long v), .second, .val (.int y)] [(.ref r0)])) _
          refine XS.iloadN X.here hx rfl (hb hby d2_13) rfl ?_
          show Steps p.tables e below (T.setTop (mkF m 14 #[.val (.ref r0), .val (.int p1), .val (.ref b1), .val (.int (Int32.ofNat i)), .val (.long v), .second, .val (.int y)] [(.int p1), (.ref r0)])) _
          refine XS.bipush X.here hx rfl (hb hby d2_14) ?_
          show Steps p.tables e below (T.setTop (mkF m 16 #[.val (.ref r0), .val (.int p1), .val (.ref b1), .val (.int (Int32.ofNat i)), .val (.long v), .second, .val (.int y)] [(.int (31 : Int32)), (.int p1), (.ref r0)])) _
          refine XS.iadd X.here hx rfl (hb hby d2_16) rfl ?_
          show Steps p.tables e below (T.setTop (mkF m 17 #[.val (.ref r0), .val (.int p1), .val (.ref b1), .val (.int (Int32.ofNat i)), .val (.long v), .second, .val (.int y)] [(.int (p1 + (31 : Int32))), (.ref r0)])) _
          refine XS.iloadN X.here hx rfl (hb hby d2_17) rfl ?_
          show Steps p.tables e below (T.setTop (mkF m 18 #[.val (.ref r0), .val (.int p1), .val (.ref b1), .val (.int (Int32.ofNat i)), .val (.long v), .second, .val (.int y)] [(.int (Int32.ofNat i)), (.int (p1 + (31 : Int32))), (.ref r0)])) _
          refine XS.isub X.here hx rfl (hb hby d2_18) rfl ?_
          show Steps p.tables e below (T.setTop (mkF m 19 #[.val (.ref r0), .val (.int p1), .val (.ref b1), .val (.int (Int32.ofNat i)), .val (.long v), .second, .val (.int y)] [(.int ((p1 + (31 : Int32)) - (Int32.ofNat i))), (.ref r0)])) _
          exact k
        rw [own_k hp hoff hi]
        refine own_go (T' := T) (g' := (mkF m 27 #[.val (.ref r0), .val (.int p1), .val (.ref b1), .val (.int (Int32.ofNat i)), .val (.long (((f (off + 31 - i)).toInt64) &&& (255 : Int64))), .second, .val (.int y)] [])) (fun t k => ?_) ?_
        · show Steps p.tables e below (T.setTop (mkF m 19 #[.val (.ref r0), .val (.int p1), .val (.ref b1), .val (.int (Int32.ofNat i)), .val (.long v), .second, .val (.int y)] [(.int (Int32.ofNat (off + 31 - i))), (.ref r0)])) t
          refine own_ldB X hx hZ eT B (j := (Int32.ofNat (off + 31 - i))) (own_in40 (by omega)) (v := (.int (f (off + 31 - i)))) (by rw [own_ci (by omega)]; exact own_tab_at f (by omega) _) (g := (mkF m 19 #[.val (.ref r0), .val (.int p1), .val (.ref b1), .val (.int (Int32.ofNat i)), .val (.long v), .second, .val (.int y)] [(.int (Int32.ofNat (off + 31 - i))), (.ref r0)])) rfl rfl (hb hby d2_19) _ ?_
          show Steps p.tables e below (T.setTop (mkF m 20 #[.val (.ref r0), .val (.int p1), .val (.ref b1), .val (.int (Int32.ofNat i)), .val (.long v), .second, .val (.int y)] [(.int (f (off + 31 - i)))])) _
          refine XS.i2l X.here hx rfl (hb hby d2_20) rfl ?_
          show Steps p.tables e below (T.setTop (mkF m 21 #[.val (.ref r0), .val (.int p1), .val (.ref b1), .val (.int (Int32.ofNat i)), .val (.long v), .second, .val (.int y)] [(.long ((f (off + 31 - i)).toInt64))])) _
          refine X.ldc2Long hx hown (mvT hZ (hw _ (List.mem_of_getElem? (i := 11) rfl))) (g := (mkF m 21 #[.val (.ref r0), .val (.int p1), .val (.ref b1), .val (.int (Int32.ofNat i)), .val (.long v), .second, .val (.int y)] [(.long ((f (off + 31 - i)).toInt64))])) rfl (hb hby d2_21) _ ?_
          show Steps p.tables e below (T.setTop (mkF m 24 #[.val (.ref r0), .val (.int p1), .val (.ref b1), .val (.int (Int32.ofNat i)), .val (.long v), .second, .val (.int y)] [(.long (255 : Int64)), (.long ((f (off + 31 - i)).toInt64))])) _
          refine XS.land X.here hx rfl (hb hby d2_24) rfl ?_
          show Steps p.tables e below (T.setTop (mkF m 25 #[.val (.ref r0), .val (.int p1), .val (.ref b1), .val (.int (Int32.ofNat i)), .val (.long v), .second, .val (.int y)] [(.long (((f (off + 31 - i)).toInt64) &&& (255 : Int64)))])) _
          refine XS.lstore X.here hx rfl (hb hby d2_25) rfl (l' := #[.val (.ref r0), .val (.int p1), .val (.ref b1), .val (.int (Int32.ofNat i)), .val (.long (((f (off + 31 - i)).toInt64) &&& (255 : Int64))), .second, .val (.int y)]) rfl ?_
          show Steps p.tables e below (T.setTop (mkF m 27 #[.val (.ref r0), .val (.int p1), .val (.ref b1), .val (.int (Int32.ofNat i)), .val (.long (((f (off + 31 - i)).toInt64) &&& (255 : Int64))), .second, .val (.int y)] [])) _
          exact k
        refine own_go (T' := T) (g' := (mkF m 33 #[.val (.ref r0), .val (.int p1), .val (.ref b1), .val (.int (Int32.ofNat i)), .val (.long (own_vv f off i)), .second, .val (.int ((8 : Int32) * (Int32.ofNat i)))] [])) (fun t k => ?_) ?_
        · show Steps p.tables e below (T.setTop (mkF m 27 #[.val (.ref r0), .val (.int p1), .val (.ref b1), .val (.int (Int32.ofNat i)), .val (.long (own_vv f off i)), .second, .val (.int y)] [])) t
          refine XS.bipush X.here hx rfl (hb hby d2_27) ?_
          show Steps p.tables e below (T.setTop (mkF m 29 #[.val (.ref r0), .val (.int p1), .val (.ref b1), .val (.int (Int32.ofNat i)), .val (.long (own_vv f off i)), .second, .val (.int y)] [(.int (8 : Int32))])) _
          refine XS.iloadN X.here hx rfl (hb hby d2_29) rfl ?_
          show Steps p.tables e below (T.setTop (mkF m 30 #[.val (.ref r0), .val (.int p1), .val (.ref b1), .val (.int (Int32.ofNat i)), .val (.long (own_vv f off i)), .second, .val (.int y)] [(.int (Int32.ofNat i)), (.int (8 : Int32))])) _
          refine XS.imul X.here hx rfl (hb hby d2_30) rfl ?_
          show Steps p.tables e below (T.setTop (mkF m 31 #[.val (.ref r0), .val (.int p1), .val (.ref b1), .val (.int (Int32.ofNat i)), .val (.long (own_vv f off i)), .second, .val (.int y)] [(.int ((8 : Int32) * (Int32.ofNat i)))])) _
          refine XS.istore X.here hx rfl (hb hby d2_31) rfl (l' := #[.val (.ref r0), .val (.int p1), .val (.ref b1), .val (.int (Int32.ofNat i)), .val (.long (own_vv f off i)), .second, .val (.int ((8 : Int32) * (Int32.ofNat i)))]) rfl ?_
          show Steps p.tables e below (T.setTop (mkF m 33 #[.val (.ref r0), .val (.int p1), .val (.ref b1), .val (.int (Int32.ofNat i)), .val (.long (own_vv f off i)), .second, .val (.int ((8 : Int32) * (Int32.ofNat i)))] [])) _
          exact k
        rw [own_bit hi]
        refine own_go (T' := T) (g' := (mkF m 39 #[.val (.ref r0), .val (.int p1), .val (.ref b1), .val (.int (Int32.ofNat i)), .val (.long (own_vv f off i)), .second, .val (.int (Int32.ofNat (8 * i)))] [(.int ((Int32.ofNat (8 * i)) / (52 : Int32))), (.ref b1)])) (fun t k => ?_) ?_
        · show Steps p.tables e below (T.setTop (mkF m 33 #[.val (.ref r0), .val (.int p1), .val (.ref b1), .val (.int (Int32.ofNat i)), .val (.long (own_vv f off i)), .second, .val (.int (Int32.ofNat (8 * i)))] [])) t
          refine XS.aloadN X.here hx rfl (hb hby d2_33) rfl rfl ?_
          show Steps p.tables e below (T.setTop (mkF m 34 #[.val (.ref r0), .val (.int p1), .val (.ref b1), .val (.int (Int32.ofNat i)), .val (.long (own_vv f off i)), .second, .val (.int (Int32.ofNat (8 * i)))] [(.ref b1)])) _
          refine XS.iload X.here hx rfl (hb hby d2_34) rfl ?_
          show Steps p.tables e below (T.setTop (mkF m 36 #[.val (.ref r0), .val (.int p1), .val (.ref b1), .val (.int (Int32.ofNat i)), .val (.long (own_vv f off i)), .second, .val (.int (Int32.ofNat (8 * i)))] [(.int (Int32.ofNat (8 * i))), (.ref b1)])) _
          refine XS.bipush X.here hx rfl (hb hby d2_36) ?_
          show Steps p.tables e below (T.setTop (mkF m 38 #[.val (.ref r0), .val (.int p1), .val (.ref b1), .val (.int (Int32.ofNat i)), .val (.long (own_vv f off i)), .second, .val (.int (Int32.ofNat (8 * i)))] [(.int (52 : Int32)), (.int (Int32.ofNat (8 * i))), (.ref b1)])) _
          refine XS.idiv X.here hx rfl (hb hby d2_38) rfl (by decide) ?_
          show Steps p.tables e below (T.setTop (mkF m 39 #[.val (.ref r0), .val (.int p1), .val (.ref b1), .val (.int (Int32.ofNat i)), .val (.long (own_vv f off i)), .second, .val (.int (Int32.ofNat (8 * i)))] [(.int ((Int32.ofNat (8 * i)) / (52 : Int32))), (.ref b1)])) _
          exact k
        rw [own_q hi]
        refine own_go (T' := T) (g' := (mkF m 48 #[.val (.ref r0), .val (.int p1), .val (.ref b1), .val (.int (Int32.ofNat i)), .val (.long (own_vv f off i)), .second, .val (.int (Int32.ofNat (8 * i)))] [(.int ((Int32.ofNat (8 * i)) % (52 : Int32))), (.long (own_vv f off i)), (.long (own_of f off i (8 * i / 52))), (.int (Int32.ofNat (8 * i / 52))), (.ref b1)])) (fun t k => ?_) ?_
        · show Steps p.tables e below (T.setTop (mkF m 39 #[.val (.ref r0), .val (.int p1), .val (.ref b1), .val (.int (Int32.ofNat i)), .val (.long (own_vv f off i)), .second, .val (.int (Int32.ofNat (8 * i)))] [(.int (Int32.ofNat (8 * i / 52))), (.ref b1)])) t
          refine own_dup2 X hx rfl (hb hby d2_39) rfl rfl rfl ?_
          show Steps p.tables e below (T.setTop (mkF m 40 #[.val (.ref r0), .val (.int p1), .val (.ref b1), .val (.int (Int32.ofNat i)), .val (.long (own_vv f off i)), .second, .val (.int (Int32.ofNat (8 * i)))] [(.int (Int32.ofNat (8 * i / 52))), (.ref b1), (.int (Int32.ofNat (8 * i / 52))), (.ref b1)])) _
          refine own_ldJ X hx hZ eT V (j := (Int32.ofNat (8 * i / 52))) (own_in5 (by omega)) (v := (.long (own_of f off i (8 * i / 52)))) (by rw [own_ci (by omega)]; exact own_tabJ_at _ (by omega) _) (g := (mkF m 40 #[.val (.ref r0), .val (.int p1), .val (.ref b1), .val (.int (Int32.ofNat i)), .val (.long (own_vv f off i)), .second, .val (.int (Int32.ofNat (8 * i)))] [(.int (Int32.ofNat (8 * i / 52))), (.ref b1), (.int (Int32.ofNat (8 * i / 52))), (.ref b1)])) rfl rfl (hb hby d2_40) _ ?_
          show Steps p.tables e below (T.setTop (mkF m 41 #[.val (.ref r0), .val (.int p1), .val (.ref b1), .val (.int (Int32.ofNat i)), .val (.long (own_vv f off i)), .second, .val (.int (Int32.ofNat (8 * i)))] [(.long (own_of f off i (8 * i / 52))), (.int (Int32.ofNat (8 * i / 52))), (.ref b1)])) _
          refine XS.lload X.here hx rfl (hb hby d2_41) rfl ?_
          show Steps p.tables e below (T.setTop (mkF m 43 #[.val (.ref r0), .val (.int p1), .val (.ref b1), .val (.int (Int32.ofNat i)), .val (.long (own_vv f off i)), .second, .val (.int (Int32.ofNat (8 * i)))] [(.long (own_vv f off i)), (.long (own_of f off i (8 * i / 52))), (.int (Int32.ofNat (8 * i / 52))), (.ref b1)])) _
          refine XS.iload X.here hx rfl (hb hby d2_43) rfl ?_
          show Steps p.tables e below (T.setTop (mkF m 45 #[.val (.ref r0), .val (.int p1), .val (.ref b1), .val (.int (Int32.ofNat i)), .val (.long (own_vv f off i)), .second, .val (.int (Int32.ofNat (8 * i)))] [(.int (Int32.ofNat (8 * i))), (.long (own_vv f off i)), (.long (own_of f off i (8 * i / 52))), (.int (Int32.ofNat (8 * i / 52))), (.ref b1)])) _
          refine XS.bipush X.here hx rfl (hb hby d2_45) ?_
          show Steps p.tables e below (T.setTop (mkF m 47 #[.val (.ref r0), .val (.int p1), .val (.ref b1), .val (.int (Int32.ofNat i)), .val (.long (own_vv f off i)), .second, .val (.int (Int32.ofNat (8 * i)))] [(.int (52 : Int32)), (.int (Int32.ofNat (8 * i))), (.long (own_vv f off i)), (.long (own_of f off i (8 * i / 52))), (.int (Int32.ofNat (8 * i / 52))), (.ref b1)])) _
          refine iremM X hx rfl (hb hby d2_47) rfl (by decide) ?_
          show Steps p.tables e below (T.setTop (mkF m 48 #[.val (.ref r0), .val (.int p1), .val (.ref b1), .val (.int (Int32.ofNat i)), .val (.long (own_vv f off i)), .second, .val (.int (Int32.ofNat (8 * i)))] [(.int ((Int32.ofNat (8 * i)) % (52 : Int32))), (.long (own_vv f off i)), (.long (own_of f off i (8 * i / 52))), (.int (Int32.ofNat (8 * i / 52))), (.ref b1)])) _
          exact k
        rw [own_m hi]
        refine own_go (T' := T) (g' := (mkF m 54 #[.val (.ref r0), .val (.int p1), .val (.ref b1), .val (.int (Int32.ofNat i)), .val (.long (own_vv f off i)), .second, .val (.int (Int32.ofNat (8 * i)))] [(.long ((own_of f off i (8 * i / 52)) ||| (((own_vv f off i) <<< ((Int32.ofNat (8 * i % 52)) &&& 0x3f).toInt64) &&& (4503599627370495 : Int64)))), (.int (Int32.ofNat (8 * i / 52))), (.ref b1)])) (fun t k => ?_) ?_
        · show Steps p.tables e below (T.setTop (mkF m 48 #[.val (.ref r0), .val (.int p1), .val (.ref b1), .val (.int (Int32.ofNat i)), .val (.long (own_vv f off i)), .second, .val (.int (Int32.ofNat (8 * i)))] [(.int (Int32.ofNat (8 * i % 52))), (.long (own_vv f off i)), (.long (own_of f off i (8 * i / 52))), (.int (Int32.ofNat (8 * i / 52))), (.ref b1)])) t
          refine XS.lshl X.here hx rfl (hb hby d2_48) rfl ?_
          show Steps p.tables e below (T.setTop (mkF m 49 #[.val (.ref r0), .val (.int p1), .val (.ref b1), .val (.int (Int32.ofNat i)), .val (.long (own_vv f off i)), .second, .val (.int (Int32.ofNat (8 * i)))] [(.long ((own_vv f off i) <<< ((Int32.ofNat (8 * i % 52)) &&& 0x3f).toInt64)), (.long (own_of f off i (8 * i / 52))), (.int (Int32.ofNat (8 * i / 52))), (.ref b1)])) _
          refine X.ldc2Long hx hown (mvT hZ (hw _ (List.mem_of_getElem? (i := 12) rfl))) (g := (mkF m 49 #[.val (.ref r0), .val (.int p1), .val (.ref b1), .val (.int (Int32.ofNat i)), .val (.long (own_vv f off i)), .second, .val (.int (Int32.ofNat (8 * i)))] [(.long ((own_vv f off i) <<< ((Int32.ofNat (8 * i % 52)) &&& 0x3f).toInt64)), (.long (own_of f off i (8 * i / 52))), (.int (Int32.ofNat (8 * i / 52))), (.ref b1)])) rfl (hb hby d2_49) _ ?_
          show Steps p.tables e below (T.setTop (mkF m 52 #[.val (.ref r0), .val (.int p1), .val (.ref b1), .val (.int (Int32.ofNat i)), .val (.long (own_vv f off i)), .second, .val (.int (Int32.ofNat (8 * i)))] [(.long (4503599627370495 : Int64)), (.long ((own_vv f off i) <<< ((Int32.ofNat (8 * i % 52)) &&& 0x3f).toInt64)), (.long (own_of f off i (8 * i / 52))), (.int (Int32.ofNat (8 * i / 52))), (.ref b1)])) _
          refine XS.land X.here hx rfl (hb hby d2_52) rfl ?_
          show Steps p.tables e below (T.setTop (mkF m 53 #[.val (.ref r0), .val (.int p1), .val (.ref b1), .val (.int (Int32.ofNat i)), .val (.long (own_vv f off i)), .second, .val (.int (Int32.ofNat (8 * i)))] [(.long (((own_vv f off i) <<< ((Int32.ofNat (8 * i % 52)) &&& 0x3f).toInt64) &&& (4503599627370495 : Int64))), (.long (own_of f off i (8 * i / 52))), (.int (Int32.ofNat (8 * i / 52))), (.ref b1)])) _
          refine XS.lor X.here hx rfl (hb hby d2_53) rfl ?_
          show Steps p.tables e below (T.setTop (mkF m 54 #[.val (.ref r0), .val (.int p1), .val (.ref b1), .val (.int (Int32.ofNat i)), .val (.long (own_vv f off i)), .second, .val (.int (Int32.ofNat (8 * i)))] [(.long ((own_of f off i (8 * i / 52)) ||| (((own_vv f off i) <<< ((Int32.ofNat (8 * i % 52)) &&& 0x3f).toInt64) &&& (4503599627370495 : Int64)))), (.int (Int32.ofNat (8 * i / 52))), (.ref b1)])) _
          exact k
        obtain ⟨T5, h5, L5, X5, N5, e5, W5, Y5, st5⟩ := own_stJ X hx hZ eT V (j := (Int32.ofNat (8 * i / 52))) (own_in5 (by omega)) (8 * i / 52) (own_ci (by omega)) (by rw [own_tabJ_len]; omega) N ga_b1 (g := (mkF m 54 #[.val (.ref r0), .val (.int p1), .val (.ref b1), .val (.int (Int32.ofNat i)), .val (.long (own_vv f off i)), .second, .val (.int (Int32.ofNat (8 * i)))] [(.long ((own_of f off i (8 * i / 52)) ||| (((own_vv f off i) <<< ((Int32.ofNat (8 * i % 52)) &&& 0x3f).toInt64) &&& (4503599627370495 : Int64)))), (.int (Int32.ofNat (8 * i / 52))), (.ref b1)])) rfl rfl (hb hby d2_54)
        rw [own_tabJ_set] at Y5
        have K5 := K.wr W5 (Or.inr hx_b1)
        have B5 := B.other W5 (Nat.ne_of_lt lt_r0_b1)
        refine own_go (T' := T5) (g' := (mkF m 55 #[.val (.ref r0), .val (.int p1), .val (.ref b1), .val (.int (Int32.ofNat i)), .val (.long (own_vv f off i)), .second, .val (.int (Int32.ofNat (8 * i)))] [])) st5 ?_
        refine own_go (T' := T5) (g' := (mkF m 60 #[.val (.ref r0), .val (.int p1), .val (.ref b1), .val (.int (Int32.ofNat i)), .val (.long (own_vv f off i)), .second, .val (.int (Int32.ofNat (8 * i)))] [(.int ((Int32.ofNat (8 * i)) % (52 : Int32)))])) (fun t k => ?_) ?_
        · show Steps p.tables e below (T5.setTop (mkF m 55 #[.val (.ref r0), .val (.int p1), .val (.ref b1), .val (.int (Int32.ofNat i)), .val (.long (own_vv f off i)), .second, .val (.int (Int32.ofNat (8 * i)))] [])) t
          refine XS.iload X5.here hx rfl (hb hby d2_55) rfl ?_
          show Steps p.tables e below (T5.setTop (mkF m 57 #[.val (.ref r0), .val (.int p1), .val (.ref b1), .val (.int (Int32.ofNat i)), .val (.long (own_vv f off i)), .second, .val (.int (Int32.ofNat (8 * i)))] [(.int (Int32.ofNat (8 * i)))])) _
          refine XS.bipush X5.here hx rfl (hb hby d2_57) ?_
          show Steps p.tables e below (T5.setTop (mkF m 59 #[.val (.ref r0), .val (.int p1), .val (.ref b1), .val (.int (Int32.ofNat i)), .val (.long (own_vv f off i)), .second, .val (.int (Int32.ofNat (8 * i)))] [(.int (52 : Int32)), (.int (Int32.ofNat (8 * i)))])) _
          refine iremM X5 hx rfl (hb hby d2_59) rfl (by decide) ?_
          show Steps p.tables e below (T5.setTop (mkF m 60 #[.val (.ref r0), .val (.int p1), .val (.ref b1), .val (.int (Int32.ofNat i)), .val (.long (own_vv f off i)), .second, .val (.int (Int32.ofNat (8 * i)))] [(.int ((Int32.ofNat (8 * i)) % (52 : Int32)))])) _
          exact k
        rw [own_m hi]
        refine own_go (T' := T5) (g' := (mkF m 62 #[.val (.ref r0), .val (.int p1), .val (.ref b1), .val (.int (Int32.ofNat i)), .val (.long (own_vv f off i)), .second, .val (.int (Int32.ofNat (8 * i)))] [(.int (44 : Int32)), (.int (Int32.ofNat (8 * i % 52)))])) (fun t k => ?_) ?_
        · show Steps p.tables e below (T5.setTop (mkF m 60 #[.val (.ref r0), .val (.int p1), .val (.ref b1), .val (.int (Int32.ofNat i)), .val (.long (own_vv f off i)), .second, .val (.int (Int32.ofNat (8 * i)))] [(.int (Int32.ofNat (8 * i % 52)))])) t
          refine XS.bipush X5.here hx rfl (hb hby d2_60) ?_
          show Steps p.tables e below (T5.setTop (mkF m 62 #[.val (.ref r0), .val (.int p1), .val (.ref b1), .val (.int (Int32.ofNat i)), .val (.long (own_vv f off i)), .second, .val (.int (Int32.ofNat (8 * i)))] [(.int (44 : Int32)), (.int (Int32.ofNat (8 * i % 52)))])) _
          exact k
        by_cases hc62_6 : (44 : Int32) < (Int32.ofNat (8 * i % 52))
        · refine own_go (T' := T5) (g' := (mkF m 65 #[.val (.ref r0), .val (.int p1), .val (.ref b1), .val (.int (Int32.ofNat i)), .val (.long (own_vv f off i)), .second, .val (.int (Int32.ofNat (8 * i)))] [])) (fun t k => ?_) ?_
          · refine XS.icmpNo X5.here hx rfl (hb hby d2_62) rfl (tlt hc62_6).2.2.2 ?_
            exact k
          have h52 := (own_44 hi).mp hc62_6
          refine own_go (T' := T5) (g' := (mkF m 71 #[.val (.ref r0), .val (.int p1), .val (.ref b1), .val (.int (Int32.ofNat i)), .val (.long (own_vv f off i)), .second, .val (.int (Int32.ofNat (8 * i)))] [(.int ((Int32.ofNat (8 * i)) / (52 : Int32))), (.ref b1)])) (fun t k => ?_) ?_
          · show Steps p.tables e below (T5.setTop (mkF m 65 #[.val (.ref r0), .val (.int p1), .val (.ref b1), .val (.int (Int32.ofNat i)), .val (.long (own_vv f off i)), .second, .val (.int (Int32.ofNat (8 * i)))] [])) t
            refine XS.aloadN X5.here hx rfl (hb hby d2_65) rfl rfl ?_
            show Steps p.tables e below (T5.setTop (mkF m 66 #[.val (.ref r0), .val (.int p1), .val (.ref b1), .val (.int (Int32.ofNat i)), .val (.long (own_vv f off i)), .second, .val (.int (Int32.ofNat (8 * i)))] [(.ref b1)])) _
            refine XS.iload X5.here hx rfl (hb hby d2_66) rfl ?_
            show Steps p.tables e below (T5.setTop (mkF m 68 #[.val (.ref r0), .val (.int p1), .val (.ref b1), .val (.int (Int32.ofNat i)), .val (.long (own_vv f off i)), .second, .val (.int (Int32.ofNat (8 * i)))] [(.int (Int32.ofNat (8 * i))), (.ref b1)])) _
            refine XS.bipush X5.here hx rfl (hb hby d2_68) ?_
            show Steps p.tables e below (T5.setTop (mkF m 70 #[.val (.ref r0), .val (.int p1), .val (.ref b1), .val (.int (Int32.ofNat i)), .val (.long (own_vv f off i)), .second, .val (.int (Int32.ofNat (8 * i)))] [(.int (52 : Int32)), (.int (Int32.ofNat (8 * i))), (.ref b1)])) _
            refine XS.idiv X5.here hx rfl (hb hby d2_70) rfl (by decide) ?_
            show Steps p.tables e below (T5.setTop (mkF m 71 #[.val (.ref r0), .val (.int p1), .val (.ref b1), .val (.int (Int32.ofNat i)), .val (.long (own_vv f off i)), .second, .val (.int (Int32.ofNat (8 * i)))] [(.int ((Int32.ofNat (8 * i)) / (52 : Int32))), (.ref b1)])) _
            exact k
          rw [own_q hi]
          refine own_go (T' := T5) (g' := (mkF m 73 #[.val (.ref r0), .val (.int p1), .val (.ref b1), .val (.int (Int32.ofNat i)), .val (.long (own_vv f off i)), .second, .val (.int (Int32.ofNat (8 * i)))] [(.int ((Int32.ofNat (8 * i / 52)) + (1 : Int32))), (.ref b1)])) (fun t k => ?_) ?_
          · show Steps p.tables e below (T5.setTop (mkF m 71 #[.val (.ref r0), .val (.int p1), .val (.ref b1), .val (.int (Int32.ofNat i)), .val (.long (own_vv f off i)), .second, .val (.int (Int32.ofNat (8 * i)))] [(.int (Int32.ofNat (8 * i / 52))), (.ref b1)])) t
            refine XS.iconst X5.here hx rfl (hb hby d2_71) ?_
            show Steps p.tables e below (T5.setTop (mkF m 72 #[.val (.ref r0), .val (.int p1), .val (.ref b1), .val (.int (Int32.ofNat i)), .val (.long (own_vv f off i)), .second, .val (.int (Int32.ofNat (8 * i)))] [(.int (1 : Int32)), (.int (Int32.ofNat (8 * i / 52))), (.ref b1)])) _
            refine XS.iadd X5.here hx rfl (hb hby d2_72) rfl ?_
            show Steps p.tables e below (T5.setTop (mkF m 73 #[.val (.ref r0), .val (.int p1), .val (.ref b1), .val (.int (Int32.ofNat i)), .val (.long (own_vv f off i)), .second, .val (.int (Int32.ofNat (8 * i)))] [(.int ((Int32.ofNat (8 * i / 52)) + (1 : Int32))), (.ref b1)])) _
            exact k
          rw [own_inc]
          refine own_go (T' := T5) (g' := (mkF m 84 #[.val (.ref r0), .val (.int p1), .val (.ref b1), .val (.int (Int32.ofNat i)), .val (.long (own_vv f off i)), .second, .val (.int (Int32.ofNat (8 * i)))] [(.int ((Int32.ofNat (8 * i)) % (52 : Int32))), (.int (52 : Int32)), (.long (own_vv f off i)), (.long (own_g1 (own_of f off i) i (own_vv f off i) (8 * i / 52 + 1))), (.int (Int32.ofNat (8 * i / 52 + 1))), (.ref b1)])) (fun t k => ?_) ?_
          · show Steps p.tables e below (T5.setTop (mkF m 73 #[.val (.ref r0), .val (.int p1), .val (.ref b1), .val (.int (Int32.ofNat i)), .val (.long (own_vv f off i)), .second, .val (.int (Int32.ofNat (8 * i)))] [(.int (Int32.ofNat (8 * i / 52 + 1))), (.ref b1)])) t
            refine own_dup2 X5 hx rfl (hb hby d2_73) rfl rfl rfl ?_
            show Steps p.tables e below (T5.setTop (mkF m 74 #[.val (.ref r0), .val (.int p1), .val (.ref b1), .val (.int (Int32.ofNat i)), .val (.long (own_vv f off i)), .second, .val (.int (Int32.ofNat (8 * i)))] [(.int (Int32.ofNat (8 * i / 52 + 1))), (.ref b1), (.int (Int32.ofNat (8 * i / 52 + 1))), (.ref b1)])) _
            refine own_ldJ X5 hx hZ e5 Y5 (j := (Int32.ofNat (8 * i / 52 + 1))) (own_in5 (by omega)) (v := (.long (own_g1 (own_of f off i) i (own_vv f off i) (8 * i / 52 + 1)))) (by rw [own_ci (by omega)]; exact own_tabJ_at _ (by omega) _) (g := (mkF m 74 #[.val (.ref r0), .val (.int p1), .val (.ref b1), .val (.int (Int32.ofNat i)), .val (.long (own_vv f off i)), .second, .val (.int (Int32.ofNat (8 * i)))] [(.int (Int32.ofNat (8 * i / 52 + 1))), (.ref b1), (.int (Int32.ofNat (8 * i / 52 + 1))), (.ref b1)])) rfl rfl (hb hby d2_74) _ ?_
            show Steps p.tables e below (T5.setTop (mkF m 75 #[.val (.ref r0), .val (.int p1), .val (.ref b1), .val (.int (Int32.ofNat i)), .val (.long (own_vv f off i)), .second, .val (.int (Int32.ofNat (8 * i)))] [(.long (own_g1 (own_of f off i) i (own_vv f off i) (8 * i / 52 + 1))), (.int (Int32.ofNat (8 * i / 52 + 1))), (.ref b1)])) _
            refine XS.lload X5.here hx rfl (hb hby d2_75) rfl ?_
            show Steps p.tables e below (T5.setTop (mkF m 77 #[.val (.ref r0), .val (.int p1), .val (.ref b1), .val (.int (Int32.ofNat i)), .val (.long (own_vv f off i)), .second, .val (.int (Int32.ofNat (8 * i)))] [(.long (own_vv f off i)), (.long (own_g1 (own_of f off i) i (own_vv f off i) (8 * i / 52 + 1))), (.int (Int32.ofNat (8 * i / 52 + 1))), (.ref b1)])) _
            refine XS.bipush X5.here hx rfl (hb hby d2_77) ?_
            show Steps p.tables e below (T5.setTop (mkF m 79 #[.val (.ref r0), .val (.int p1), .val (.ref b1), .val (.int (Int32.ofNat i)), .val (.long (own_vv f off i)), .second, .val (.int (Int32.ofNat (8 * i)))] [(.int (52 : Int32)), (.long (own_vv f off i)), (.long (own_g1 (own_of f off i) i (own_vv f off i) (8 * i / 52 + 1))), (.int (Int32.ofNat (8 * i / 52 + 1))), (.ref b1)])) _
            refine XS.iload X5.here hx rfl (hb hby d2_79) rfl ?_
            show Steps p.tables e below (T5.setTop (mkF m 81 #[.val (.ref r0), .val (.int p1), .val (.ref b1), .val (.int (Int32.ofNat i)), .val (.long (own_vv f off i)), .second, .val (.int (Int32.ofNat (8 * i)))] [(.int (Int32.ofNat (8 * i))), (.int (52 : Int32)), (.long (own_vv f off i)), (.long (own_g1 (own_of f off i) i (own_vv f off i) (8 * i / 52 + 1))), (.int (Int32.ofNat (8 * i / 52 + 1))), (.ref b1)])) _
            refine XS.bipush X5.here hx rfl (hb hby d2_81) ?_
            show Steps p.tables e below (T5.setTop (mkF m 83 #[.val (.ref r0), .val (.int p1), .val (.ref b1), .val (.int (Int32.ofNat i)), .val (.long (own_vv f off i)), .second, .val (.int (Int32.ofNat (8 * i)))] [(.int (52 : Int32)), (.int (Int32.ofNat (8 * i))), (.int (52 : Int32)), (.long (own_vv f off i)), (.long (own_g1 (own_of f off i) i (own_vv f off i) (8 * i / 52 + 1))), (.int (Int32.ofNat (8 * i / 52 + 1))), (.ref b1)])) _
            refine iremM X5 hx rfl (hb hby d2_83) rfl (by decide) ?_
            show Steps p.tables e below (T5.setTop (mkF m 84 #[.val (.ref r0), .val (.int p1), .val (.ref b1), .val (.int (Int32.ofNat i)), .val (.long (own_vv f off i)), .second, .val (.int (Int32.ofNat (8 * i)))] [(.int ((Int32.ofNat (8 * i)) % (52 : Int32))), (.int (52 : Int32)), (.long (own_vv f off i)), (.long (own_g1 (own_of f off i) i (own_vv f off i) (8 * i / 52 + 1))), (.int (Int32.ofNat (8 * i / 52 + 1))), (.ref b1)])) _
            exact k
          rw [own_m hi]
          refine own_go (T' := T5) (g' := (mkF m 85 #[.val (.ref r0), .val (.int p1), .val (.ref b1), .val (.int (Int32.ofNat i)), .val (.long (own_vv f off i)), .second, .val (.int (Int32.ofNat (8 * i)))] [(.int ((52 : Int32) - (Int32.ofNat (8 * i % 52)))), (.long (own_vv f off i)), (.long (own_g1 (own_of f off i) i (own_vv f off i) (8 * i / 52 + 1))), (.int (Int32.ofNat (8 * i / 52 + 1))), (.ref b1)])) (fun t k => ?_) ?_
          · show Steps p.tables e below (T5.setTop (mkF m 84 #[.val (.ref r0), .val (.int p1), .val (.ref b1), .val (.int (Int32.ofNat i)), .val (.long (own_vv f off i)), .second, .val (.int (Int32.ofNat (8 * i)))] [(.int (Int32.ofNat (8 * i % 52))), (.int (52 : Int32)), (.long (own_vv f off i)), (.long (own_g1 (own_of f off i) i (own_vv f off i) (8 * i / 52 + 1))), (.int (Int32.ofNat (8 * i / 52 + 1))), (.ref b1)])) t
            refine XS.isub X5.here hx rfl (hb hby d2_84) rfl ?_
            show Steps p.tables e below (T5.setTop (mkF m 85 #[.val (.ref r0), .val (.int p1), .val (.ref b1), .val (.int (Int32.ofNat i)), .val (.long (own_vv f off i)), .second, .val (.int (Int32.ofNat (8 * i)))] [(.int ((52 : Int32) - (Int32.ofNat (8 * i % 52)))), (.long (own_vv f off i)), (.long (own_g1 (own_of f off i) i (own_vv f off i) (8 * i / 52 + 1))), (.int (Int32.ofNat (8 * i / 52 + 1))), (.ref b1)])) _
            exact k
          rw [own_52 hi]
          refine own_go (T' := T5) (g' := (mkF m 87 #[.val (.ref r0), .val (.int p1), .val (.ref b1), .val (.int (Int32.ofNat i)), .val (.long (own_vv f off i)), .second, .val (.int (Int32.ofNat (8 * i)))] [(.long ((own_g1 (own_of f off i) i (own_vv f off i) (8 * i / 52 + 1)) ||| (((own_vv f off i).toUInt64 >>> ((Int32.ofNat (52 - 8 * i % 52)) &&& 0x3f).toInt64.toUInt64).toInt64))), (.int (Int32.ofNat (8 * i / 52 + 1))), (.ref b1)])) (fun t k => ?_) ?_
          · show Steps p.tables e below (T5.setTop (mkF m 85 #[.val (.ref r0), .val (.int p1), .val (.ref b1), .val (.int (Int32.ofNat i)), .val (.long (own_vv f off i)), .second, .val (.int (Int32.ofNat (8 * i)))] [(.int (Int32.ofNat (52 - 8 * i % 52))), (.long (own_vv f off i)), (.long (own_g1 (own_of f off i) i (own_vv f off i) (8 * i / 52 + 1))), (.int (Int32.ofNat (8 * i / 52 + 1))), (.ref b1)])) t
            refine XS.lushr X5.here hx rfl (hb hby d2_85) rfl ?_
            show Steps p.tables e below (T5.setTop (mkF m 86 #[.val (.ref r0), .val (.int p1), .val (.ref b1), .val (.int (Int32.ofNat i)), .val (.long (own_vv f off i)), .second, .val (.int (Int32.ofNat (8 * i)))] [(.long (((own_vv f off i).toUInt64 >>> ((Int32.ofNat (52 - 8 * i % 52)) &&& 0x3f).toInt64.toUInt64).toInt64)), (.long (own_g1 (own_of f off i) i (own_vv f off i) (8 * i / 52 + 1))), (.int (Int32.ofNat (8 * i / 52 + 1))), (.ref b1)])) _
            refine XS.lor X5.here hx rfl (hb hby d2_86) rfl ?_
            show Steps p.tables e below (T5.setTop (mkF m 87 #[.val (.ref r0), .val (.int p1), .val (.ref b1), .val (.int (Int32.ofNat i)), .val (.long (own_vv f off i)), .second, .val (.int (Int32.ofNat (8 * i)))] [(.long ((own_g1 (own_of f off i) i (own_vv f off i) (8 * i / 52 + 1)) ||| (((own_vv f off i).toUInt64 >>> ((Int32.ofNat (52 - 8 * i % 52)) &&& 0x3f).toInt64.toUInt64).toInt64))), (.int (Int32.ofNat (8 * i / 52 + 1))), (.ref b1)])) _
            exact k
          obtain ⟨T7, h7, L7, X7, N7, e7, W7, Y7, st7⟩ := own_stJ X5 hx hZ e5 Y5 (j := (Int32.ofNat (8 * i / 52 + 1))) (own_in5 (by omega)) (8 * i / 52 + 1) (own_ci (by omega)) (by rw [own_tabJ_len]; omega) N5 ga_b1 (g := (mkF m 87 #[.val (.ref r0), .val (.int p1), .val (.ref b1), .val (.int (Int32.ofNat i)), .val (.long (own_vv f off i)), .second, .val (.int (Int32.ofNat (8 * i)))] [(.long ((own_g1 (own_of f off i) i (own_vv f off i) (8 * i / 52 + 1)) ||| (((own_vv f off i).toUInt64 >>> ((Int32.ofNat (52 - 8 * i % 52)) &&& 0x3f).toInt64.toUInt64).toInt64))), (.int (Int32.ofNat (8 * i / 52 + 1))), (.ref b1)])) rfl rfl (hb hby d2_87)
          rw [own_tabJ_set] at Y7
          have K7 := K5.wr W7 (Or.inr hx_b1)
          have B7 := B5.other W7 (Nat.ne_of_lt lt_r0_b1)
          refine own_go (T' := T7) (g' := (mkF m 88 #[.val (.ref r0), .val (.int p1), .val (.ref b1), .val (.int (Int32.ofNat i)), .val (.long (own_vv f off i)), .second, .val (.int (Int32.ofNat (8 * i)))] [])) st7 ?_
          refine own_go (T' := T7) (g' := (mkF m 6 #[.val (.ref r0), .val (.int p1), .val (.ref b1), .val (.int ((Int32.ofNat i) + (1 : Int32))), .val (.long (own_vv f off i)), .second, .val (.int (Int32.ofNat (8 * i)))] [])) (fun t k => ?_) ?_
          · show Steps p.tables e below (T7.setTop (mkF m 88 #[.val (.ref r0), .val (.int p1), .val (.ref b1), .val (.int (Int32.ofNat i)), .val (.long (own_vv f off i)), .second, .val (.int (Int32.ofNat (8 * i)))] [])) t
            refine XS.iinc X7.here hx rfl (hb hby d2_88) rfl (l' := #[.val (.ref r0), .val (.int p1), .val (.ref b1), .val (.int ((Int32.ofNat i) + (1 : Int32))), .val (.long (own_vv f off i)), .second, .val (.int (Int32.ofNat (8 * i)))]) rfl ?_
            show Steps p.tables e below (T7.setTop (mkF m 91 #[.val (.ref r0), .val (.int p1), .val (.ref b1), .val (.int ((Int32.ofNat i) + (1 : Int32))), .val (.long (own_vv f off i)), .second, .val (.int (Int32.ofNat (8 * i)))] [])) _
            refine XS.goto X7.here hx rfl (pc0 := 91) (pc' := 6) rfl (hb hby d2_91) (by decide) (by decide) ?_
            show Steps p.tables e below (T7.setTop (mkF m 6 #[.val (.ref r0), .val (.int p1), .val (.ref b1), .val (.int ((Int32.ofNat i) + (1 : Int32))), .val (.long (own_vv f off i)), .second, .val (.int (Int32.ofNat (8 * i)))] [])) _
            exact k
          have V9 : Arv Z h7 b1 k1 .long (5 : Int32) (own_tabJ (own_of f off (i + 1))) (.long 0) := by
            show Arv _ _ _ _ _ _ (own_tabJ (if 8 * i % 52 ≤ 44 then _ else _)) _
            rw [if_neg h52]; exact Y7
          rw [own_inc]
          exact ih (i + 1) (by omega) _ _ _ (Or.inr ⟨_, _, rfl, rfl, rfl⟩) T7 _ _ X7 e7 N7 K7 B7 V9
        · refine own_go (T' := T5) (g' := (mkF m 88 #[.val (.ref r0), .val (.int p1), .val (.ref b1), .val (.int (Int32.ofNat i)), .val (.long (own_vv f off i)), .second, .val (.int (Int32.ofNat (8 * i)))] [])) (fun t k => ?_) ?_
          · refine XS.icmpYes X5.here hx rfl (pc0 := 62) (pc' := 88) rfl (hb hby d2_62) rfl (flt hc62_6).2.2.2 (by decide) (by decide) ?_
            exact k
          have h52 : 8 * i % 52 ≤ 44 := by have := mt (own_44 hi).mpr hc62_6; omega
          refine own_go (T' := T5) (g' := (mkF m 6 #[.val (.ref r0), .val (.int p1), .val (.ref b1), .val (.int ((Int32.ofNat i) + (1 : Int32))), .val (.long (own_vv f off i)), .second, .val (.int (Int32.ofNat (8 * i)))] [])) (fun t k => ?_) ?_
          · show Steps p.tables e below (T5.setTop (mkF m 88 #[.val (.ref r0), .val (.int p1), .val (.ref b1), .val (.int (Int32.ofNat i)), .val (.long (own_vv f off i)), .second, .val (.int (Int32.ofNat (8 * i)))] [])) t
            refine XS.iinc X5.here hx rfl (hb hby d2_88) rfl (l' := #[.val (.ref r0), .val (.int p1), .val (.ref b1), .val (.int ((Int32.ofNat i) + (1 : Int32))), .val (.long (own_vv f off i)), .second, .val (.int (Int32.ofNat (8 * i)))]) rfl ?_
            show Steps p.tables e below (T5.setTop (mkF m 91 #[.val (.ref r0), .val (.int p1), .val (.ref b1), .val (.int ((Int32.ofNat i) + (1 : Int32))), .val (.long (own_vv f off i)), .second, .val (.int (Int32.ofNat (8 * i)))] [])) _
            refine XS.goto X5.here hx rfl (pc0 := 91) (pc' := 6) rfl (hb hby d2_91) (by decide) (by decide) ?_
            show Steps p.tables e below (T5.setTop (mkF m 6 #[.val (.ref r0), .val (.int p1), .val (.ref b1), .val (.int ((Int32.ofNat i) + (1 : Int32))), .val (.long (own_vv f off i)), .second, .val (.int (Int32.ofNat (8 * i)))] [])) _
            exact k
          have V9 : Arv Z h5 b1 k1 .long (5 : Int32) (own_tabJ (own_of f off (i + 1))) (.long 0) := by
            show Arv _ _ _ _ _ _ (own_tabJ (if 8 * i % 52 ≤ 44 then _ else _)) _
            rw [if_pos h52]; exact Y5
          rw [own_inc]
          exact ih (i + 1) (by omega) _ _ _ (Or.inr ⟨_, _, rfl, rfl, rfl⟩) T5 _ _ X5 e5 N5 K5 B5 V9
  exact loop 32 0 rfl _ _ _ (Or.inl ⟨rfl, rfl, rfl⟩) T1 _ _ X1 e1 N0 K1 V_r0_1 V2
theorem own_o (p4 ov : Int32) (h : ov = (p4 &&& (7 : Int32))) : ∃ n : Nat, ov = Int32.ofNat n ∧ n ≤ 7 := by
  have m := c_mask p4 7 3 (by decide) (by decide)
  simp only [Nat.reducePow, Int.cast_ofNat_Int] at m
  rw [← h] at m
  refine ⟨ov.toInt.toNat, ?_, by omega⟩
  apply Int32.toInt_inj.mp
  rw [own_ti (by omega)]
  omega
theorem own_put_out {g : Nat → Int32} {a x : Nat} {v : Int64} (h : x < a ∨ a + 8 ≤ x) : own_put g a v x = g x := by
  unfold own_put own_upd
  rw [if_neg (by omega), if_neg (by omega), if_neg (by omega), if_neg (by omega), if_neg (by omega), if_neg (by omega), if_neg (by omega), if_neg (by omega)]
theorem own_put_0 {g : Nat → Int32} {a x : Nat} {v : Int64} (h : x = a + 0) : own_put g a v x = own_by v 56 := by
  unfold own_put own_upd
  rw [if_neg (by omega), if_neg (by omega), if_neg (by omega), if_neg (by omega), if_neg (by omega), if_neg (by omega), if_neg (by omega), if_pos (by omega)]
theorem own_put_1 {g : Nat → Int32} {a x : Nat} {v : Int64} (h : x = a + 1) : own_put g a v x = own_by v 48 := by
  unfold own_put own_upd
  rw [if_neg (by omega), if_neg (by omega), if_neg (by omega), if_neg (by omega), if_neg (by omega), if_neg (by omega), if_pos (by omega)]
theorem own_put_2 {g : Nat → Int32} {a x : Nat} {v : Int64} (h : x = a + 2) : own_put g a v x = own_by v 40 := by
  unfold own_put own_upd
  rw [if_neg (by omega), if_neg (by omega), if_neg (by omega), if_neg (by omega), if_neg (by omega), if_pos (by omega)]
theorem own_put_3 {g : Nat → Int32} {a x : Nat} {v : Int64} (h : x = a + 3) : own_put g a v x = own_by v 32 := by
  unfold own_put own_upd
  rw [if_neg (by omega), if_neg (by omega), if_neg (by omega), if_neg (by omega), if_pos (by omega)]
theorem own_put_4 {g : Nat → Int32} {a x : Nat} {v : Int64} (h : x = a + 4) : own_put g a v x = own_by v 24 := by
  unfold own_put own_upd
  rw [if_neg (by omega), if_neg (by omega), if_neg (by omega), if_pos (by omega)]
theorem own_put_5 {g : Nat → Int32} {a x : Nat} {v : Int64} (h : x = a + 5) : own_put g a v x = own_by v 16 := by
  unfold own_put own_upd
  rw [if_neg (by omega), if_neg (by omega), if_pos (by omega)]
theorem own_put_6 {g : Nat → Int32} {a x : Nat} {v : Int64} (h : x = a + 6) : own_put g a v x = own_by v 8 := by
  unfold own_put own_upd
  rw [if_neg (by omega), if_pos (by omega)]
theorem own_put_7 {g : Nat → Int32} {a x : Nat} {v : Int64} (h : x = a + 7) : own_put g a v x = own_by0 v := by
  unfold own_put own_upd
  rw [if_pos (by omega)]
theorem own_b8 (y : Int64) : (((y.toInt32).toInt8.toInt32).toInt64 &&& (255 : Int64)).toInt = y.toInt % 256 := by
  have a := c_l2i y
  obtain ⟨b, -, -⟩ := c_i2b y.toInt32
  have c := c_i2l ((y.toInt32).toInt8.toInt32)
  have m := c_maskL ((y.toInt32).toInt8.toInt32).toInt64 255 8 (by decide) (by decide)
  simp only [Nat.reducePow, Int.cast_ofNat_Int] at m
  rw [m, c]
  omega
theorem own_bv0 (v : Int64) : ((own_by0 v).toInt64 &&& (255 : Int64)).toInt = (v.toInt % 18446744073709551616) % 256 := by
  unfold own_by0
  rw [own_b8]
  omega
theorem own_bv1 (v : Int64) : ((own_by v 8).toInt64 &&& (255 : Int64)).toInt = (v.toInt % 18446744073709551616) / 256 % 256 := by
  have s := c_lushr v 8 8 (by decide) (by decide)
  simp only [Nat.reducePow, Int.cast_ofNat_Int] at s
  unfold own_by
  rw [own_b8, s]
theorem own_bv2 (v : Int64) : ((own_by v 16).toInt64 &&& (255 : Int64)).toInt = (v.toInt % 18446744073709551616) / 65536 % 256 := by
  have s := c_lushr v 16 16 (by decide) (by decide)
  simp only [Nat.reducePow, Int.cast_ofNat_Int] at s
  unfold own_by
  rw [own_b8, s]
theorem own_bv3 (v : Int64) : ((own_by v 24).toInt64 &&& (255 : Int64)).toInt = (v.toInt % 18446744073709551616) / 16777216 % 256 := by
  have s := c_lushr v 24 24 (by decide) (by decide)
  simp only [Nat.reducePow, Int.cast_ofNat_Int] at s
  unfold own_by
  rw [own_b8, s]
theorem own_bv4 (v : Int64) : ((own_by v 32).toInt64 &&& (255 : Int64)).toInt = (v.toInt % 18446744073709551616) / 4294967296 % 256 := by
  have s := c_lushr v 32 32 (by decide) (by decide)
  simp only [Nat.reducePow, Int.cast_ofNat_Int] at s
  unfold own_by
  rw [own_b8, s]
theorem own_bv5 (v : Int64) : ((own_by v 40).toInt64 &&& (255 : Int64)).toInt = (v.toInt % 18446744073709551616) / 1099511627776 % 256 := by
  have s := c_lushr v 40 40 (by decide) (by decide)
  simp only [Nat.reducePow, Int.cast_ofNat_Int] at s
  unfold own_by
  rw [own_b8, s]
theorem own_bv6 (v : Int64) : ((own_by v 48).toInt64 &&& (255 : Int64)).toInt = (v.toInt % 18446744073709551616) / 281474976710656 % 256 := by
  have s := c_lushr v 48 48 (by decide) (by decide)
  simp only [Nat.reducePow, Int.cast_ofNat_Int] at s
  unfold own_by
  rw [own_b8, s]
theorem own_bv7 (v : Int64) : ((own_by v 56).toInt64 &&& (255 : Int64)).toInt = (v.toInt % 18446744073709551616) / 72057594037927936 % 256 := by
  have s := c_lushr v 56 56 (by decide) (by decide)
  simp only [Nat.reducePow, Int.cast_ofNat_Int] at s
  unfold own_by
  rw [own_b8, s]
theorem own_or0 (a v : Int64) (h0 : 0 ≤ a.toInt) (h1 : a.toInt < 1) (h2 : 0 ≤ v.toInt) (h3 : v.toInt < 256) : (a ||| ((v <<< ((0 : Int32) &&& 0x3f).toInt64) &&& (4503599627370495 : Int64))).toInt = a.toInt + v.toInt * 1 := by
  have s := c_lshl v 0 0 (by decide)
  simp only [Nat.reducePow, Int.cast_ofNat_Int] at s
  have rs := rng64 (v <<< ((0 : Int32) &&& 0x3f).toInt64)
  have m := c_maskL (v <<< ((0 : Int32) &&& 0x3f).toInt64) 4503599627370495 52 (by decide) (by decide)
  simp only [Nat.reducePow, Int.cast_ofNat_Int] at m
  have q := c_orL' a ((v <<< ((0 : Int32) &&& 0x3f).toInt64) &&& (4503599627370495 : Int64)) 0 (by decide) 1 (by decide) (by rw [m]; omega) h0 (by omega)
  have ro := rng64 (a ||| ((v <<< ((0 : Int32) &&& 0x3f).toInt64) &&& (4503599627370495 : Int64)))
  rw [m] at q
  omega
theorem own_or8 (a v : Int64) (h0 : 0 ≤ a.toInt) (h1 : a.toInt < 256) (h2 : 0 ≤ v.toInt) (h3 : v.toInt < 256) : (a ||| ((v <<< ((8 : Int32) &&& 0x3f).toInt64) &&& (4503599627370495 : Int64))).toInt = a.toInt + v.toInt * 256 := by
  have s := c_lshl v 8 8 (by decide)
  simp only [Nat.reducePow, Int.cast_ofNat_Int] at s
  have rs := rng64 (v <<< ((8 : Int32) &&& 0x3f).toInt64)
  have m := c_maskL (v <<< ((8 : Int32) &&& 0x3f).toInt64) 4503599627370495 52 (by decide) (by decide)
  simp only [Nat.reducePow, Int.cast_ofNat_Int] at m
  have q := c_orL' a ((v <<< ((8 : Int32) &&& 0x3f).toInt64) &&& (4503599627370495 : Int64)) 8 (by decide) 256 (by decide) (by rw [m]; omega) h0 (by omega)
  have ro := rng64 (a ||| ((v <<< ((8 : Int32) &&& 0x3f).toInt64) &&& (4503599627370495 : Int64)))
  rw [m] at q
  omega
theorem own_or16 (a v : Int64) (h0 : 0 ≤ a.toInt) (h1 : a.toInt < 65536) (h2 : 0 ≤ v.toInt) (h3 : v.toInt < 256) : (a ||| ((v <<< ((16 : Int32) &&& 0x3f).toInt64) &&& (4503599627370495 : Int64))).toInt = a.toInt + v.toInt * 65536 := by
  have s := c_lshl v 16 16 (by decide)
  simp only [Nat.reducePow, Int.cast_ofNat_Int] at s
  have rs := rng64 (v <<< ((16 : Int32) &&& 0x3f).toInt64)
  have m := c_maskL (v <<< ((16 : Int32) &&& 0x3f).toInt64) 4503599627370495 52 (by decide) (by decide)
  simp only [Nat.reducePow, Int.cast_ofNat_Int] at m
  have q := c_orL' a ((v <<< ((16 : Int32) &&& 0x3f).toInt64) &&& (4503599627370495 : Int64)) 16 (by decide) 65536 (by decide) (by rw [m]; omega) h0 (by omega)
  have ro := rng64 (a ||| ((v <<< ((16 : Int32) &&& 0x3f).toInt64) &&& (4503599627370495 : Int64)))
  rw [m] at q
  omega
theorem own_or24 (a v : Int64) (h0 : 0 ≤ a.toInt) (h1 : a.toInt < 16777216) (h2 : 0 ≤ v.toInt) (h3 : v.toInt < 256) : (a ||| ((v <<< ((24 : Int32) &&& 0x3f).toInt64) &&& (4503599627370495 : Int64))).toInt = a.toInt + v.toInt * 16777216 := by
  have s := c_lshl v 24 24 (by decide)
  simp only [Nat.reducePow, Int.cast_ofNat_Int] at s
  have rs := rng64 (v <<< ((24 : Int32) &&& 0x3f).toInt64)
  have m := c_maskL (v <<< ((24 : Int32) &&& 0x3f).toInt64) 4503599627370495 52 (by decide) (by decide)
  simp only [Nat.reducePow, Int.cast_ofNat_Int] at m
  have q := c_orL' a ((v <<< ((24 : Int32) &&& 0x3f).toInt64) &&& (4503599627370495 : Int64)) 24 (by decide) 16777216 (by decide) (by rw [m]; omega) h0 (by omega)
  have ro := rng64 (a ||| ((v <<< ((24 : Int32) &&& 0x3f).toInt64) &&& (4503599627370495 : Int64)))
  rw [m] at q
  omega
theorem own_or32 (a v : Int64) (h0 : 0 ≤ a.toInt) (h1 : a.toInt < 4294967296) (h2 : 0 ≤ v.toInt) (h3 : v.toInt < 256) : (a ||| ((v <<< ((32 : Int32) &&& 0x3f).toInt64) &&& (4503599627370495 : Int64))).toInt = a.toInt + v.toInt * 4294967296 := by
  have s := c_lshl v 32 32 (by decide)
  simp only [Nat.reducePow, Int.cast_ofNat_Int] at s
  have rs := rng64 (v <<< ((32 : Int32) &&& 0x3f).toInt64)
  have m := c_maskL (v <<< ((32 : Int32) &&& 0x3f).toInt64) 4503599627370495 52 (by decide) (by decide)
  simp only [Nat.reducePow, Int.cast_ofNat_Int] at m
  have q := c_orL' a ((v <<< ((32 : Int32) &&& 0x3f).toInt64) &&& (4503599627370495 : Int64)) 32 (by decide) 4294967296 (by decide) (by rw [m]; omega) h0 (by omega)
  have ro := rng64 (a ||| ((v <<< ((32 : Int32) &&& 0x3f).toInt64) &&& (4503599627370495 : Int64)))
  rw [m] at q
  omega
theorem own_or40 (a v : Int64) (h0 : 0 ≤ a.toInt) (h1 : a.toInt < 1099511627776) (h2 : 0 ≤ v.toInt) (h3 : v.toInt < 256) : (a ||| ((v <<< ((40 : Int32) &&& 0x3f).toInt64) &&& (4503599627370495 : Int64))).toInt = a.toInt + v.toInt * 1099511627776 := by
  have s := c_lshl v 40 40 (by decide)
  simp only [Nat.reducePow, Int.cast_ofNat_Int] at s
  have rs := rng64 (v <<< ((40 : Int32) &&& 0x3f).toInt64)
  have m := c_maskL (v <<< ((40 : Int32) &&& 0x3f).toInt64) 4503599627370495 52 (by decide) (by decide)
  simp only [Nat.reducePow, Int.cast_ofNat_Int] at m
  have q := c_orL' a ((v <<< ((40 : Int32) &&& 0x3f).toInt64) &&& (4503599627370495 : Int64)) 40 (by decide) 1099511627776 (by decide) (by rw [m]; omega) h0 (by omega)
  have ro := rng64 (a ||| ((v <<< ((40 : Int32) &&& 0x3f).toInt64) &&& (4503599627370495 : Int64)))
  rw [m] at q
  omega
theorem own_or4 (a v : Int64) (h0 : 0 ≤ a.toInt) (h1 : a.toInt < 16) (h2 : 0 ≤ v.toInt) (h3 : v.toInt < 256) : (a ||| ((v <<< ((4 : Int32) &&& 0x3f).toInt64) &&& (4503599627370495 : Int64))).toInt = a.toInt + v.toInt * 16 := by
  have s := c_lshl v 4 4 (by decide)
  simp only [Nat.reducePow, Int.cast_ofNat_Int] at s
  have rs := rng64 (v <<< ((4 : Int32) &&& 0x3f).toInt64)
  have m := c_maskL (v <<< ((4 : Int32) &&& 0x3f).toInt64) 4503599627370495 52 (by decide) (by decide)
  simp only [Nat.reducePow, Int.cast_ofNat_Int] at m
  have q := c_orL' a ((v <<< ((4 : Int32) &&& 0x3f).toInt64) &&& (4503599627370495 : Int64)) 4 (by decide) 16 (by decide) (by rw [m]; omega) h0 (by omega)
  have ro := rng64 (a ||| ((v <<< ((4 : Int32) &&& 0x3f).toInt64) &&& (4503599627370495 : Int64)))
  rw [m] at q
  omega
theorem own_or12 (a v : Int64) (h0 : 0 ≤ a.toInt) (h1 : a.toInt < 4096) (h2 : 0 ≤ v.toInt) (h3 : v.toInt < 256) : (a ||| ((v <<< ((12 : Int32) &&& 0x3f).toInt64) &&& (4503599627370495 : Int64))).toInt = a.toInt + v.toInt * 4096 := by
  have s := c_lshl v 12 12 (by decide)
  simp only [Nat.reducePow, Int.cast_ofNat_Int] at s
  have rs := rng64 (v <<< ((12 : Int32) &&& 0x3f).toInt64)
  have m := c_maskL (v <<< ((12 : Int32) &&& 0x3f).toInt64) 4503599627370495 52 (by decide) (by decide)
  simp only [Nat.reducePow, Int.cast_ofNat_Int] at m
  have q := c_orL' a ((v <<< ((12 : Int32) &&& 0x3f).toInt64) &&& (4503599627370495 : Int64)) 12 (by decide) 4096 (by decide) (by rw [m]; omega) h0 (by omega)
  have ro := rng64 (a ||| ((v <<< ((12 : Int32) &&& 0x3f).toInt64) &&& (4503599627370495 : Int64)))
  rw [m] at q
  omega
theorem own_or20 (a v : Int64) (h0 : 0 ≤ a.toInt) (h1 : a.toInt < 1048576) (h2 : 0 ≤ v.toInt) (h3 : v.toInt < 256) : (a ||| ((v <<< ((20 : Int32) &&& 0x3f).toInt64) &&& (4503599627370495 : Int64))).toInt = a.toInt + v.toInt * 1048576 := by
  have s := c_lshl v 20 20 (by decide)
  simp only [Nat.reducePow, Int.cast_ofNat_Int] at s
  have rs := rng64 (v <<< ((20 : Int32) &&& 0x3f).toInt64)
  have m := c_maskL (v <<< ((20 : Int32) &&& 0x3f).toInt64) 4503599627370495 52 (by decide) (by decide)
  simp only [Nat.reducePow, Int.cast_ofNat_Int] at m
  have q := c_orL' a ((v <<< ((20 : Int32) &&& 0x3f).toInt64) &&& (4503599627370495 : Int64)) 20 (by decide) 1048576 (by decide) (by rw [m]; omega) h0 (by omega)
  have ro := rng64 (a ||| ((v <<< ((20 : Int32) &&& 0x3f).toInt64) &&& (4503599627370495 : Int64)))
  rw [m] at q
  omega
theorem own_or28 (a v : Int64) (h0 : 0 ≤ a.toInt) (h1 : a.toInt < 268435456) (h2 : 0 ≤ v.toInt) (h3 : v.toInt < 256) : (a ||| ((v <<< ((28 : Int32) &&& 0x3f).toInt64) &&& (4503599627370495 : Int64))).toInt = a.toInt + v.toInt * 268435456 := by
  have s := c_lshl v 28 28 (by decide)
  simp only [Nat.reducePow, Int.cast_ofNat_Int] at s
  have rs := rng64 (v <<< ((28 : Int32) &&& 0x3f).toInt64)
  have m := c_maskL (v <<< ((28 : Int32) &&& 0x3f).toInt64) 4503599627370495 52 (by decide) (by decide)
  simp only [Nat.reducePow, Int.cast_ofNat_Int] at m
  have q := c_orL' a ((v <<< ((28 : Int32) &&& 0x3f).toInt64) &&& (4503599627370495 : Int64)) 28 (by decide) 268435456 (by decide) (by rw [m]; omega) h0 (by omega)
  have ro := rng64 (a ||| ((v <<< ((28 : Int32) &&& 0x3f).toInt64) &&& (4503599627370495 : Int64)))
  rw [m] at q
  omega
theorem own_or36 (a v : Int64) (h0 : 0 ≤ a.toInt) (h1 : a.toInt < 68719476736) (h2 : 0 ≤ v.toInt) (h3 : v.toInt < 256) : (a ||| ((v <<< ((36 : Int32) &&& 0x3f).toInt64) &&& (4503599627370495 : Int64))).toInt = a.toInt + v.toInt * 68719476736 := by
  have s := c_lshl v 36 36 (by decide)
  simp only [Nat.reducePow, Int.cast_ofNat_Int] at s
  have rs := rng64 (v <<< ((36 : Int32) &&& 0x3f).toInt64)
  have m := c_maskL (v <<< ((36 : Int32) &&& 0x3f).toInt64) 4503599627370495 52 (by decide) (by decide)
  simp only [Nat.reducePow, Int.cast_ofNat_Int] at m
  have q := c_orL' a ((v <<< ((36 : Int32) &&& 0x3f).toInt64) &&& (4503599627370495 : Int64)) 36 (by decide) 68719476736 (by decide) (by rw [m]; omega) h0 (by omega)
  have ro := rng64 (a ||| ((v <<< ((36 : Int32) &&& 0x3f).toInt64) &&& (4503599627370495 : Int64)))
  rw [m] at q
  omega
theorem own_or44 (a v : Int64) (h0 : 0 ≤ a.toInt) (h1 : a.toInt < 17592186044416) (h2 : 0 ≤ v.toInt) (h3 : v.toInt < 256) : (a ||| ((v <<< ((44 : Int32) &&& 0x3f).toInt64) &&& (4503599627370495 : Int64))).toInt = a.toInt + v.toInt * 17592186044416 := by
  have s := c_lshl v 44 44 (by decide)
  simp only [Nat.reducePow, Int.cast_ofNat_Int] at s
  have rs := rng64 (v <<< ((44 : Int32) &&& 0x3f).toInt64)
  have m := c_maskL (v <<< ((44 : Int32) &&& 0x3f).toInt64) 4503599627370495 52 (by decide) (by decide)
  simp only [Nat.reducePow, Int.cast_ofNat_Int] at m
  have q := c_orL' a ((v <<< ((44 : Int32) &&& 0x3f).toInt64) &&& (4503599627370495 : Int64)) 44 (by decide) 17592186044416 (by decide) (by rw [m]; omega) h0 (by omega)
  have ro := rng64 (a ||| ((v <<< ((44 : Int32) &&& 0x3f).toInt64) &&& (4503599627370495 : Int64)))
  rw [m] at q
  omega
theorem own_or48 (a v : Int64) (h0 : 0 ≤ a.toInt) (h1 : a.toInt < 281474976710656) (h2 : 0 ≤ v.toInt) (h3 : v.toInt < 256) : (a ||| ((v <<< ((48 : Int32) &&& 0x3f).toInt64) &&& (4503599627370495 : Int64))).toInt = a.toInt + (v.toInt % 16) * 281474976710656 := by
  have s := c_lshl v 48 48 (by decide)
  simp only [Nat.reducePow, Int.cast_ofNat_Int] at s
  have rs := rng64 (v <<< ((48 : Int32) &&& 0x3f).toInt64)
  have m := c_maskL (v <<< ((48 : Int32) &&& 0x3f).toInt64) 4503599627370495 52 (by decide) (by decide)
  simp only [Nat.reducePow, Int.cast_ofNat_Int] at m
  have q := c_orL' a ((v <<< ((48 : Int32) &&& 0x3f).toInt64) &&& (4503599627370495 : Int64)) 48 (by decide) 281474976710656 (by decide) (by rw [m]; omega) h0 (by omega)
  have ro := rng64 (a ||| ((v <<< ((48 : Int32) &&& 0x3f).toInt64) &&& (4503599627370495 : Int64)))
  rw [m] at q
  omega
theorem own_car (v : Int64) (h2 : 0 ≤ v.toInt) (h3 : v.toInt < 256) : ((0 : Int64) ||| ((v.toUInt64 >>> ((4 : Int32) &&& 0x3f).toInt64.toUInt64).toInt64)).toInt = v.toInt / 16 := by
  have s := c_lushr v 4 4 (by decide) (by decide)
  simp only [Nat.reducePow, Int.cast_ofNat_Int] at s
  rw [Int64.zero_or, s]
  omega
theorem own_sum (v : Int64) : v.toInt % 18446744073709551616 = (v.toInt % 18446744073709551616) % 256 + ((v.toInt % 18446744073709551616) / 256 % 256) * 256 + ((v.toInt % 18446744073709551616) / 65536 % 256) * 65536 + ((v.toInt % 18446744073709551616) / 16777216 % 256) * 16777216 + ((v.toInt % 18446744073709551616) / 4294967296 % 256) * 4294967296 + ((v.toInt % 18446744073709551616) / 1099511627776 % 256) * 1099511627776 + ((v.toInt % 18446744073709551616) / 281474976710656 % 256) * 281474976710656 + ((v.toInt % 18446744073709551616) / 72057594037927936 % 256) * 72057594037927936 := by
  omega
theorem own_rs1 (x y : Int64) : (((x.toUInt64 >>> ((52 : Int32) &&& 0x3f).toInt64.toUInt64).toInt64) ||| ((y <<< ((12 : Int32) &&& 0x3f).toInt64) &&& (4503599627370495 : Int64))).toInt = (x.toInt % 18446744073709551616) / 4503599627370496 + (y.toInt * 4096) % 4503599627370496 := by
  have a := c_lushr x 52 52 (by decide) (by decide)
  have s := c_lshl y 12 12 (by decide)
  simp only [Nat.reducePow, Int.cast_ofNat_Int] at a s
  have rs := rng64 (y <<< ((12 : Int32) &&& 0x3f).toInt64)
  have m := c_maskL (y <<< ((12 : Int32) &&& 0x3f).toInt64) 4503599627370495 52 (by decide) (by decide)
  simp only [Nat.reducePow, Int.cast_ofNat_Int] at m
  have q := c_orL' ((x.toUInt64 >>> ((52 : Int32) &&& 0x3f).toInt64.toUInt64).toInt64) ((y <<< ((12 : Int32) &&& 0x3f).toInt64) &&& (4503599627370495 : Int64)) 12 (by decide) 4096 (by decide) (by rw [m]; omega) (by rw [a]; omega) (by rw [a]; omega)
  have ro := rng64 (((x.toUInt64 >>> ((52 : Int32) &&& 0x3f).toInt64.toUInt64).toInt64) ||| ((y <<< ((12 : Int32) &&& 0x3f).toInt64) &&& (4503599627370495 : Int64)))
  rw [m, a] at q
  omega
theorem own_rs2 (x y : Int64) : (((x.toUInt64 >>> ((40 : Int32) &&& 0x3f).toInt64.toUInt64).toInt64) ||| ((y <<< ((24 : Int32) &&& 0x3f).toInt64) &&& (4503599627370495 : Int64))).toInt = (x.toInt % 18446744073709551616) / 1099511627776 + (y.toInt * 16777216) % 4503599627370496 := by
  have a := c_lushr x 40 40 (by decide) (by decide)
  have s := c_lshl y 24 24 (by decide)
  simp only [Nat.reducePow, Int.cast_ofNat_Int] at a s
  have rs := rng64 (y <<< ((24 : Int32) &&& 0x3f).toInt64)
  have m := c_maskL (y <<< ((24 : Int32) &&& 0x3f).toInt64) 4503599627370495 52 (by decide) (by decide)
  simp only [Nat.reducePow, Int.cast_ofNat_Int] at m
  have q := c_orL' ((x.toUInt64 >>> ((40 : Int32) &&& 0x3f).toInt64.toUInt64).toInt64) ((y <<< ((24 : Int32) &&& 0x3f).toInt64) &&& (4503599627370495 : Int64)) 24 (by decide) 16777216 (by decide) (by rw [m]; omega) (by rw [a]; omega) (by rw [a]; omega)
  have ro := rng64 (((x.toUInt64 >>> ((40 : Int32) &&& 0x3f).toInt64.toUInt64).toInt64) ||| ((y <<< ((24 : Int32) &&& 0x3f).toInt64) &&& (4503599627370495 : Int64)))
  rw [m, a] at q
  omega
theorem own_rs3 (x y : Int64) : (((x.toUInt64 >>> ((28 : Int32) &&& 0x3f).toInt64.toUInt64).toInt64) ||| ((y <<< ((36 : Int32) &&& 0x3f).toInt64) &&& (4503599627370495 : Int64))).toInt = (x.toInt % 18446744073709551616) / 268435456 + (y.toInt * 68719476736) % 4503599627370496 := by
  have a := c_lushr x 28 28 (by decide) (by decide)
  have s := c_lshl y 36 36 (by decide)
  simp only [Nat.reducePow, Int.cast_ofNat_Int] at a s
  have rs := rng64 (y <<< ((36 : Int32) &&& 0x3f).toInt64)
  have m := c_maskL (y <<< ((36 : Int32) &&& 0x3f).toInt64) 4503599627370495 52 (by decide) (by decide)
  simp only [Nat.reducePow, Int.cast_ofNat_Int] at m
  have q := c_orL' ((x.toUInt64 >>> ((28 : Int32) &&& 0x3f).toInt64.toUInt64).toInt64) ((y <<< ((36 : Int32) &&& 0x3f).toInt64) &&& (4503599627370495 : Int64)) 36 (by decide) 68719476736 (by decide) (by rw [m]; omega) (by rw [a]; omega) (by rw [a]; omega)
  have ro := rng64 (((x.toUInt64 >>> ((28 : Int32) &&& 0x3f).toInt64.toUInt64).toInt64) ||| ((y <<< ((36 : Int32) &&& 0x3f).toInt64) &&& (4503599627370495 : Int64)))
  rw [m, a] at q
  omega
set_option maxRecDepth 65536 in
theorem own_c0 (f : Nat → Int32) (off : Nat) : own_of f off 32 0 = ((((((((0 : Int64) ||| (((own_vv f off 0) <<< ((0 : Int32) &&& 0x3f).toInt64) &&& (4503599627370495 : Int64))) ||| (((own_vv f off 1) <<< ((8 : Int32) &&& 0x3f).toInt64) &&& (4503599627370495 : Int64))) ||| (((own_vv f off 2) <<< ((16 : Int32) &&& 0x3f).toInt64) &&& (4503599627370495 : Int64))) ||| (((own_vv f off 3) <<< ((24 : Int32) &&& 0x3f).toInt64) &&& (4503599627370495 : Int64))) ||| (((own_vv f off 4) <<< ((32 : Int32) &&& 0x3f).toInt64) &&& (4503599627370495 : Int64))) ||| (((own_vv f off 5) <<< ((40 : Int32) &&& 0x3f).toInt64) &&& (4503599627370495 : Int64))) ||| (((own_vv f off 6) <<< ((48 : Int32) &&& 0x3f).toInt64) &&& (4503599627370495 : Int64))) := rfl
set_option maxRecDepth 65536 in
theorem own_c1 (f : Nat → Int32) (off : Nat) : own_of f off 32 1 = ((((((((0 : Int64) ||| ((((own_vv f off 6)).toUInt64 >>> ((4 : Int32) &&& 0x3f).toInt64.toUInt64).toInt64)) ||| (((own_vv f off 7) <<< ((4 : Int32) &&& 0x3f).toInt64) &&& (4503599627370495 : Int64))) ||| (((own_vv f off 8) <<< ((12 : Int32) &&& 0x3f).toInt64) &&& (4503599627370495 : Int64))) ||| (((own_vv f off 9) <<< ((20 : Int32) &&& 0x3f).toInt64) &&& (4503599627370495 : Int64))) ||| (((own_vv f off 10) <<< ((28 : Int32) &&& 0x3f).toInt64) &&& (4503599627370495 : Int64))) ||| (((own_vv f off 11) <<< ((36 : Int32) &&& 0x3f).toInt64) &&& (4503599627370495 : Int64))) ||| (((own_vv f off 12) <<< ((44 : Int32) &&& 0x3f).toInt64) &&& (4503599627370495 : Int64))) := rfl
set_option maxRecDepth 65536 in
theorem own_c2 (f : Nat → Int32) (off : Nat) : own_of f off 32 2 = ((((((((0 : Int64) ||| (((own_vv f off 13) <<< ((0 : Int32) &&& 0x3f).toInt64) &&& (4503599627370495 : Int64))) ||| (((own_vv f off 14) <<< ((8 : Int32) &&& 0x3f).toInt64) &&& (4503599627370495 : Int64))) ||| (((own_vv f off 15) <<< ((16 : Int32) &&& 0x3f).toInt64) &&& (4503599627370495 : Int64))) ||| (((own_vv f off 16) <<< ((24 : Int32) &&& 0x3f).toInt64) &&& (4503599627370495 : Int64))) ||| (((own_vv f off 17) <<< ((32 : Int32) &&& 0x3f).toInt64) &&& (4503599627370495 : Int64))) ||| (((own_vv f off 18) <<< ((40 : Int32) &&& 0x3f).toInt64) &&& (4503599627370495 : Int64))) ||| (((own_vv f off 19) <<< ((48 : Int32) &&& 0x3f).toInt64) &&& (4503599627370495 : Int64))) := rfl
set_option maxRecDepth 65536 in
theorem own_c3 (f : Nat → Int32) (off : Nat) : own_of f off 32 3 = ((((((((0 : Int64) ||| ((((own_vv f off 19)).toUInt64 >>> ((4 : Int32) &&& 0x3f).toInt64.toUInt64).toInt64)) ||| (((own_vv f off 20) <<< ((4 : Int32) &&& 0x3f).toInt64) &&& (4503599627370495 : Int64))) ||| (((own_vv f off 21) <<< ((12 : Int32) &&& 0x3f).toInt64) &&& (4503599627370495 : Int64))) ||| (((own_vv f off 22) <<< ((20 : Int32) &&& 0x3f).toInt64) &&& (4503599627370495 : Int64))) ||| (((own_vv f off 23) <<< ((28 : Int32) &&& 0x3f).toInt64) &&& (4503599627370495 : Int64))) ||| (((own_vv f off 24) <<< ((36 : Int32) &&& 0x3f).toInt64) &&& (4503599627370495 : Int64))) ||| (((own_vv f off 25) <<< ((44 : Int32) &&& 0x3f).toInt64) &&& (4503599627370495 : Int64))) := rfl
set_option maxRecDepth 65536 in
theorem own_c4 (f : Nat → Int32) (off : Nat) : own_of f off 32 4 = (((((((0 : Int64) ||| (((own_vv f off 26) <<< ((0 : Int32) &&& 0x3f).toInt64) &&& (4503599627370495 : Int64))) ||| (((own_vv f off 27) <<< ((8 : Int32) &&& 0x3f).toInt64) &&& (4503599627370495 : Int64))) ||| (((own_vv f off 28) <<< ((16 : Int32) &&& 0x3f).toInt64) &&& (4503599627370495 : Int64))) ||| (((own_vv f off 29) <<< ((24 : Int32) &&& 0x3f).toInt64) &&& (4503599627370495 : Int64))) ||| (((own_vv f off 30) <<< ((32 : Int32) &&& 0x3f).toInt64) &&& (4503599627370495 : Int64))) ||| (((own_vv f off 31) <<< ((40 : Int32) &&& 0x3f).toInt64) &&& (4503599627370495 : Int64))) := rfl
set_option maxHeartbeats 4000000 in
theorem own_limbs (g0 : Nat → Int32) (oN : Nat) (q0 q1 q2 q3 : Int64) : own_of (own_put (own_put (own_put (own_put g0 oN q3) (oN + 8) q2) (oN + 16) q1) (oN + 24) q0) oN 32 0 = (q0 &&& (4503599627370495 : Int64)) ∧ own_of (own_put (own_put (own_put (own_put g0 oN q3) (oN + 8) q2) (oN + 16) q1) (oN + 24) q0) oN 32 1 = (((q0.toUInt64 >>> ((52 : Int32) &&& 0x3f).toInt64.toUInt64).toInt64) ||| ((q1 <<< ((12 : Int32) &&& 0x3f).toInt64) &&& (4503599627370495 : Int64))) ∧ own_of (own_put (own_put (own_put (own_put g0 oN q3) (oN + 8) q2) (oN + 16) q1) (oN + 24) q0) oN 32 2 = (((q1.toUInt64 >>> ((40 : Int32) &&& 0x3f).toInt64.toUInt64).toInt64) ||| ((q2 <<< ((24 : Int32) &&& 0x3f).toInt64) &&& (4503599627370495 : Int64))) ∧ own_of (own_put (own_put (own_put (own_put g0 oN q3) (oN + 8) q2) (oN + 16) q1) (oN + 24) q0) oN 32 3 = (((q2.toUInt64 >>> ((28 : Int32) &&& 0x3f).toInt64.toUInt64).toInt64) ||| ((q3 <<< ((36 : Int32) &&& 0x3f).toInt64) &&& (4503599627370495 : Int64))) ∧ own_of (own_put (own_put (own_put (own_put g0 oN q3) (oN + 8) q2) (oN + 16) q1) (oN + 24) q0) oN 32 4 = ((q3.toUInt64 >>> ((16 : Int32) &&& 0x3f).toInt64.toUInt64).toInt64) := by
  have v0 : (own_vv (own_put (own_put (own_put (own_put g0 oN q3) (oN + 8) q2) (oN + 16) q1) (oN + 24) q0) oN 0).toInt = (q0.toInt % 18446744073709551616) % 256 := by
    unfold own_vv
    rw [own_put_7 (by omega)]
    exact own_bv0 q0
  have v1 : (own_vv (own_put (own_put (own_put (own_put g0 oN q3) (oN + 8) q2) (oN + 16) q1) (oN + 24) q0) oN 1).toInt = (q0.toInt % 18446744073709551616) / 256 % 256 := by
    unfold own_vv
    rw [own_put_6 (by omega)]
    exact own_bv1 q0
  have v2 : (own_vv (own_put (own_put (own_put (own_put g0 oN q3) (oN + 8) q2) (oN + 16) q1) (oN + 24) q0) oN 2).toInt = (q0.toInt % 18446744073709551616) / 65536 % 256 := by
    unfold own_vv
    rw [own_put_5 (by omega)]
    exact own_bv2 q0
  have v3 : (own_vv (own_put (own_put (own_put (own_put g0 oN q3) (oN + 8) q2) (oN + 16) q1) (oN + 24) q0) oN 3).toInt = (q0.toInt % 18446744073709551616) / 16777216 % 256 := by
    unfold own_vv
    rw [own_put_4 (by omega)]
    exact own_bv3 q0
  have v4 : (own_vv (own_put (own_put (own_put (own_put g0 oN q3) (oN + 8) q2) (oN + 16) q1) (oN + 24) q0) oN 4).toInt = (q0.toInt % 18446744073709551616) / 4294967296 % 256 := by
    unfold own_vv
    rw [own_put_3 (by omega)]
    exact own_bv4 q0
  have v5 : (own_vv (own_put (own_put (own_put (own_put g0 oN q3) (oN + 8) q2) (oN + 16) q1) (oN + 24) q0) oN 5).toInt = (q0.toInt % 18446744073709551616) / 1099511627776 % 256 := by
    unfold own_vv
    rw [own_put_2 (by omega)]
    exact own_bv5 q0
  have v6 : (own_vv (own_put (own_put (own_put (own_put g0 oN q3) (oN + 8) q2) (oN + 16) q1) (oN + 24) q0) oN 6).toInt = (q0.toInt % 18446744073709551616) / 281474976710656 % 256 := by
    unfold own_vv
    rw [own_put_1 (by omega)]
    exact own_bv6 q0
  have v7 : (own_vv (own_put (own_put (own_put (own_put g0 oN q3) (oN + 8) q2) (oN + 16) q1) (oN + 24) q0) oN 7).toInt = (q0.toInt % 18446744073709551616) / 72057594037927936 % 256 := by
    unfold own_vv
    rw [own_put_0 (by omega)]
    exact own_bv7 q0
  have v8 : (own_vv (own_put (own_put (own_put (own_put g0 oN q3) (oN + 8) q2) (oN + 16) q1) (oN + 24) q0) oN 8).toInt = (q1.toInt % 18446744073709551616) % 256 := by
    unfold own_vv
    rw [own_put_out (by omega), own_put_7 (by omega)]
    exact own_bv0 q1
  have v9 : (own_vv (own_put (own_put (own_put (own_put g0 oN q3) (oN + 8) q2) (oN + 16) q1) (oN + 24) q0) oN 9).toInt = (q1.toInt % 18446744073709551616) / 256 % 256 := by
    unfold own_vv
    rw [own_put_out (by omega), own_put_6 (by omega)]
    exact own_bv1 q1
  have v10 : (own_vv (own_put (own_put (own_put (own_put g0 oN q3) (oN + 8) q2) (oN + 16) q1) (oN + 24) q0) oN 10).toInt = (q1.toInt % 18446744073709551616) / 65536 % 256 := by
    unfold own_vv
    rw [own_put_out (by omega), own_put_5 (by omega)]
    exact own_bv2 q1
  have v11 : (own_vv (own_put (own_put (own_put (own_put g0 oN q3) (oN + 8) q2) (oN + 16) q1) (oN + 24) q0) oN 11).toInt = (q1.toInt % 18446744073709551616) / 16777216 % 256 := by
    unfold own_vv
    rw [own_put_out (by omega), own_put_4 (by omega)]
    exact own_bv3 q1
  have v12 : (own_vv (own_put (own_put (own_put (own_put g0 oN q3) (oN + 8) q2) (oN + 16) q1) (oN + 24) q0) oN 12).toInt = (q1.toInt % 18446744073709551616) / 4294967296 % 256 := by
    unfold own_vv
    rw [own_put_out (by omega), own_put_3 (by omega)]
    exact own_bv4 q1
  have v13 : (own_vv (own_put (own_put (own_put (own_put g0 oN q3) (oN + 8) q2) (oN + 16) q1) (oN + 24) q0) oN 13).toInt = (q1.toInt % 18446744073709551616) / 1099511627776 % 256 := by
    unfold own_vv
    rw [own_put_out (by omega), own_put_2 (by omega)]
    exact own_bv5 q1
  have v14 : (own_vv (own_put (own_put (own_put (own_put g0 oN q3) (oN + 8) q2) (oN + 16) q1) (oN + 24) q0) oN 14).toInt = (q1.toInt % 18446744073709551616) / 281474976710656 % 256 := by
    unfold own_vv
    rw [own_put_out (by omega), own_put_1 (by omega)]
    exact own_bv6 q1
  have v15 : (own_vv (own_put (own_put (own_put (own_put g0 oN q3) (oN + 8) q2) (oN + 16) q1) (oN + 24) q0) oN 15).toInt = (q1.toInt % 18446744073709551616) / 72057594037927936 % 256 := by
    unfold own_vv
    rw [own_put_out (by omega), own_put_0 (by omega)]
    exact own_bv7 q1
  have v16 : (own_vv (own_put (own_put (own_put (own_put g0 oN q3) (oN + 8) q2) (oN + 16) q1) (oN + 24) q0) oN 16).toInt = (q2.toInt % 18446744073709551616) % 256 := by
    unfold own_vv
    rw [own_put_out (by omega), own_put_out (by omega), own_put_7 (by omega)]
    exact own_bv0 q2
  have v17 : (own_vv (own_put (own_put (own_put (own_put g0 oN q3) (oN + 8) q2) (oN + 16) q1) (oN + 24) q0) oN 17).toInt = (q2.toInt % 18446744073709551616) / 256 % 256 := by
    unfold own_vv
    rw [own_put_out (by omega), own_put_out (by omega), own_put_6 (by omega)]
    exact own_bv1 q2
  have v18 : (own_vv (own_put (own_put (own_put (own_put g0 oN q3) (oN + 8) q2) (oN + 16) q1) (oN + 24) q0) oN 18).toInt = (q2.toInt % 18446744073709551616) / 65536 % 256 := by
    unfold own_vv
    rw [own_put_out (by omega), own_put_out (by omega), own_put_5 (by omega)]
    exact own_bv2 q2
  have v19 : (own_vv (own_put (own_put (own_put (own_put g0 oN q3) (oN + 8) q2) (oN + 16) q1) (oN + 24) q0) oN 19).toInt = (q2.toInt % 18446744073709551616) / 16777216 % 256 := by
    unfold own_vv
    rw [own_put_out (by omega), own_put_out (by omega), own_put_4 (by omega)]
    exact own_bv3 q2
  have v20 : (own_vv (own_put (own_put (own_put (own_put g0 oN q3) (oN + 8) q2) (oN + 16) q1) (oN + 24) q0) oN 20).toInt = (q2.toInt % 18446744073709551616) / 4294967296 % 256 := by
    unfold own_vv
    rw [own_put_out (by omega), own_put_out (by omega), own_put_3 (by omega)]
    exact own_bv4 q2
  have v21 : (own_vv (own_put (own_put (own_put (own_put g0 oN q3) (oN + 8) q2) (oN + 16) q1) (oN + 24) q0) oN 21).toInt = (q2.toInt % 18446744073709551616) / 1099511627776 % 256 := by
    unfold own_vv
    rw [own_put_out (by omega), own_put_out (by omega), own_put_2 (by omega)]
    exact own_bv5 q2
  have v22 : (own_vv (own_put (own_put (own_put (own_put g0 oN q3) (oN + 8) q2) (oN + 16) q1) (oN + 24) q0) oN 22).toInt = (q2.toInt % 18446744073709551616) / 281474976710656 % 256 := by
    unfold own_vv
    rw [own_put_out (by omega), own_put_out (by omega), own_put_1 (by omega)]
    exact own_bv6 q2
  have v23 : (own_vv (own_put (own_put (own_put (own_put g0 oN q3) (oN + 8) q2) (oN + 16) q1) (oN + 24) q0) oN 23).toInt = (q2.toInt % 18446744073709551616) / 72057594037927936 % 256 := by
    unfold own_vv
    rw [own_put_out (by omega), own_put_out (by omega), own_put_0 (by omega)]
    exact own_bv7 q2
  have v24 : (own_vv (own_put (own_put (own_put (own_put g0 oN q3) (oN + 8) q2) (oN + 16) q1) (oN + 24) q0) oN 24).toInt = (q3.toInt % 18446744073709551616) % 256 := by
    unfold own_vv
    rw [own_put_out (by omega), own_put_out (by omega), own_put_out (by omega), own_put_7 (by omega)]
    exact own_bv0 q3
  have v25 : (own_vv (own_put (own_put (own_put (own_put g0 oN q3) (oN + 8) q2) (oN + 16) q1) (oN + 24) q0) oN 25).toInt = (q3.toInt % 18446744073709551616) / 256 % 256 := by
    unfold own_vv
    rw [own_put_out (by omega), own_put_out (by omega), own_put_out (by omega), own_put_6 (by omega)]
    exact own_bv1 q3
  have v26 : (own_vv (own_put (own_put (own_put (own_put g0 oN q3) (oN + 8) q2) (oN + 16) q1) (oN + 24) q0) oN 26).toInt = (q3.toInt % 18446744073709551616) / 65536 % 256 := by
    unfold own_vv
    rw [own_put_out (by omega), own_put_out (by omega), own_put_out (by omega), own_put_5 (by omega)]
    exact own_bv2 q3
  have v27 : (own_vv (own_put (own_put (own_put (own_put g0 oN q3) (oN + 8) q2) (oN + 16) q1) (oN + 24) q0) oN 27).toInt = (q3.toInt % 18446744073709551616) / 16777216 % 256 := by
    unfold own_vv
    rw [own_put_out (by omega), own_put_out (by omega), own_put_out (by omega), own_put_4 (by omega)]
    exact own_bv3 q3
  have v28 : (own_vv (own_put (own_put (own_put (own_put g0 oN q3) (oN + 8) q2) (oN + 16) q1) (oN + 24) q0) oN 28).toInt = (q3.toInt % 18446744073709551616) / 4294967296 % 256 := by
    unfold own_vv
    rw [own_put_out (by omega), own_put_out (by omega), own_put_out (by omega), own_put_3 (by omega)]
    exact own_bv4 q3
  have v29 : (own_vv (own_put (own_put (own_put (own_put g0 oN q3) (oN + 8) q2) (oN + 16) q1) (oN + 24) q0) oN 29).toInt = (q3.toInt % 18446744073709551616) / 1099511627776 % 256 := by
    unfold own_vv
    rw [own_put_out (by omega), own_put_out (by omega), own_put_out (by omega), own_put_2 (by omega)]
    exact own_bv5 q3
  have v30 : (own_vv (own_put (own_put (own_put (own_put g0 oN q3) (oN + 8) q2) (oN + 16) q1) (oN + 24) q0) oN 30).toInt = (q3.toInt % 18446744073709551616) / 281474976710656 % 256 := by
    unfold own_vv
    rw [own_put_out (by omega), own_put_out (by omega), own_put_out (by omega), own_put_1 (by omega)]
    exact own_bv6 q3
  have v31 : (own_vv (own_put (own_put (own_put (own_put g0 oN q3) (oN + 8) q2) (oN + 16) q1) (oN + 24) q0) oN 31).toInt = (q3.toInt % 18446744073709551616) / 72057594037927936 % 256 := by
    unfold own_vv
    rw [own_put_out (by omega), own_put_out (by omega), own_put_out (by omega), own_put_0 (by omega)]
    exact own_bv7 q3
  have s0 := own_sum q0
  rw [← v7, ← v6, ← v5, ← v4, ← v3, ← v2, ← v1, ← v0] at s0
  have s1 := own_sum q1
  rw [← v15, ← v14, ← v13, ← v12, ← v11, ← v10, ← v9, ← v8] at s1
  have s2 := own_sum q2
  rw [← v23, ← v22, ← v21, ← v20, ← v19, ← v18, ← v17, ← v16] at s2
  have s3 := own_sum q3
  rw [← v31, ← v30, ← v29, ← v28, ← v27, ← v26, ← v25, ← v24] at s3
  have w0 : 0 ≤ (own_vv (own_put (own_put (own_put (own_put g0 oN q3) (oN + 8) q2) (oN + 16) q1) (oN + 24) q0) oN 0).toInt ∧ (own_vv (own_put (own_put (own_put (own_put g0 oN q3) (oN + 8) q2) (oN + 16) q1) (oN + 24) q0) oN 0).toInt < 256 := by rw [v0]; omega
  have w1 : 0 ≤ (own_vv (own_put (own_put (own_put (own_put g0 oN q3) (oN + 8) q2) (oN + 16) q1) (oN + 24) q0) oN 1).toInt ∧ (own_vv (own_put (own_put (own_put (own_put g0 oN q3) (oN + 8) q2) (oN + 16) q1) (oN + 24) q0) oN 1).toInt < 256 := by rw [v1]; omega
  have w2 : 0 ≤ (own_vv (own_put (own_put (own_put (own_put g0 oN q3) (oN + 8) q2) (oN + 16) q1) (oN + 24) q0) oN 2).toInt ∧ (own_vv (own_put (own_put (own_put (own_put g0 oN q3) (oN + 8) q2) (oN + 16) q1) (oN + 24) q0) oN 2).toInt < 256 := by rw [v2]; omega
  have w3 : 0 ≤ (own_vv (own_put (own_put (own_put (own_put g0 oN q3) (oN + 8) q2) (oN + 16) q1) (oN + 24) q0) oN 3).toInt ∧ (own_vv (own_put (own_put (own_put (own_put g0 oN q3) (oN + 8) q2) (oN + 16) q1) (oN + 24) q0) oN 3).toInt < 256 := by rw [v3]; omega
  have w4 : 0 ≤ (own_vv (own_put (own_put (own_put (own_put g0 oN q3) (oN + 8) q2) (oN + 16) q1) (oN + 24) q0) oN 4).toInt ∧ (own_vv (own_put (own_put (own_put (own_put g0 oN q3) (oN + 8) q2) (oN + 16) q1) (oN + 24) q0) oN 4).toInt < 256 := by rw [v4]; omega
  have w5 : 0 ≤ (own_vv (own_put (own_put (own_put (own_put g0 oN q3) (oN + 8) q2) (oN + 16) q1) (oN + 24) q0) oN 5).toInt ∧ (own_vv (own_put (own_put (own_put (own_put g0 oN q3) (oN + 8) q2) (oN + 16) q1) (oN + 24) q0) oN 5).toInt < 256 := by rw [v5]; omega
  have w6 : 0 ≤ (own_vv (own_put (own_put (own_put (own_put g0 oN q3) (oN + 8) q2) (oN + 16) q1) (oN + 24) q0) oN 6).toInt ∧ (own_vv (own_put (own_put (own_put (own_put g0 oN q3) (oN + 8) q2) (oN + 16) q1) (oN + 24) q0) oN 6).toInt < 256 := by rw [v6]; omega
  have w7 : 0 ≤ (own_vv (own_put (own_put (own_put (own_put g0 oN q3) (oN + 8) q2) (oN + 16) q1) (oN + 24) q0) oN 7).toInt ∧ (own_vv (own_put (own_put (own_put (own_put g0 oN q3) (oN + 8) q2) (oN + 16) q1) (oN + 24) q0) oN 7).toInt < 256 := by rw [v7]; omega
  have w8 : 0 ≤ (own_vv (own_put (own_put (own_put (own_put g0 oN q3) (oN + 8) q2) (oN + 16) q1) (oN + 24) q0) oN 8).toInt ∧ (own_vv (own_put (own_put (own_put (own_put g0 oN q3) (oN + 8) q2) (oN + 16) q1) (oN + 24) q0) oN 8).toInt < 256 := by rw [v8]; omega
  have w9 : 0 ≤ (own_vv (own_put (own_put (own_put (own_put g0 oN q3) (oN + 8) q2) (oN + 16) q1) (oN + 24) q0) oN 9).toInt ∧ (own_vv (own_put (own_put (own_put (own_put g0 oN q3) (oN + 8) q2) (oN + 16) q1) (oN + 24) q0) oN 9).toInt < 256 := by rw [v9]; omega
  have w10 : 0 ≤ (own_vv (own_put (own_put (own_put (own_put g0 oN q3) (oN + 8) q2) (oN + 16) q1) (oN + 24) q0) oN 10).toInt ∧ (own_vv (own_put (own_put (own_put (own_put g0 oN q3) (oN + 8) q2) (oN + 16) q1) (oN + 24) q0) oN 10).toInt < 256 := by rw [v10]; omega
  have w11 : 0 ≤ (own_vv (own_put (own_put (own_put (own_put g0 oN q3) (oN + 8) q2) (oN + 16) q1) (oN + 24) q0) oN 11).toInt ∧ (own_vv (own_put (own_put (own_put (own_put g0 oN q3) (oN + 8) q2) (oN + 16) q1) (oN + 24) q0) oN 11).toInt < 256 := by rw [v11]; omega
  have w12 : 0 ≤ (own_vv (own_put (own_put (own_put (own_put g0 oN q3) (oN + 8) q2) (oN + 16) q1) (oN + 24) q0) oN 12).toInt ∧ (own_vv (own_put (own_put (own_put (own_put g0 oN q3) (oN + 8) q2) (oN + 16) q1) (oN + 24) q0) oN 12).toInt < 256 := by rw [v12]; omega
  have w13 : 0 ≤ (own_vv (own_put (own_put (own_put (own_put g0 oN q3) (oN + 8) q2) (oN + 16) q1) (oN + 24) q0) oN 13).toInt ∧ (own_vv (own_put (own_put (own_put (own_put g0 oN q3) (oN + 8) q2) (oN + 16) q1) (oN + 24) q0) oN 13).toInt < 256 := by rw [v13]; omega
  have w14 : 0 ≤ (own_vv (own_put (own_put (own_put (own_put g0 oN q3) (oN + 8) q2) (oN + 16) q1) (oN + 24) q0) oN 14).toInt ∧ (own_vv (own_put (own_put (own_put (own_put g0 oN q3) (oN + 8) q2) (oN + 16) q1) (oN + 24) q0) oN 14).toInt < 256 := by rw [v14]; omega
  have w15 : 0 ≤ (own_vv (own_put (own_put (own_put (own_put g0 oN q3) (oN + 8) q2) (oN + 16) q1) (oN + 24) q0) oN 15).toInt ∧ (own_vv (own_put (own_put (own_put (own_put g0 oN q3) (oN + 8) q2) (oN + 16) q1) (oN + 24) q0) oN 15).toInt < 256 := by rw [v15]; omega
  have w16 : 0 ≤ (own_vv (own_put (own_put (own_put (own_put g0 oN q3) (oN + 8) q2) (oN + 16) q1) (oN + 24) q0) oN 16).toInt ∧ (own_vv (own_put (own_put (own_put (own_put g0 oN q3) (oN + 8) q2) (oN + 16) q1) (oN + 24) q0) oN 16).toInt < 256 := by rw [v16]; omega
  have w17 : 0 ≤ (own_vv (own_put (own_put (own_put (own_put g0 oN q3) (oN + 8) q2) (oN + 16) q1) (oN + 24) q0) oN 17).toInt ∧ (own_vv (own_put (own_put (own_put (own_put g0 oN q3) (oN + 8) q2) (oN + 16) q1) (oN + 24) q0) oN 17).toInt < 256 := by rw [v17]; omega
  have w18 : 0 ≤ (own_vv (own_put (own_put (own_put (own_put g0 oN q3) (oN + 8) q2) (oN + 16) q1) (oN + 24) q0) oN 18).toInt ∧ (own_vv (own_put (own_put (own_put (own_put g0 oN q3) (oN + 8) q2) (oN + 16) q1) (oN + 24) q0) oN 18).toInt < 256 := by rw [v18]; omega
  have w19 : 0 ≤ (own_vv (own_put (own_put (own_put (own_put g0 oN q3) (oN + 8) q2) (oN + 16) q1) (oN + 24) q0) oN 19).toInt ∧ (own_vv (own_put (own_put (own_put (own_put g0 oN q3) (oN + 8) q2) (oN + 16) q1) (oN + 24) q0) oN 19).toInt < 256 := by rw [v19]; omega
  have w20 : 0 ≤ (own_vv (own_put (own_put (own_put (own_put g0 oN q3) (oN + 8) q2) (oN + 16) q1) (oN + 24) q0) oN 20).toInt ∧ (own_vv (own_put (own_put (own_put (own_put g0 oN q3) (oN + 8) q2) (oN + 16) q1) (oN + 24) q0) oN 20).toInt < 256 := by rw [v20]; omega
  have w21 : 0 ≤ (own_vv (own_put (own_put (own_put (own_put g0 oN q3) (oN + 8) q2) (oN + 16) q1) (oN + 24) q0) oN 21).toInt ∧ (own_vv (own_put (own_put (own_put (own_put g0 oN q3) (oN + 8) q2) (oN + 16) q1) (oN + 24) q0) oN 21).toInt < 256 := by rw [v21]; omega
  have w22 : 0 ≤ (own_vv (own_put (own_put (own_put (own_put g0 oN q3) (oN + 8) q2) (oN + 16) q1) (oN + 24) q0) oN 22).toInt ∧ (own_vv (own_put (own_put (own_put (own_put g0 oN q3) (oN + 8) q2) (oN + 16) q1) (oN + 24) q0) oN 22).toInt < 256 := by rw [v22]; omega
  have w23 : 0 ≤ (own_vv (own_put (own_put (own_put (own_put g0 oN q3) (oN + 8) q2) (oN + 16) q1) (oN + 24) q0) oN 23).toInt ∧ (own_vv (own_put (own_put (own_put (own_put g0 oN q3) (oN + 8) q2) (oN + 16) q1) (oN + 24) q0) oN 23).toInt < 256 := by rw [v23]; omega
  have w24 : 0 ≤ (own_vv (own_put (own_put (own_put (own_put g0 oN q3) (oN + 8) q2) (oN + 16) q1) (oN + 24) q0) oN 24).toInt ∧ (own_vv (own_put (own_put (own_put (own_put g0 oN q3) (oN + 8) q2) (oN + 16) q1) (oN + 24) q0) oN 24).toInt < 256 := by rw [v24]; omega
  have w25 : 0 ≤ (own_vv (own_put (own_put (own_put (own_put g0 oN q3) (oN + 8) q2) (oN + 16) q1) (oN + 24) q0) oN 25).toInt ∧ (own_vv (own_put (own_put (own_put (own_put g0 oN q3) (oN + 8) q2) (oN + 16) q1) (oN + 24) q0) oN 25).toInt < 256 := by rw [v25]; omega
  have w26 : 0 ≤ (own_vv (own_put (own_put (own_put (own_put g0 oN q3) (oN + 8) q2) (oN + 16) q1) (oN + 24) q0) oN 26).toInt ∧ (own_vv (own_put (own_put (own_put (own_put g0 oN q3) (oN + 8) q2) (oN + 16) q1) (oN + 24) q0) oN 26).toInt < 256 := by rw [v26]; omega
  have w27 : 0 ≤ (own_vv (own_put (own_put (own_put (own_put g0 oN q3) (oN + 8) q2) (oN + 16) q1) (oN + 24) q0) oN 27).toInt ∧ (own_vv (own_put (own_put (own_put (own_put g0 oN q3) (oN + 8) q2) (oN + 16) q1) (oN + 24) q0) oN 27).toInt < 256 := by rw [v27]; omega
  have w28 : 0 ≤ (own_vv (own_put (own_put (own_put (own_put g0 oN q3) (oN + 8) q2) (oN + 16) q1) (oN + 24) q0) oN 28).toInt ∧ (own_vv (own_put (own_put (own_put (own_put g0 oN q3) (oN + 8) q2) (oN + 16) q1) (oN + 24) q0) oN 28).toInt < 256 := by rw [v28]; omega
  have w29 : 0 ≤ (own_vv (own_put (own_put (own_put (own_put g0 oN q3) (oN + 8) q2) (oN + 16) q1) (oN + 24) q0) oN 29).toInt ∧ (own_vv (own_put (own_put (own_put (own_put g0 oN q3) (oN + 8) q2) (oN + 16) q1) (oN + 24) q0) oN 29).toInt < 256 := by rw [v29]; omega
  have w30 : 0 ≤ (own_vv (own_put (own_put (own_put (own_put g0 oN q3) (oN + 8) q2) (oN + 16) q1) (oN + 24) q0) oN 30).toInt ∧ (own_vv (own_put (own_put (own_put (own_put g0 oN q3) (oN + 8) q2) (oN + 16) q1) (oN + 24) q0) oN 30).toInt < 256 := by rw [v30]; omega
  have w31 : 0 ≤ (own_vv (own_put (own_put (own_put (own_put g0 oN q3) (oN + 8) q2) (oN + 16) q1) (oN + 24) q0) oN 31).toInt ∧ (own_vv (own_put (own_put (own_put (own_put g0 oN q3) (oN + 8) q2) (oN + 16) q1) (oN + 24) q0) oN 31).toInt < 256 := by rw [v31]; omega
  clear v0 v1 v2 v3 v4 v5 v6 v7 v8 v9 v10 v11 v12 v13 v14 v15 v16 v17 v18 v19 v20 v21 v22 v23 v24 v25 v26 v27 v28 v29 v30 v31
  have k00 : (0 : Int64).toInt = 0 := rfl
  rw [own_c0, own_c1, own_c2, own_c3, own_c4]
  generalize own_vv (own_put (own_put (own_put (own_put g0 oN q3) (oN + 8) q2) (oN + 16) q1) (oN + 24) q0) oN 0 = z0 at *
  generalize own_vv (own_put (own_put (own_put (own_put g0 oN q3) (oN + 8) q2) (oN + 16) q1) (oN + 24) q0) oN 1 = z1 at *
  generalize own_vv (own_put (own_put (own_put (own_put g0 oN q3) (oN + 8) q2) (oN + 16) q1) (oN + 24) q0) oN 2 = z2 at *
  generalize own_vv (own_put (own_put (own_put (own_put g0 oN q3) (oN + 8) q2) (oN + 16) q1) (oN + 24) q0) oN 3 = z3 at *
  generalize own_vv (own_put (own_put (own_put (own_put g0 oN q3) (oN + 8) q2) (oN + 16) q1) (oN + 24) q0) oN 4 = z4 at *
  generalize own_vv (own_put (own_put (own_put (own_put g0 oN q3) (oN + 8) q2) (oN + 16) q1) (oN + 24) q0) oN 5 = z5 at *
  generalize own_vv (own_put (own_put (own_put (own_put g0 oN q3) (oN + 8) q2) (oN + 16) q1) (oN + 24) q0) oN 6 = z6 at *
  generalize own_vv (own_put (own_put (own_put (own_put g0 oN q3) (oN + 8) q2) (oN + 16) q1) (oN + 24) q0) oN 7 = z7 at *
  generalize own_vv (own_put (own_put (own_put (own_put g0 oN q3) (oN + 8) q2) (oN + 16) q1) (oN + 24) q0) oN 8 = z8 at *
  generalize own_vv (own_put (own_put (own_put (own_put g0 oN q3) (oN + 8) q2) (oN + 16) q1) (oN + 24) q0) oN 9 = z9 at *
  generalize own_vv (own_put (own_put (own_put (own_put g0 oN q3) (oN + 8) q2) (oN + 16) q1) (oN + 24) q0) oN 10 = z10 at *
  generalize own_vv (own_put (own_put (own_put (own_put g0 oN q3) (oN + 8) q2) (oN + 16) q1) (oN + 24) q0) oN 11 = z11 at *
  generalize own_vv (own_put (own_put (own_put (own_put g0 oN q3) (oN + 8) q2) (oN + 16) q1) (oN + 24) q0) oN 12 = z12 at *
  generalize own_vv (own_put (own_put (own_put (own_put g0 oN q3) (oN + 8) q2) (oN + 16) q1) (oN + 24) q0) oN 13 = z13 at *
  generalize own_vv (own_put (own_put (own_put (own_put g0 oN q3) (oN + 8) q2) (oN + 16) q1) (oN + 24) q0) oN 14 = z14 at *
  generalize own_vv (own_put (own_put (own_put (own_put g0 oN q3) (oN + 8) q2) (oN + 16) q1) (oN + 24) q0) oN 15 = z15 at *
  generalize own_vv (own_put (own_put (own_put (own_put g0 oN q3) (oN + 8) q2) (oN + 16) q1) (oN + 24) q0) oN 16 = z16 at *
  generalize own_vv (own_put (own_put (own_put (own_put g0 oN q3) (oN + 8) q2) (oN + 16) q1) (oN + 24) q0) oN 17 = z17 at *
  generalize own_vv (own_put (own_put (own_put (own_put g0 oN q3) (oN + 8) q2) (oN + 16) q1) (oN + 24) q0) oN 18 = z18 at *
  generalize own_vv (own_put (own_put (own_put (own_put g0 oN q3) (oN + 8) q2) (oN + 16) q1) (oN + 24) q0) oN 19 = z19 at *
  generalize own_vv (own_put (own_put (own_put (own_put g0 oN q3) (oN + 8) q2) (oN + 16) q1) (oN + 24) q0) oN 20 = z20 at *
  generalize own_vv (own_put (own_put (own_put (own_put g0 oN q3) (oN + 8) q2) (oN + 16) q1) (oN + 24) q0) oN 21 = z21 at *
  generalize own_vv (own_put (own_put (own_put (own_put g0 oN q3) (oN + 8) q2) (oN + 16) q1) (oN + 24) q0) oN 22 = z22 at *
  generalize own_vv (own_put (own_put (own_put (own_put g0 oN q3) (oN + 8) q2) (oN + 16) q1) (oN + 24) q0) oN 23 = z23 at *
  generalize own_vv (own_put (own_put (own_put (own_put g0 oN q3) (oN + 8) q2) (oN + 16) q1) (oN + 24) q0) oN 24 = z24 at *
  generalize own_vv (own_put (own_put (own_put (own_put g0 oN q3) (oN + 8) q2) (oN + 16) q1) (oN + 24) q0) oN 25 = z25 at *
  generalize own_vv (own_put (own_put (own_put (own_put g0 oN q3) (oN + 8) q2) (oN + 16) q1) (oN + 24) q0) oN 26 = z26 at *
  generalize own_vv (own_put (own_put (own_put (own_put g0 oN q3) (oN + 8) q2) (oN + 16) q1) (oN + 24) q0) oN 27 = z27 at *
  generalize own_vv (own_put (own_put (own_put (own_put g0 oN q3) (oN + 8) q2) (oN + 16) q1) (oN + 24) q0) oN 28 = z28 at *
  generalize own_vv (own_put (own_put (own_put (own_put g0 oN q3) (oN + 8) q2) (oN + 16) q1) (oN + 24) q0) oN 29 = z29 at *
  generalize own_vv (own_put (own_put (own_put (own_put g0 oN q3) (oN + 8) q2) (oN + 16) q1) (oN + 24) q0) oN 30 = z30 at *
  generalize own_vv (own_put (own_put (own_put (own_put g0 oN q3) (oN + 8) q2) (oN + 16) q1) (oN + 24) q0) oN 31 = z31 at *
  have e0_0 := own_or0 (0 : Int64) z0 (by decide) (by decide) w0.1 w0.2
  generalize g0_0 : ((0 : Int64) ||| ((z0 <<< ((0 : Int32) &&& 0x3f).toInt64) &&& (4503599627370495 : Int64))) = y0_0 at *
  have e0_1 := own_or8 y0_0 z1 (by omega) (by omega) w1.1 w1.2
  generalize g0_1 : (y0_0 ||| ((z1 <<< ((8 : Int32) &&& 0x3f).toInt64) &&& (4503599627370495 : Int64))) = y0_1 at *
  have e0_2 := own_or16 y0_1 z2 (by omega) (by omega) w2.1 w2.2
  generalize g0_2 : (y0_1 ||| ((z2 <<< ((16 : Int32) &&& 0x3f).toInt64) &&& (4503599627370495 : Int64))) = y0_2 at *
  have e0_3 := own_or24 y0_2 z3 (by omega) (by omega) w3.1 w3.2
  generalize g0_3 : (y0_2 ||| ((z3 <<< ((24 : Int32) &&& 0x3f).toInt64) &&& (4503599627370495 : Int64))) = y0_3 at *
  have e0_4 := own_or32 y0_3 z4 (by omega) (by omega) w4.1 w4.2
  generalize g0_4 : (y0_3 ||| ((z4 <<< ((32 : Int32) &&& 0x3f).toInt64) &&& (4503599627370495 : Int64))) = y0_4 at *
  have e0_5 := own_or40 y0_4 z5 (by omega) (by omega) w5.1 w5.2
  generalize g0_5 : (y0_4 ||| ((z5 <<< ((40 : Int32) &&& 0x3f).toInt64) &&& (4503599627370495 : Int64))) = y0_5 at *
  have e0_6 := own_or48 y0_5 z6 (by omega) (by omega) w6.1 w6.2
  generalize g0_6 : (y0_5 ||| ((z6 <<< ((48 : Int32) &&& 0x3f).toInt64) &&& (4503599627370495 : Int64))) = y0_6 at *
  have e1_0 := own_car z6 w6.1 w6.2
  generalize g1_0 : ((0 : Int64) ||| ((z6.toUInt64 >>> ((4 : Int32) &&& 0x3f).toInt64.toUInt64).toInt64)) = y1_0 at *
  have e1_1 := own_or4 y1_0 z7 (by omega) (by omega) w7.1 w7.2
  generalize g1_1 : (y1_0 ||| ((z7 <<< ((4 : Int32) &&& 0x3f).toInt64) &&& (4503599627370495 : Int64))) = y1_1 at *
  have e1_2 := own_or12 y1_1 z8 (by omega) (by omega) w8.1 w8.2
  generalize g1_2 : (y1_1 ||| ((z8 <<< ((12 : Int32) &&& 0x3f).toInt64) &&& (4503599627370495 : Int64))) = y1_2 at *
  have e1_3 := own_or20 y1_2 z9 (by omega) (by omega) w9.1 w9.2
  generalize g1_3 : (y1_2 ||| ((z9 <<< ((20 : Int32) &&& 0x3f).toInt64) &&& (4503599627370495 : Int64))) = y1_3 at *
  have e1_4 := own_or28 y1_3 z10 (by omega) (by omega) w10.1 w10.2
  generalize g1_4 : (y1_3 ||| ((z10 <<< ((28 : Int32) &&& 0x3f).toInt64) &&& (4503599627370495 : Int64))) = y1_4 at *
  have e1_5 := own_or36 y1_4 z11 (by omega) (by omega) w11.1 w11.2
  generalize g1_5 : (y1_4 ||| ((z11 <<< ((36 : Int32) &&& 0x3f).toInt64) &&& (4503599627370495 : Int64))) = y1_5 at *
  have e1_6 := own_or44 y1_5 z12 (by omega) (by omega) w12.1 w12.2
  generalize g1_6 : (y1_5 ||| ((z12 <<< ((44 : Int32) &&& 0x3f).toInt64) &&& (4503599627370495 : Int64))) = y1_6 at *
  have e2_0 := own_or0 (0 : Int64) z13 (by decide) (by decide) w13.1 w13.2
  generalize g2_0 : ((0 : Int64) ||| ((z13 <<< ((0 : Int32) &&& 0x3f).toInt64) &&& (4503599627370495 : Int64))) = y2_0 at *
  have e2_1 := own_or8 y2_0 z14 (by omega) (by omega) w14.1 w14.2
  generalize g2_1 : (y2_0 ||| ((z14 <<< ((8 : Int32) &&& 0x3f).toInt64) &&& (4503599627370495 : Int64))) = y2_1 at *
  have e2_2 := own_or16 y2_1 z15 (by omega) (by omega) w15.1 w15.2
  generalize g2_2 : (y2_1 ||| ((z15 <<< ((16 : Int32) &&& 0x3f).toInt64) &&& (4503599627370495 : Int64))) = y2_2 at *
  have e2_3 := own_or24 y2_2 z16 (by omega) (by omega) w16.1 w16.2
  generalize g2_3 : (y2_2 ||| ((z16 <<< ((24 : Int32) &&& 0x3f).toInt64) &&& (4503599627370495 : Int64))) = y2_3 at *
  have e2_4 := own_or32 y2_3 z17 (by omega) (by omega) w17.1 w17.2
  generalize g2_4 : (y2_3 ||| ((z17 <<< ((32 : Int32) &&& 0x3f).toInt64) &&& (4503599627370495 : Int64))) = y2_4 at *
  have e2_5 := own_or40 y2_4 z18 (by omega) (by omega) w18.1 w18.2
  generalize g2_5 : (y2_4 ||| ((z18 <<< ((40 : Int32) &&& 0x3f).toInt64) &&& (4503599627370495 : Int64))) = y2_5 at *
  have e2_6 := own_or48 y2_5 z19 (by omega) (by omega) w19.1 w19.2
  generalize g2_6 : (y2_5 ||| ((z19 <<< ((48 : Int32) &&& 0x3f).toInt64) &&& (4503599627370495 : Int64))) = y2_6 at *
  have e3_0 := own_car z19 w19.1 w19.2
  generalize g3_0 : ((0 : Int64) ||| ((z19.toUInt64 >>> ((4 : Int32) &&& 0x3f).toInt64.toUInt64).toInt64)) = y3_0 at *
  have e3_1 := own_or4 y3_0 z20 (by omega) (by omega) w20.1 w20.2
  generalize g3_1 : (y3_0 ||| ((z20 <<< ((4 : Int32) &&& 0x3f).toInt64) &&& (4503599627370495 : Int64))) = y3_1 at *
  have e3_2 := own_or12 y3_1 z21 (by omega) (by omega) w21.1 w21.2
  generalize g3_2 : (y3_1 ||| ((z21 <<< ((12 : Int32) &&& 0x3f).toInt64) &&& (4503599627370495 : Int64))) = y3_2 at *
  have e3_3 := own_or20 y3_2 z22 (by omega) (by omega) w22.1 w22.2
  generalize g3_3 : (y3_2 ||| ((z22 <<< ((20 : Int32) &&& 0x3f).toInt64) &&& (4503599627370495 : Int64))) = y3_3 at *
  have e3_4 := own_or28 y3_3 z23 (by omega) (by omega) w23.1 w23.2
  generalize g3_4 : (y3_3 ||| ((z23 <<< ((28 : Int32) &&& 0x3f).toInt64) &&& (4503599627370495 : Int64))) = y3_4 at *
  have e3_5 := own_or36 y3_4 z24 (by omega) (by omega) w24.1 w24.2
  generalize g3_5 : (y3_4 ||| ((z24 <<< ((36 : Int32) &&& 0x3f).toInt64) &&& (4503599627370495 : Int64))) = y3_5 at *
  have e3_6 := own_or44 y3_5 z25 (by omega) (by omega) w25.1 w25.2
  generalize g3_6 : (y3_5 ||| ((z25 <<< ((44 : Int32) &&& 0x3f).toInt64) &&& (4503599627370495 : Int64))) = y3_6 at *
  have e4_0 := own_or0 (0 : Int64) z26 (by decide) (by decide) w26.1 w26.2
  generalize g4_0 : ((0 : Int64) ||| ((z26 <<< ((0 : Int32) &&& 0x3f).toInt64) &&& (4503599627370495 : Int64))) = y4_0 at *
  have e4_1 := own_or8 y4_0 z27 (by omega) (by omega) w27.1 w27.2
  generalize g4_1 : (y4_0 ||| ((z27 <<< ((8 : Int32) &&& 0x3f).toInt64) &&& (4503599627370495 : Int64))) = y4_1 at *
  have e4_2 := own_or16 y4_1 z28 (by omega) (by omega) w28.1 w28.2
  generalize g4_2 : (y4_1 ||| ((z28 <<< ((16 : Int32) &&& 0x3f).toInt64) &&& (4503599627370495 : Int64))) = y4_2 at *
  have e4_3 := own_or24 y4_2 z29 (by omega) (by omega) w29.1 w29.2
  generalize g4_3 : (y4_2 ||| ((z29 <<< ((24 : Int32) &&& 0x3f).toInt64) &&& (4503599627370495 : Int64))) = y4_3 at *
  have e4_4 := own_or32 y4_3 z30 (by omega) (by omega) w30.1 w30.2
  generalize g4_4 : (y4_3 ||| ((z30 <<< ((32 : Int32) &&& 0x3f).toInt64) &&& (4503599627370495 : Int64))) = y4_4 at *
  have e4_5 := own_or40 y4_4 z31 (by omega) (by omega) w31.1 w31.2
  generalize g4_5 : (y4_4 ||| ((z31 <<< ((40 : Int32) &&& 0x3f).toInt64) &&& (4503599627370495 : Int64))) = y4_5 at *
  refine ⟨Int64.toInt_inj.mp ?_, Int64.toInt_inj.mp ?_, Int64.toInt_inj.mp ?_, Int64.toInt_inj.mp ?_, Int64.toInt_inj.mp ?_⟩
  · have m := c_maskL q0 4503599627370495 52 (by decide) (by decide)
    simp only [Nat.reducePow, Int.cast_ofNat_Int] at m
    rw [m]
    omega
  · rw [own_rs1]
    omega
  · rw [own_rs2]
    omega
  · rw [own_rs3]
    omega
  · have a := c_lushr q3 16 16 (by decide) (by decide)
    simp only [Nat.reducePow, Int.cast_ofNat_Int] at a
    rw [a]
    omega

def own_Q0 : Option Value → Heap → Prop := fun v _ => v = some (.int 1) ∧ True
theorem pd_0 : parseMethodDescriptor "([BIJ)V" = some ⟨[(.array .byte), .int, .long], none⟩ := by decide +kernel
theorem pd_1 : parseMethodDescriptor "([BI)[J" = some ⟨[(.array .byte), .int], some (.array .long)⟩ := by decide +kernel
theorem ef_0 (m : MethodId) (q0 : Int64) (q1 : Int64) (q2 : Int64) (q3 : Int64) (p4 : Int32) (q5 : Int64) : entryFrame m #[(.long q0), (.long q1), (.long q2), (.long q3), (.int p4), (.long q5)] maxLocals = mkF m 0 #[.val (.long q0), .second, .val (.long q1), .second, .val (.long q2), .second, .val (.long q3), .second, .val (.int p4), .val (.long q5), .second, .unset, .unset, .unset, .unset, .unset, .unset, .unset, .unset, .unset, .unset, .unset, .unset, .unset, .unset, .unset] [] := by first | (simp [entryFrame, mkF, argsToLocals, Value.category, maxLocals]; done) | rfl
set_option maxRecDepth 65536 in
set_option maxHeartbeats 40000000 in
theorem rm0 (l : Launch) (Z : State) (a0 : Array Value) (hw : ∀ d ∈ tables_1, d.before a0 Z = true) (q0 q1 q2 q3 : Int64) (p4 : Int32) (q5 : Int64) (h0 : Heap) (n0 : Nat) (Z0 : n0 ≤ h0.size) : own_Con tables_1 l Z x code maxLocals ret room_1 n0 #[(.long q0), (.long q1), (.long q2), (.long q3), (.int p4), (.long q5)] h0 own_Q0 := by
  refine own_body (plainFor_of_name (by first | (simp [plainName, overriddenIn]; done) | decide +kernel)) (fun m => mkF m 0 #[.val (.long q0), .second, .val (.long q1), .second, .val (.long q2), .second, .val (.long q3), .second, .val (.int p4), .val (.long q5), .second, .unset, .unset, .unset, .unset, .unset, .unset, .unset, .unset, .unset, .unset, .unset, .unset, .unset, .unset, .unset] []) (fun m => ef_0 m q0 q1 q2 q3 p4 q5) ?_
  intro p e s m below meth c s₁ hx hby hml hown hnm hZ hret hlk X0 e0 N0
  have hml : c.maxLocals = 26 := hml
  have hown : s.vm.findClass "com/example/linkwell/linkwell/cards/P256ScalarOfPinLaw" = some m.cls := hown
  have hret : meth.sig.returnType = some .boolean := hret
  refine own_go (T' := s₁) (g' := (mkF m 2 #[.val (.long q0), .second, .val (.long q1), .second, .val (.long q2), .second, .val (.long q3), .second, .val (.int p4), .val (.long q5), .second, .unset, .unset, .unset, .unset, .unset, .unset, .unset, .unset, .unset, .unset, .unset, .unset, .unset, .unset, .unset] [(.int (40 : Int32))])) (fun t k => ?_) ?_
  · show Steps p.tables e below (s₁.setTop (mkF m 0 #[.val (.long q0), .second, .val (.long q1), .second, .val (.long q2), .second, .val (.long q3), .second, .val (.int p4), .val (.long q5), .second, .unset, .unset, .unset, .unset, .unset, .unset, .unset, .unset, .unset, .unset, .unset, .unset, .unset, .unset, .unset] [])) t
    refine XS.bipush X0.here hx rfl (hb hby at_0) ?_
    show Steps p.tables e below (s₁.setTop (mkF m 2 #[.val (.long q0), .second, .val (.long q1), .second, .val (.long q2), .second, .val (.long q3), .second, .val (.int p4), .val (.long q5), .second, .unset, .unset, .unset, .unset, .unset, .unset, .unset, .unset, .unset, .unset, .unset, .unset, .unset, .unset, .unset] [(.int (40 : Int32))])) _
    exact k
  obtain ⟨T1, h1, k1, b1, g1, X1, e1, E1, A1, st1⟩ := own_new X0 hx hZ (hw _ (List.mem_of_getElem? (i := 0) rfl)) e0 (g := (mkF m 2 #[.val (.long q0), .second, .val (.long q1), .second, .val (.long q2), .second, .val (.long q3), .second, .val (.int p4), .val (.long q5), .second, .unset, .unset, .unset, .unset, .unset, .unset, .unset, .unset, .unset, .unset, .unset, .unset, .unset, .unset, .unset] [(.int (40 : Int32))])) rfl (hb hby at_2) rfl (by decide) (cap := 40) (by decide) (by decide) (by decide) (by decide)
  have ga_b1 : n0 ≤ b1 := Nat.le_trans Z0 (Nat.le_of_eq g1.symm)
  have sz_1 := Nat.le_trans Z0 E1.1
  have V_b1_1 : Arv Z h1 b1 k1 .byte (40 : Int32) [(.int (0 : Int32)), (.int (0 : Int32)), (.int (0 : Int32)), (.int (0 : Int32)), (.int (0 : Int32)), (.int (0 : Int32)), (.int (0 : Int32)), (.int (0 : Int32)), (.int (0 : Int32)), (.int (0 : Int32)), (.int (0 : Int32)), (.int (0 : Int32)), (.int (0 : Int32)), (.int (0 : Int32)), (.int (0 : Int32)), (.int (0 : Int32)), (.int (0 : Int32)), (.int (0 : Int32)), (.int (0 : Int32)), (.int (0 : Int32)), (.int (0 : Int32)), (.int (0 : Int32)), (.int (0 : Int32)), (.int (0 : Int32)), (.int (0 : Int32)), (.int (0 : Int32)), (.int (0 : Int32)), (.int (0 : Int32)), (.int (0 : Int32)), (.int (0 : Int32)), (.int (0 : Int32)), (.int (0 : Int32)), (.int (0 : Int32)), (.int (0 : Int32)), (.int (0 : Int32)), (.int (0 : Int32)), (.int (0 : Int32)), (.int (0 : Int32)), (.int (0 : Int32)), (.int (0 : Int32))] (.int (0 : Int32)) := A1.pad (pad_rep [] (.int (0 : Int32)) 40)
  refine own_go (T' := T1) (g' := (mkF m 4 #[.val (.long q0), .second, .val (.long q1), .second, .val (.long q2), .second, .val (.long q3), .second, .val (.int p4), .val (.long q5), .second, .unset, .unset, .unset, .unset, .unset, .unset, .unset, .unset, .unset, .unset, .unset, .unset, .unset, .unset, .unset] [(.ref b1)])) st1 ?_
  have V_0 : Arv Z h1 b1 k1 .byte (40 : Int32) (own_tab (fun _ => 0)) (.int 0) := V_b1_1
  refine own_go (T' := T1) (g' := (mkF m 11 #[.val (.long q0), .second, .val (.long q1), .second, .val (.long q2), .second, .val (.long q3), .second, .val (.int p4), .val (.long q5), .second, .val (.ref b1), .unset, .unset, .unset, .unset, .unset, .unset, .unset, .unset, .unset, .unset, .unset, .unset, .unset, .unset] [(.long q5), (.int (0 : Int32)), (.ref b1)])) (fun t k => ?_) ?_
  · show Steps p.tables e below (T1.setTop (mkF m 4 #[.val (.long q0), .second, .val (.long q1), .second, .val (.long q2), .second, .val (.long q3), .second, .val (.int p4), .val (.long q5), .second, .unset, .unset, .unset, .unset, .unset, .unset, .unset, .unset, .unset, .unset, .unset, .unset, .unset, .unset, .unset] [(.ref b1)])) t
    refine XS.astore X1.here hx rfl (hb hby at_4) rfl rfl (l' := #[.val (.long q0), .second, .val (.long q1), .second, .val (.long q2), .second, .val (.long q3), .second, .val (.int p4), .val (.long q5), .second, .val (.ref b1), .unset, .unset, .unset, .unset, .unset, .unset, .unset, .unset, .unset, .unset, .unset, .unset, .unset, .unset]) rfl ?_
    show Steps p.tables e below (T1.setTop (mkF m 6 #[.val (.long q0), .second, .val (.long q1), .second, .val (.long q2), .second, .val (.long q3), .second, .val (.int p4), .val (.long q5), .second, .val (.ref b1), .unset, .unset, .unset, .unset, .unset, .unset, .unset, .unset, .unset, .unset, .unset, .unset, .unset, .unset] [])) _
    refine XS.aload X1.here hx rfl (hb hby at_6) rfl rfl ?_
    show Steps p.tables e below (T1.setTop (mkF m 8 #[.val (.long q0), .second, .val (.long q1), .second, .val (.long q2), .second, .val (.long q3), .second, .val (.int p4), .val (.long q5), .second, .val (.ref b1), .unset, .unset, .unset, .unset, .unset, .unset, .unset, .unset, .unset, .unset, .unset, .unset, .unset, .unset] [(.ref b1)])) _
    refine XS.iconst X1.here hx rfl (hb hby at_8) ?_
    show Steps p.tables e below (T1.setTop (mkF m 9 #[.val (.long q0), .second, .val (.long q1), .second, .val (.long q2), .second, .val (.long q3), .second, .val (.int p4), .val (.long q5), .second, .val (.ref b1), .unset, .unset, .unset, .unset, .unset, .unset, .unset, .unset, .unset, .unset, .unset, .unset, .unset, .unset] [(.int (0 : Int32)), (.ref b1)])) _
    refine XS.lload X1.here hx rfl (hb hby at_9) rfl ?_
    show Steps p.tables e below (T1.setTop (mkF m 11 #[.val (.long q0), .second, .val (.long q1), .second, .val (.long q2), .second, .val (.long q3), .second, .val (.int p4), .val (.long q5), .second, .val (.ref b1), .unset, .unset, .unset, .unset, .unset, .unset, .unset, .unset, .unset, .unset, .unset, .unset, .unset, .unset] [(.long q5), (.int (0 : Int32)), (.ref b1)])) _
    exact k
  obtain ⟨_, T2, L2, X2, N2, ⟨rfl, K2, V2⟩, st2⟩ := own_callS X1 hx hZ hown (hw _ (List.mem_of_getElem? (i := 1) rfl)) (hw _ (List.mem_of_getElem? (i := 2) rfl)) (hw _ (List.mem_of_getElem? (i := 3) rfl)) (hw _ (List.mem_of_getElem? (i := 4) rfl)) (by decide) (argsL := [(.ref b1), (.int (0 : Int32)), (.long q5)]) (rest := []) (rm1 l Z a0 hw b1 (0 : Int32) q5 k1 (fun _ => 0) 0 h1 n0 sz_1 ga_b1 V_0 rfl (by omega)) (W := 0) (by decide) (by decide) (g := (mkF m 11 #[.val (.long q0), .second, .val (.long q1), .second, .val (.long q2), .second, .val (.long q3), .second, .val (.int p4), .val (.long q5), .second, .val (.ref b1), .unset, .unset, .unset, .unset, .unset, .unset, .unset, .unset, .unset, .unset, .unset, .unset, .unset, .unset] [(.long q5), (.int (0 : Int32)), (.ref b1)])) rfl (by rw [hml]; rfl) pd_0 rfl rfl (by show 2 * 0 + _ ≤ _; exact Nat.le_of_eq rfl) (hb hby at_11) e1 (by decide) (by decide) N0
  have sz_2 := Nat.le_trans sz_1 K2.1
  refine own_go (T' := T2) (g' := (mkF m 14 #[.val (.long q0), .second, .val (.long q1), .second, .val (.long q2), .second, .val (.long q3), .second, .val (.int p4), .val (.long q5), .second, .val (.ref b1), .unset, .unset, .unset, .unset, .unset, .unset, .unset, .unset, .unset, .unset, .unset, .unset, .unset, .unset] [])) st2 ?_
  refine own_go (T' := T2) (g' := (mkF m 24 #[.val (.long q0), .second, .val (.long q1), .second, .val (.long q2), .second, .val (.long q3), .second, .val (.int p4), .val (.long q5), .second, .val (.ref b1), .unset, .unset, .unset, .unset, .unset, .unset, .unset, .unset, .unset, .unset, .unset, .unset, .unset, .unset] [(.long (q5 ^^^ (-1 : Int64))), (.int (8 : Int32)), (.ref b1)])) (fun t k => ?_) ?_
  · show Steps p.tables e below (T2.setTop (mkF m 14 #[.val (.long q0), .second, .val (.long q1), .second, .val (.long q2), .second, .val (.long q3), .second, .val (.int p4), .val (.long q5), .second, .val (.ref b1), .unset, .unset, .unset, .unset, .unset, .unset, .unset, .unset, .unset, .unset, .unset, .unset, .unset, .unset] [])) t
    refine XS.aload X2.here hx rfl (hb hby at_14) rfl rfl ?_
    show Steps p.tables e below (T2.setTop (mkF m 16 #[.val (.long q0), .second, .val (.long q1), .second, .val (.long q2), .second, .val (.long q3), .second, .val (.int p4), .val (.long q5), .second, .val (.ref b1), .unset, .unset, .unset, .unset, .unset, .unset, .unset, .unset, .unset, .unset, .unset, .unset, .unset, .unset] [(.ref b1)])) _
    refine XS.bipush X2.here hx rfl (hb hby at_16) ?_
    show Steps p.tables e below (T2.setTop (mkF m 18 #[.val (.long q0), .second, .val (.long q1), .second, .val (.long q2), .second, .val (.long q3), .second, .val (.int p4), .val (.long q5), .second, .val (.ref b1), .unset, .unset, .unset, .unset, .unset, .unset, .unset, .unset, .unset, .unset, .unset, .unset, .unset, .unset] [(.int (8 : Int32)), (.ref b1)])) _
    refine XS.lload X2.here hx rfl (hb hby at_18) rfl ?_
    show Steps p.tables e below (T2.setTop (mkF m 20 #[.val (.long q0), .second, .val (.long q1), .second, .val (.long q2), .second, .val (.long q3), .second, .val (.int p4), .val (.long q5), .second, .val (.ref b1), .unset, .unset, .unset, .unset, .unset, .unset, .unset, .unset, .unset, .unset, .unset, .unset, .unset, .unset] [(.long q5), (.int (8 : Int32)), (.ref b1)])) _
    refine X2.ldc2Long hx hown (mvT hZ (hw _ (List.mem_of_getElem? (i := 5) rfl))) (g := (mkF m 20 #[.val (.long q0), .second, .val (.long q1), .second, .val (.long q2), .second, .val (.long q3), .second, .val (.int p4), .val (.long q5), .second, .val (.ref b1), .unset, .unset, .unset, .unset, .unset, .unset, .unset, .unset, .unset, .unset, .unset, .unset, .unset, .unset] [(.long q5), (.int (8 : Int32)), (.ref b1)])) rfl (hb hby at_20) _ ?_
    show Steps p.tables e below (T2.setTop (mkF m 23 #[.val (.long q0), .second, .val (.long q1), .second, .val (.long q2), .second, .val (.long q3), .second, .val (.int p4), .val (.long q5), .second, .val (.ref b1), .unset, .unset, .unset, .unset, .unset, .unset, .unset, .unset, .unset, .unset, .unset, .unset, .unset, .unset] [(.long (-1 : Int64)), (.long q5), (.int (8 : Int32)), (.ref b1)])) _
    refine XS.lxor X2.here hx rfl (hb hby at_23) rfl ?_
    show Steps p.tables e below (T2.setTop (mkF m 24 #[.val (.long q0), .second, .val (.long q1), .second, .val (.long q2), .second, .val (.long q3), .second, .val (.int p4), .val (.long q5), .second, .val (.ref b1), .unset, .unset, .unset, .unset, .unset, .unset, .unset, .unset, .unset, .unset, .unset, .unset, .unset, .unset] [(.long (q5 ^^^ (-1 : Int64))), (.int (8 : Int32)), (.ref b1)])) _
    exact k
  obtain ⟨_, T3, L3, X3, N3, ⟨rfl, K3, V3⟩, st3⟩ := own_callS X2 hx hZ hown (hw _ (List.mem_of_getElem? (i := 1) rfl)) (hw _ (List.mem_of_getElem? (i := 2) rfl)) (hw _ (List.mem_of_getElem? (i := 3) rfl)) (hw _ (List.mem_of_getElem? (i := 4) rfl)) (by decide) (argsL := [(.ref b1), (.int (8 : Int32)), (.long (q5 ^^^ (-1 : Int64)))]) (rest := []) (rm1 l Z a0 hw b1 (8 : Int32) (q5 ^^^ (-1 : Int64)) k1 (own_put (fun _ => 0) 0 q5) 8 T2.heap n0 sz_2 ga_b1 V2 rfl (by omega)) (W := 0) (by decide) (by decide) (g := (mkF m 24 #[.val (.long q0), .second, .val (.long q1), .second, .val (.long q2), .second, .val (.long q3), .second, .val (.int p4), .val (.long q5), .second, .val (.ref b1), .unset, .unset, .unset, .unset, .unset, .unset, .unset, .unset, .unset, .unset, .unset, .unset, .unset, .unset] [(.long (q5 ^^^ (-1 : Int64))), (.int (8 : Int32)), (.ref b1)])) rfl (by rw [hml]; rfl) pd_0 rfl rfl (by show 2 * 0 + _ ≤ _; exact Nat.le_of_eq rfl) (hb hby at_24) rfl (by decide) (by decide) N2
  have sz_3 := Nat.le_trans sz_2 K3.1
  refine own_go (T' := T3) (g' := (mkF m 27 #[.val (.long q0), .second, .val (.long q1), .second, .val (.long q2), .second, .val (.long q3), .second, .val (.int p4), .val (.long q5), .second, .val (.ref b1), .unset, .unset, .unset, .unset, .unset, .unset, .unset, .unset, .unset, .unset, .unset, .unset, .unset, .unset] [])) st3 ?_
  refine own_go (T' := T3) (g' := (mkF m 33 #[.val (.long q0), .second, .val (.long q1), .second, .val (.long q2), .second, .val (.long q3), .second, .val (.int p4), .val (.long q5), .second, .val (.ref b1), .unset, .unset, .unset, .unset, .unset, .unset, .unset, .unset, .unset, .unset, .unset, .unset, .unset, .unset] [(.long q5), (.int (16 : Int32)), (.ref b1)])) (fun t k => ?_) ?_
  · show Steps p.tables e below (T3.setTop (mkF m 27 #[.val (.long q0), .second, .val (.long q1), .second, .val (.long q2), .second, .val (.long q3), .second, .val (.int p4), .val (.long q5), .second, .val (.ref b1), .unset, .unset, .unset, .unset, .unset, .unset, .unset, .unset, .unset, .unset, .unset, .unset, .unset, .unset] [])) t
    refine XS.aload X3.here hx rfl (hb hby at_27) rfl rfl ?_
    show Steps p.tables e below (T3.setTop (mkF m 29 #[.val (.long q0), .second, .val (.long q1), .second, .val (.long q2), .second, .val (.long q3), .second, .val (.int p4), .val (.long q5), .second, .val (.ref b1), .unset, .unset, .unset, .unset, .unset, .unset, .unset, .unset, .unset, .unset, .unset, .unset, .unset, .unset] [(.ref b1)])) _
    refine XS.bipush X3.here hx rfl (hb hby at_29) ?_
    show Steps p.tables e below (T3.setTop (mkF m 31 #[.val (.long q0), .second, .val (.long q1), .second, .val (.long q2), .second, .val (.long q3), .second, .val (.int p4), .val (.long q5), .second, .val (.ref b1), .unset, .unset, .unset, .unset, .unset, .unset, .unset, .unset, .unset, .unset, .unset, .unset, .unset, .unset] [(.int (16 : Int32)), (.ref b1)])) _
    refine XS.lload X3.here hx rfl (hb hby at_31) rfl ?_
    show Steps p.tables e below (T3.setTop (mkF m 33 #[.val (.long q0), .second, .val (.long q1), .second, .val (.long q2), .second, .val (.long q3), .second, .val (.int p4), .val (.long q5), .second, .val (.ref b1), .unset, .unset, .unset, .unset, .unset, .unset, .unset, .unset, .unset, .unset, .unset, .unset, .unset, .unset] [(.long q5), (.int (16 : Int32)), (.ref b1)])) _
    exact k
  obtain ⟨_, T4, L4, X4, N4, ⟨rfl, K4, V4⟩, st4⟩ := own_callS X3 hx hZ hown (hw _ (List.mem_of_getElem? (i := 1) rfl)) (hw _ (List.mem_of_getElem? (i := 2) rfl)) (hw _ (List.mem_of_getElem? (i := 3) rfl)) (hw _ (List.mem_of_getElem? (i := 4) rfl)) (by decide) (argsL := [(.ref b1), (.int (16 : Int32)), (.long q5)]) (rest := []) (rm1 l Z a0 hw b1 (16 : Int32) q5 k1 (own_put (own_put (fun _ => 0) 0 q5) 8 (q5 ^^^ (-1 : Int64))) 16 T3.heap n0 sz_3 ga_b1 V3 rfl (by omega)) (W := 0) (by decide) (by decide) (g := (mkF m 33 #[.val (.long q0), .second, .val (.long q1), .second, .val (.long q2), .second, .val (.long q3), .second, .val (.int p4), .val (.long q5), .second, .val (.ref b1), .unset, .unset, .unset, .unset, .unset, .unset, .unset, .unset, .unset, .unset, .unset, .unset, .unset, .unset] [(.long q5), (.int (16 : Int32)), (.ref b1)])) rfl (by rw [hml]; rfl) pd_0 rfl rfl (by show 2 * 0 + _ ≤ _; exact Nat.le_of_eq rfl) (hb hby at_33) rfl (by decide) (by decide) N3
  have sz_4 := Nat.le_trans sz_3 K4.1
  refine own_go (T' := T4) (g' := (mkF m 36 #[.val (.long q0), .second, .val (.long q1), .second, .val (.long q2), .second, .val (.long q3), .second, .val (.int p4), .val (.long q5), .second, .val (.ref b1), .unset, .unset, .unset, .unset, .unset, .unset, .unset, .unset, .unset, .unset, .unset, .unset, .unset, .unset] [])) st4 ?_
  refine own_go (T' := T4) (g' := (mkF m 46 #[.val (.long q0), .second, .val (.long q1), .second, .val (.long q2), .second, .val (.long q3), .second, .val (.int p4), .val (.long q5), .second, .val (.ref b1), .unset, .unset, .unset, .unset, .unset, .unset, .unset, .unset, .unset, .unset, .unset, .unset, .unset, .unset] [(.long (q5 ^^^ (-1 : Int64))), (.int (24 : Int32)), (.ref b1)])) (fun t k => ?_) ?_
  · show Steps p.tables e below (T4.setTop (mkF m 36 #[.val (.long q0), .second, .val (.long q1), .second, .val (.long q2), .second, .val (.long q3), .second, .val (.int p4), .val (.long q5), .second, .val (.ref b1), .unset, .unset, .unset, .unset, .unset, .unset, .unset, .unset, .unset, .unset, .unset, .unset, .unset, .unset] [])) t
    refine XS.aload X4.here hx rfl (hb hby at_36) rfl rfl ?_
    show Steps p.tables e below (T4.setTop (mkF m 38 #[.val (.long q0), .second, .val (.long q1), .second, .val (.long q2), .second, .val (.long q3), .second, .val (.int p4), .val (.long q5), .second, .val (.ref b1), .unset, .unset, .unset, .unset, .unset, .unset, .unset, .unset, .unset, .unset, .unset, .unset, .unset, .unset] [(.ref b1)])) _
    refine XS.bipush X4.here hx rfl (hb hby at_38) ?_
    show Steps p.tables e below (T4.setTop (mkF m 40 #[.val (.long q0), .second, .val (.long q1), .second, .val (.long q2), .second, .val (.long q3), .second, .val (.int p4), .val (.long q5), .second, .val (.ref b1), .unset, .unset, .unset, .unset, .unset, .unset, .unset, .unset, .unset, .unset, .unset, .unset, .unset, .unset] [(.int (24 : Int32)), (.ref b1)])) _
    refine XS.lload X4.here hx rfl (hb hby at_40) rfl ?_
    show Steps p.tables e below (T4.setTop (mkF m 42 #[.val (.long q0), .second, .val (.long q1), .second, .val (.long q2), .second, .val (.long q3), .second, .val (.int p4), .val (.long q5), .second, .val (.ref b1), .unset, .unset, .unset, .unset, .unset, .unset, .unset, .unset, .unset, .unset, .unset, .unset, .unset, .unset] [(.long q5), (.int (24 : Int32)), (.ref b1)])) _
    refine X4.ldc2Long hx hown (mvT hZ (hw _ (List.mem_of_getElem? (i := 5) rfl))) (g := (mkF m 42 #[.val (.long q0), .second, .val (.long q1), .second, .val (.long q2), .second, .val (.long q3), .second, .val (.int p4), .val (.long q5), .second, .val (.ref b1), .unset, .unset, .unset, .unset, .unset, .unset, .unset, .unset, .unset, .unset, .unset, .unset, .unset, .unset] [(.long q5), (.int (24 : Int32)), (.ref b1)])) rfl (hb hby at_42) _ ?_
    show Steps p.tables e below (T4.setTop (mkF m 45 #[.val (.long q0), .second, .val (.long q1), .second, .val (.long q2), .second, .val (.long q3), .second, .val (.int p4), .val (.long q5), .second, .val (.ref b1), .unset, .unset, .unset, .unset, .unset, .unset, .unset, .unset, .unset, .unset, .unset, .unset, .unset, .unset] [(.long (-1 : Int64)), (.long q5), (.int (24 : Int32)), (.ref b1)])) _
    refine XS.lxor X4.here hx rfl (hb hby at_45) rfl ?_
    show Steps p.tables e below (T4.setTop (mkF m 46 #[.val (.long q0), .second, .val (.long q1), .second, .val (.long q2), .second, .val (.long q3), .second, .val (.int p4), .val (.long q5), .second, .val (.ref b1), .unset, .unset, .unset, .unset, .unset, .unset, .unset, .unset, .unset, .unset, .unset, .unset, .unset, .unset] [(.long (q5 ^^^ (-1 : Int64))), (.int (24 : Int32)), (.ref b1)])) _
    exact k
  obtain ⟨_, T5, L5, X5, N5, ⟨rfl, K5, V5⟩, st5⟩ := own_callS X4 hx hZ hown (hw _ (List.mem_of_getElem? (i := 1) rfl)) (hw _ (List.mem_of_getElem? (i := 2) rfl)) (hw _ (List.mem_of_getElem? (i := 3) rfl)) (hw _ (List.mem_of_getElem? (i := 4) rfl)) (by decide) (argsL := [(.ref b1), (.int (24 : Int32)), (.long (q5 ^^^ (-1 : Int64)))]) (rest := []) (rm1 l Z a0 hw b1 (24 : Int32) (q5 ^^^ (-1 : Int64)) k1 (own_put (own_put (own_put (fun _ => 0) 0 q5) 8 (q5 ^^^ (-1 : Int64))) 16 q5) 24 T4.heap n0 sz_4 ga_b1 V4 rfl (by omega)) (W := 0) (by decide) (by decide) (g := (mkF m 46 #[.val (.long q0), .second, .val (.long q1), .second, .val (.long q2), .second, .val (.long q3), .second, .val (.int p4), .val (.long q5), .second, .val (.ref b1), .unset, .unset, .unset, .unset, .unset, .unset, .unset, .unset, .unset, .unset, .unset, .unset, .unset, .unset] [(.long (q5 ^^^ (-1 : Int64))), (.int (24 : Int32)), (.ref b1)])) rfl (by rw [hml]; rfl) pd_0 rfl rfl (by show 2 * 0 + _ ≤ _; exact Nat.le_of_eq rfl) (hb hby at_46) rfl (by decide) (by decide) N4
  have sz_5 := Nat.le_trans sz_4 K5.1
  refine own_go (T' := T5) (g' := (mkF m 49 #[.val (.long q0), .second, .val (.long q1), .second, .val (.long q2), .second, .val (.long q3), .second, .val (.int p4), .val (.long q5), .second, .val (.ref b1), .unset, .unset, .unset, .unset, .unset, .unset, .unset, .unset, .unset, .unset, .unset, .unset, .unset, .unset] [])) st5 ?_
  refine own_go (T' := T5) (g' := (mkF m 55 #[.val (.long q0), .second, .val (.long q1), .second, .val (.long q2), .second, .val (.long q3), .second, .val (.int p4), .val (.long q5), .second, .val (.ref b1), .unset, .unset, .unset, .unset, .unset, .unset, .unset, .unset, .unset, .unset, .unset, .unset, .unset, .unset] [(.long q5), (.int (32 : Int32)), (.ref b1)])) (fun t k => ?_) ?_
  · show Steps p.tables e below (T5.setTop (mkF m 49 #[.val (.long q0), .second, .val (.long q1), .second, .val (.long q2), .second, .val (.long q3), .second, .val (.int p4), .val (.long q5), .second, .val (.ref b1), .unset, .unset, .unset, .unset, .unset, .unset, .unset, .unset, .unset, .unset, .unset, .unset, .unset, .unset] [])) t
    refine XS.aload X5.here hx rfl (hb hby at_49) rfl rfl ?_
    show Steps p.tables e below (T5.setTop (mkF m 51 #[.val (.long q0), .second, .val (.long q1), .second, .val (.long q2), .second, .val (.long q3), .second, .val (.int p4), .val (.long q5), .second, .val (.ref b1), .unset, .unset, .unset, .unset, .unset, .unset, .unset, .unset, .unset, .unset, .unset, .unset, .unset, .unset] [(.ref b1)])) _
    refine XS.bipush X5.here hx rfl (hb hby at_51) ?_
    show Steps p.tables e below (T5.setTop (mkF m 53 #[.val (.long q0), .second, .val (.long q1), .second, .val (.long q2), .second, .val (.long q3), .second, .val (.int p4), .val (.long q5), .second, .val (.ref b1), .unset, .unset, .unset, .unset, .unset, .unset, .unset, .unset, .unset, .unset, .unset, .unset, .unset, .unset] [(.int (32 : Int32)), (.ref b1)])) _
    refine XS.lload X5.here hx rfl (hb hby at_53) rfl ?_
    show Steps p.tables e below (T5.setTop (mkF m 55 #[.val (.long q0), .second, .val (.long q1), .second, .val (.long q2), .second, .val (.long q3), .second, .val (.int p4), .val (.long q5), .second, .val (.ref b1), .unset, .unset, .unset, .unset, .unset, .unset, .unset, .unset, .unset, .unset, .unset, .unset, .unset, .unset] [(.long q5), (.int (32 : Int32)), (.ref b1)])) _
    exact k
  obtain ⟨_, T6, L6, X6, N6, ⟨rfl, K6, V6⟩, st6⟩ := own_callS X5 hx hZ hown (hw _ (List.mem_of_getElem? (i := 1) rfl)) (hw _ (List.mem_of_getElem? (i := 2) rfl)) (hw _ (List.mem_of_getElem? (i := 3) rfl)) (hw _ (List.mem_of_getElem? (i := 4) rfl)) (by decide) (argsL := [(.ref b1), (.int (32 : Int32)), (.long q5)]) (rest := []) (rm1 l Z a0 hw b1 (32 : Int32) q5 k1 (own_put (own_put (own_put (own_put (fun _ => 0) 0 q5) 8 (q5 ^^^ (-1 : Int64))) 16 q5) 24 (q5 ^^^ (-1 : Int64))) 32 T5.heap n0 sz_5 ga_b1 V5 rfl (by omega)) (W := 0) (by decide) (by decide) (g := (mkF m 55 #[.val (.long q0), .second, .val (.long q1), .second, .val (.long q2), .second, .val (.long q3), .second, .val (.int p4), .val (.long q5), .second, .val (.ref b1), .unset, .unset, .unset, .unset, .unset, .unset, .unset, .unset, .unset, .unset, .unset, .unset, .unset, .unset] [(.long q5), (.int (32 : Int32)), (.ref b1)])) rfl (by rw [hml]; rfl) pd_0 rfl rfl (by show 2 * 0 + _ ≤ _; exact Nat.le_of_eq rfl) (hb hby at_55) rfl (by decide) (by decide) N5
  have sz_6 := Nat.le_trans sz_5 K6.1
  refine own_go (T' := T6) (g' := (mkF m 58 #[.val (.long q0), .second, .val (.long q1), .second, .val (.long q2), .second, .val (.long q3), .second, .val (.int p4), .val (.long q5), .second, .val (.ref b1), .unset, .unset, .unset, .unset, .unset, .unset, .unset, .unset, .unset, .unset, .unset, .unset, .unset, .unset] [])) st6 ?_
  refine own_go (T' := T6) (g' := (mkF m 65 #[.val (.long q0), .second, .val (.long q1), .second, .val (.long q2), .second, .val (.long q3), .second, .val (.int p4), .val (.long q5), .second, .val (.ref b1), .val (.int (p4 &&& (7 : Int32))), .unset, .unset, .unset, .unset, .unset, .unset, .unset, .unset, .unset, .unset, .unset, .unset, .unset] [])) (fun t k => ?_) ?_
  · show Steps p.tables e below (T6.setTop (mkF m 58 #[.val (.long q0), .second, .val (.long q1), .second, .val (.long q2), .second, .val (.long q3), .second, .val (.int p4), .val (.long q5), .second, .val (.ref b1), .unset, .unset, .unset, .unset, .unset, .unset, .unset, .unset, .unset, .unset, .unset, .unset, .unset, .unset] [])) t
    refine XS.iload X6.here hx rfl (hb hby at_58) rfl ?_
    show Steps p.tables e below (T6.setTop (mkF m 60 #[.val (.long q0), .second, .val (.long q1), .second, .val (.long q2), .second, .val (.long q3), .second, .val (.int p4), .val (.long q5), .second, .val (.ref b1), .unset, .unset, .unset, .unset, .unset, .unset, .unset, .unset, .unset, .unset, .unset, .unset, .unset, .unset] [(.int p4)])) _
    refine XS.bipush X6.here hx rfl (hb hby at_60) ?_
    show Steps p.tables e below (T6.setTop (mkF m 62 #[.val (.long q0), .second, .val (.long q1), .second, .val (.long q2), .second, .val (.long q3), .second, .val (.int p4), .val (.long q5), .second, .val (.ref b1), .unset, .unset, .unset, .unset, .unset, .unset, .unset, .unset, .unset, .unset, .unset, .unset, .unset, .unset] [(.int (7 : Int32)), (.int p4)])) _
    refine XS.iand X6.here hx rfl (hb hby at_62) rfl ?_
    show Steps p.tables e below (T6.setTop (mkF m 63 #[.val (.long q0), .second, .val (.long q1), .second, .val (.long q2), .second, .val (.long q3), .second, .val (.int p4), .val (.long q5), .second, .val (.ref b1), .unset, .unset, .unset, .unset, .unset, .unset, .unset, .unset, .unset, .unset, .unset, .unset, .unset, .unset] [(.int (p4 &&& (7 : Int32)))])) _
    refine XS.istore X6.here hx rfl (hb hby at_63) rfl (l' := #[.val (.long q0), .second, .val (.long q1), .second, .val (.long q2), .second, .val (.long q3), .second, .val (.int p4), .val (.long q5), .second, .val (.ref b1), .val (.int (p4 &&& (7 : Int32))), .unset, .unset, .unset, .unset, .unset, .unset, .unset, .unset, .unset, .unset, .unset, .unset, .unset]) rfl ?_
    show Steps p.tables e below (T6.setTop (mkF m 65 #[.val (.long q0), .second, .val (.long q1), .second, .val (.long q2), .second, .val (.long q3), .second, .val (.int p4), .val (.long q5), .second, .val (.ref b1), .val (.int (p4 &&& (7 : Int32))), .unset, .unset, .unset, .unset, .unset, .unset, .unset, .unset, .unset, .unset, .unset, .unset, .unset] [])) _
    exact k
  obtain ⟨g0, hg0⟩ : ∃ g, g = (own_put (own_put (own_put (own_put (own_put (fun _ => 0) 0 q5) 8 (q5 ^^^ (-1 : Int64))) 16 q5) 24 (q5 ^^^ (-1 : Int64))) 32 q5) := ⟨_, rfl⟩
  rw [← hg0] at V6
  obtain ⟨ov, h_ov⟩ : ∃ z : Int32, z = (p4 &&& (7 : Int32)) := ⟨_, rfl⟩
  rw [← h_ov]
  obtain ⟨oN, hov, h7⟩ := own_o p4 ov h_ov
  subst hov
  refine own_go (T' := T6) (g' := (mkF m 71 #[.val (.long q0), .second, .val (.long q1), .second, .val (.long q2), .second, .val (.long q3), .second, .val (.int p4), .val (.long q5), .second, .val (.ref b1), .val (.int (Int32.ofNat oN)), .unset, .unset, .unset, .unset, .unset, .unset, .unset, .unset, .unset, .unset, .unset, .unset, .unset] [(.long q3), (.int (Int32.ofNat oN)), (.ref b1)])) (fun t k => ?_) ?_
  · show Steps p.tables e below (T6.setTop (mkF m 65 #[.val (.long q0), .second, .val (.long q1), .second, .val (.long q2), .second, .val (.long q3), .second, .val (.int p4), .val (.long q5), .second, .val (.ref b1), .val (.int (Int32.ofNat oN)), .unset, .unset, .unset, .unset, .unset, .unset, .unset, .unset, .unset, .unset, .unset, .unset, .unset] [])) t
    refine XS.aload X6.here hx rfl (hb hby at_65) rfl rfl ?_
    show Steps p.tables e below (T6.setTop (mkF m 67 #[.val (.long q0), .second, .val (.long q1), .second, .val (.long q2), .second, .val (.long q3), .second, .val (.int p4), .val (.long q5), .second, .val (.ref b1), .val (.int (Int32.ofNat oN)), .unset, .unset, .unset, .unset, .unset, .unset, .unset, .unset, .unset, .unset, .unset, .unset, .unset] [(.ref b1)])) _
    refine XS.iload X6.here hx rfl (hb hby at_67) rfl ?_
    show Steps p.tables e below (T6.setTop (mkF m 69 #[.val (.long q0), .second, .val (.long q1), .second, .val (.long q2), .second, .val (.long q3), .second, .val (.int p4), .val (.long q5), .second, .val (.ref b1), .val (.int (Int32.ofNat oN)), .unset, .unset, .unset, .unset, .unset, .unset, .unset, .unset, .unset, .unset, .unset, .unset, .unset] [(.int (Int32.ofNat oN)), (.ref b1)])) _
    refine XS.lload X6.here hx rfl (hb hby at_69) rfl ?_
    show Steps p.tables e below (T6.setTop (mkF m 71 #[.val (.long q0), .second, .val (.long q1), .second, .val (.long q2), .second, .val (.long q3), .second, .val (.int p4), .val (.long q5), .second, .val (.ref b1), .val (.int (Int32.ofNat oN)), .unset, .unset, .unset, .unset, .unset, .unset, .unset, .unset, .unset, .unset, .unset, .unset, .unset] [(.long q3), (.int (Int32.ofNat oN)), (.ref b1)])) _
    exact k
  obtain ⟨_, T7, L7, X7, N7, ⟨rfl, K7, V7⟩, st7⟩ := own_callS X6 hx hZ hown (hw _ (List.mem_of_getElem? (i := 1) rfl)) (hw _ (List.mem_of_getElem? (i := 2) rfl)) (hw _ (List.mem_of_getElem? (i := 3) rfl)) (hw _ (List.mem_of_getElem? (i := 4) rfl)) (by decide) (argsL := [(.ref b1), (.int (Int32.ofNat oN)), (.long q3)]) (rest := []) (rm1 l Z a0 hw b1 (Int32.ofNat oN) q3 k1 g0 oN T6.heap n0 sz_6 ga_b1 V6 rfl (by omega)) (W := 0) (by decide) (by decide) (g := (mkF m 71 #[.val (.long q0), .second, .val (.long q1), .second, .val (.long q2), .second, .val (.long q3), .second, .val (.int p4), .val (.long q5), .second, .val (.ref b1), .val (.int (Int32.ofNat oN)), .unset, .unset, .unset, .unset, .unset, .unset, .unset, .unset, .unset, .unset, .unset, .unset, .unset] [(.long q3), (.int (Int32.ofNat oN)), (.ref b1)])) rfl (by rw [hml]; rfl) pd_0 rfl rfl (by show 2 * 0 + _ ≤ _; exact Nat.le_of_eq rfl) (hb hby at_71) rfl (by decide) (by decide) N6
  have sz_7 := Nat.le_trans sz_6 K7.1
  refine own_go (T' := T7) (g' := (mkF m 74 #[.val (.long q0), .second, .val (.long q1), .second, .val (.long q2), .second, .val (.long q3), .second, .val (.int p4), .val (.long q5), .second, .val (.ref b1), .val (.int (Int32.ofNat oN)), .unset, .unset, .unset, .unset, .unset, .unset, .unset, .unset, .unset, .unset, .unset, .unset, .unset] [])) st7 ?_
  refine own_go (T' := T7) (g' := (mkF m 83 #[.val (.long q0), .second, .val (.long q1), .second, .val (.long q2), .second, .val (.long q3), .second, .val (.int p4), .val (.long q5), .second, .val (.ref b1), .val (.int (Int32.ofNat oN)), .unset, .unset, .unset, .unset, .unset, .unset, .unset, .unset, .unset, .unset, .unset, .unset, .unset] [(.long q2), (.int ((Int32.ofNat oN) + (8 : Int32))), (.ref b1)])) (fun t k => ?_) ?_
  · show Steps p.tables e below (T7.setTop (mkF m 74 #[.val (.long q0), .second, .val (.long q1), .second, .val (.long q2), .second, .val (.long q3), .second, .val (.int p4), .val (.long q5), .second, .val (.ref b1), .val (.int (Int32.ofNat oN)), .unset, .unset, .unset, .unset, .unset, .unset, .unset, .unset, .unset, .unset, .unset, .unset, .unset] [])) t
    refine XS.aload X7.here hx rfl (hb hby at_74) rfl rfl ?_
    show Steps p.tables e below (T7.setTop (mkF m 76 #[.val (.long q0), .second, .val (.long q1), .second, .val (.long q2), .second, .val (.long q3), .second, .val (.int p4), .val (.long q5), .second, .val (.ref b1), .val (.int (Int32.ofNat oN)), .unset, .unset, .unset, .unset, .unset, .unset, .unset, .unset, .unset, .unset, .unset, .unset, .unset] [(.ref b1)])) _
    refine XS.iload X7.here hx rfl (hb hby at_76) rfl ?_
    show Steps p.tables e below (T7.setTop (mkF m 78 #[.val (.long q0), .second, .val (.long q1), .second, .val (.long q2), .second, .val (.long q3), .second, .val (.int p4), .val (.long q5), .second, .val (.ref b1), .val (.int (Int32.ofNat oN)), .unset, .unset, .unset, .unset, .unset, .unset, .unset, .unset, .unset, .unset, .unset, .unset, .unset] [(.int (Int32.ofNat oN)), (.ref b1)])) _
    refine XS.bipush X7.here hx rfl (hb hby at_78) ?_
    show Steps p.tables e below (T7.setTop (mkF m 80 #[.val (.long q0), .second, .val (.long q1), .second, .val (.long q2), .second, .val (.long q3), .second, .val (.int p4), .val (.long q5), .second, .val (.ref b1), .val (.int (Int32.ofNat oN)), .unset, .unset, .unset, .unset, .unset, .unset, .unset, .unset, .unset, .unset, .unset, .unset, .unset] [(.int (8 : Int32)), (.int (Int32.ofNat oN)), (.ref b1)])) _
    refine XS.iadd X7.here hx rfl (hb hby at_80) rfl ?_
    show Steps p.tables e below (T7.setTop (mkF m 81 #[.val (.long q0), .second, .val (.long q1), .second, .val (.long q2), .second, .val (.long q3), .second, .val (.int p4), .val (.long q5), .second, .val (.ref b1), .val (.int (Int32.ofNat oN)), .unset, .unset, .unset, .unset, .unset, .unset, .unset, .unset, .unset, .unset, .unset, .unset, .unset] [(.int ((Int32.ofNat oN) + (8 : Int32))), (.ref b1)])) _
    refine XS.lload X7.here hx rfl (hb hby at_81) rfl ?_
    show Steps p.tables e below (T7.setTop (mkF m 83 #[.val (.long q0), .second, .val (.long q1), .second, .val (.long q2), .second, .val (.long q3), .second, .val (.int p4), .val (.long q5), .second, .val (.ref b1), .val (.int (Int32.ofNat oN)), .unset, .unset, .unset, .unset, .unset, .unset, .unset, .unset, .unset, .unset, .unset, .unset, .unset] [(.long q2), (.int ((Int32.ofNat oN) + (8 : Int32))), (.ref b1)])) _
    exact k
  obtain ⟨_, T8, L8, X8, N8, ⟨rfl, K8, V8⟩, st8⟩ := own_callS X7 hx hZ hown (hw _ (List.mem_of_getElem? (i := 1) rfl)) (hw _ (List.mem_of_getElem? (i := 2) rfl)) (hw _ (List.mem_of_getElem? (i := 3) rfl)) (hw _ (List.mem_of_getElem? (i := 4) rfl)) (by decide) (argsL := [(.ref b1), (.int ((Int32.ofNat oN) + (8 : Int32))), (.long q2)]) (rest := []) (rm1 l Z a0 hw b1 ((Int32.ofNat oN) + (8 : Int32)) q2 k1 (own_put g0 oN q3) (oN + 8) T7.heap n0 sz_7 ga_b1 V7 (own_addN oN 8) (by omega)) (W := 0) (by decide) (by decide) (g := (mkF m 83 #[.val (.long q0), .second, .val (.long q1), .second, .val (.long q2), .second, .val (.long q3), .second, .val (.int p4), .val (.long q5), .second, .val (.ref b1), .val (.int (Int32.ofNat oN)), .unset, .unset, .unset, .unset, .unset, .unset, .unset, .unset, .unset, .unset, .unset, .unset, .unset] [(.long q2), (.int ((Int32.ofNat oN) + (8 : Int32))), (.ref b1)])) rfl (by rw [hml]; rfl) pd_0 rfl rfl (by show 2 * 0 + _ ≤ _; exact Nat.le_of_eq rfl) (hb hby at_83) rfl (by decide) (by decide) N7
  have sz_8 := Nat.le_trans sz_7 K8.1
  refine own_go (T' := T8) (g' := (mkF m 86 #[.val (.long q0), .second, .val (.long q1), .second, .val (.long q2), .second, .val (.long q3), .second, .val (.int p4), .val (.long q5), .second, .val (.ref b1), .val (.int (Int32.ofNat oN)), .unset, .unset, .unset, .unset, .unset, .unset, .unset, .unset, .unset, .unset, .unset, .unset, .unset] [])) st8 ?_
  refine own_go (T' := T8) (g' := (mkF m 94 #[.val (.long q0), .second, .val (.long q1), .second, .val (.long q2), .second, .val (.long q3), .second, .val (.int p4), .val (.long q5), .second, .val (.ref b1), .val (.int (Int32.ofNat oN)), .unset, .unset, .unset, .unset, .unset, .unset, .unset, .unset, .unset, .unset, .unset, .unset, .unset] [(.long q1), (.int ((Int32.ofNat oN) + (16 : Int32))), (.ref b1)])) (fun t k => ?_) ?_
  · show Steps p.tables e below (T8.setTop (mkF m 86 #[.val (.long q0), .second, .val (.long q1), .second, .val (.long q2), .second, .val (.long q3), .second, .val (.int p4), .val (.long q5), .second, .val (.ref b1), .val (.int (Int32.ofNat oN)), .unset, .unset, .unset, .unset, .unset, .unset, .unset, .unset, .unset, .unset, .unset, .unset, .unset] [])) t
    refine XS.aload X8.here hx rfl (hb hby at_86) rfl rfl ?_
    show Steps p.tables e below (T8.setTop (mkF m 88 #[.val (.long q0), .second, .val (.long q1), .second, .val (.long q2), .second, .val (.long q3), .second, .val (.int p4), .val (.long q5), .second, .val (.ref b1), .val (.int (Int32.ofNat oN)), .unset, .unset, .unset, .unset, .unset, .unset, .unset, .unset, .unset, .unset, .unset, .unset, .unset] [(.ref b1)])) _
    refine XS.iload X8.here hx rfl (hb hby at_88) rfl ?_
    show Steps p.tables e below (T8.setTop (mkF m 90 #[.val (.long q0), .second, .val (.long q1), .second, .val (.long q2), .second, .val (.long q3), .second, .val (.int p4), .val (.long q5), .second, .val (.ref b1), .val (.int (Int32.ofNat oN)), .unset, .unset, .unset, .unset, .unset, .unset, .unset, .unset, .unset, .unset, .unset, .unset, .unset] [(.int (Int32.ofNat oN)), (.ref b1)])) _
    refine XS.bipush X8.here hx rfl (hb hby at_90) ?_
    show Steps p.tables e below (T8.setTop (mkF m 92 #[.val (.long q0), .second, .val (.long q1), .second, .val (.long q2), .second, .val (.long q3), .second, .val (.int p4), .val (.long q5), .second, .val (.ref b1), .val (.int (Int32.ofNat oN)), .unset, .unset, .unset, .unset, .unset, .unset, .unset, .unset, .unset, .unset, .unset, .unset, .unset] [(.int (16 : Int32)), (.int (Int32.ofNat oN)), (.ref b1)])) _
    refine XS.iadd X8.here hx rfl (hb hby at_92) rfl ?_
    show Steps p.tables e below (T8.setTop (mkF m 93 #[.val (.long q0), .second, .val (.long q1), .second, .val (.long q2), .second, .val (.long q3), .second, .val (.int p4), .val (.long q5), .second, .val (.ref b1), .val (.int (Int32.ofNat oN)), .unset, .unset, .unset, .unset, .unset, .unset, .unset, .unset, .unset, .unset, .unset, .unset, .unset] [(.int ((Int32.ofNat oN) + (16 : Int32))), (.ref b1)])) _
    refine XS.lloadN X8.here hx rfl (hb hby at_93) rfl ?_
    show Steps p.tables e below (T8.setTop (mkF m 94 #[.val (.long q0), .second, .val (.long q1), .second, .val (.long q2), .second, .val (.long q3), .second, .val (.int p4), .val (.long q5), .second, .val (.ref b1), .val (.int (Int32.ofNat oN)), .unset, .unset, .unset, .unset, .unset, .unset, .unset, .unset, .unset, .unset, .unset, .unset, .unset] [(.long q1), (.int ((Int32.ofNat oN) + (16 : Int32))), (.ref b1)])) _
    exact k
  obtain ⟨_, T9, L9, X9, N9, ⟨rfl, K9, V9⟩, st9⟩ := own_callS X8 hx hZ hown (hw _ (List.mem_of_getElem? (i := 1) rfl)) (hw _ (List.mem_of_getElem? (i := 2) rfl)) (hw _ (List.mem_of_getElem? (i := 3) rfl)) (hw _ (List.mem_of_getElem? (i := 4) rfl)) (by decide) (argsL := [(.ref b1), (.int ((Int32.ofNat oN) + (16 : Int32))), (.long q1)]) (rest := []) (rm1 l Z a0 hw b1 ((Int32.ofNat oN) + (16 : Int32)) q1 k1 (own_put (own_put g0 oN q3) (oN + 8) q2) (oN + 16) T8.heap n0 sz_8 ga_b1 V8 (own_addN oN 16) (by omega)) (W := 0) (by decide) (by decide) (g := (mkF m 94 #[.val (.long q0), .second, .val (.long q1), .second, .val (.long q2), .second, .val (.long q3), .second, .val (.int p4), .val (.long q5), .second, .val (.ref b1), .val (.int (Int32.ofNat oN)), .unset, .unset, .unset, .unset, .unset, .unset, .unset, .unset, .unset, .unset, .unset, .unset, .unset] [(.long q1), (.int ((Int32.ofNat oN) + (16 : Int32))), (.ref b1)])) rfl (by rw [hml]; rfl) pd_0 rfl rfl (by show 2 * 0 + _ ≤ _; exact Nat.le_of_eq rfl) (hb hby at_94) rfl (by decide) (by decide) N8
  have sz_9 := Nat.le_trans sz_8 K9.1
  refine own_go (T' := T9) (g' := (mkF m 97 #[.val (.long q0), .second, .val (.long q1), .second, .val (.long q2), .second, .val (.long q3), .second, .val (.int p4), .val (.long q5), .second, .val (.ref b1), .val (.int (Int32.ofNat oN)), .unset, .unset, .unset, .unset, .unset, .unset, .unset, .unset, .unset, .unset, .unset, .unset, .unset] [])) st9 ?_
  refine own_go (T' := T9) (g' := (mkF m 105 #[.val (.long q0), .second, .val (.long q1), .second, .val (.long q2), .second, .val (.long q3), .second, .val (.int p4), .val (.long q5), .second, .val (.ref b1), .val (.int (Int32.ofNat oN)), .unset, .unset, .unset, .unset, .unset, .unset, .unset, .unset, .unset, .unset, .unset, .unset, .unset] [(.long q0), (.int ((Int32.ofNat oN) + (24 : Int32))), (.ref b1)])) (fun t k => ?_) ?_
  · show Steps p.tables e below (T9.setTop (mkF m 97 #[.val (.long q0), .second, .val (.long q1), .second, .val (.long q2), .second, .val (.long q3), .second, .val (.int p4), .val (.long q5), .second, .val (.ref b1), .val (.int (Int32.ofNat oN)), .unset, .unset, .unset, .unset, .unset, .unset, .unset, .unset, .unset, .unset, .unset, .unset, .unset] [])) t
    refine XS.aload X9.here hx rfl (hb hby at_97) rfl rfl ?_
    show Steps p.tables e below (T9.setTop (mkF m 99 #[.val (.long q0), .second, .val (.long q1), .second, .val (.long q2), .second, .val (.long q3), .second, .val (.int p4), .val (.long q5), .second, .val (.ref b1), .val (.int (Int32.ofNat oN)), .unset, .unset, .unset, .unset, .unset, .unset, .unset, .unset, .unset, .unset, .unset, .unset, .unset] [(.ref b1)])) _
    refine XS.iload X9.here hx rfl (hb hby at_99) rfl ?_
    show Steps p.tables e below (T9.setTop (mkF m 101 #[.val (.long q0), .second, .val (.long q1), .second, .val (.long q2), .second, .val (.long q3), .second, .val (.int p4), .val (.long q5), .second, .val (.ref b1), .val (.int (Int32.ofNat oN)), .unset, .unset, .unset, .unset, .unset, .unset, .unset, .unset, .unset, .unset, .unset, .unset, .unset] [(.int (Int32.ofNat oN)), (.ref b1)])) _
    refine XS.bipush X9.here hx rfl (hb hby at_101) ?_
    show Steps p.tables e below (T9.setTop (mkF m 103 #[.val (.long q0), .second, .val (.long q1), .second, .val (.long q2), .second, .val (.long q3), .second, .val (.int p4), .val (.long q5), .second, .val (.ref b1), .val (.int (Int32.ofNat oN)), .unset, .unset, .unset, .unset, .unset, .unset, .unset, .unset, .unset, .unset, .unset, .unset, .unset] [(.int (24 : Int32)), (.int (Int32.ofNat oN)), (.ref b1)])) _
    refine XS.iadd X9.here hx rfl (hb hby at_103) rfl ?_
    show Steps p.tables e below (T9.setTop (mkF m 104 #[.val (.long q0), .second, .val (.long q1), .second, .val (.long q2), .second, .val (.long q3), .second, .val (.int p4), .val (.long q5), .second, .val (.ref b1), .val (.int (Int32.ofNat oN)), .unset, .unset, .unset, .unset, .unset, .unset, .unset, .unset, .unset, .unset, .unset, .unset, .unset] [(.int ((Int32.ofNat oN) + (24 : Int32))), (.ref b1)])) _
    refine XS.lloadN X9.here hx rfl (hb hby at_104) rfl ?_
    show Steps p.tables e below (T9.setTop (mkF m 105 #[.val (.long q0), .second, .val (.long q1), .second, .val (.long q2), .second, .val (.long q3), .second, .val (.int p4), .val (.long q5), .second, .val (.ref b1), .val (.int (Int32.ofNat oN)), .unset, .unset, .unset, .unset, .unset, .unset, .unset, .unset, .unset, .unset, .unset, .unset, .unset] [(.long q0), (.int ((Int32.ofNat oN) + (24 : Int32))), (.ref b1)])) _
    exact k
  obtain ⟨_, T10, L10, X10, N10, ⟨rfl, K10, V10⟩, st10⟩ := own_callS X9 hx hZ hown (hw _ (List.mem_of_getElem? (i := 1) rfl)) (hw _ (List.mem_of_getElem? (i := 2) rfl)) (hw _ (List.mem_of_getElem? (i := 3) rfl)) (hw _ (List.mem_of_getElem? (i := 4) rfl)) (by decide) (argsL := [(.ref b1), (.int ((Int32.ofNat oN) + (24 : Int32))), (.long q0)]) (rest := []) (rm1 l Z a0 hw b1 ((Int32.ofNat oN) + (24 : Int32)) q0 k1 (own_put (own_put (own_put g0 oN q3) (oN + 8) q2) (oN + 16) q1) (oN + 24) T9.heap n0 sz_9 ga_b1 V9 (own_addN oN 24) (by omega)) (W := 0) (by decide) (by decide) (g := (mkF m 105 #[.val (.long q0), .second, .val (.long q1), .second, .val (.long q2), .second, .val (.long q3), .second, .val (.int p4), .val (.long q5), .second, .val (.ref b1), .val (.int (Int32.ofNat oN)), .unset, .unset, .unset, .unset, .unset, .unset, .unset, .unset, .unset, .unset, .unset, .unset, .unset] [(.long q0), (.int ((Int32.ofNat oN) + (24 : Int32))), (.ref b1)])) rfl (by rw [hml]; rfl) pd_0 rfl rfl (by show 2 * 0 + _ ≤ _; exact Nat.le_of_eq rfl) (hb hby at_105) rfl (by decide) (by decide) N9
  have sz_10 := Nat.le_trans sz_9 K10.1
  refine own_go (T' := T10) (g' := (mkF m 108 #[.val (.long q0), .second, .val (.long q1), .second, .val (.long q2), .second, .val (.long q3), .second, .val (.int p4), .val (.long q5), .second, .val (.ref b1), .val (.int (Int32.ofNat oN)), .unset, .unset, .unset, .unset, .unset, .unset, .unset, .unset, .unset, .unset, .unset, .unset, .unset] [])) st10 ?_
  refine own_go (T' := T10) (g' := (mkF m 112 #[.val (.long q0), .second, .val (.long q1), .second, .val (.long q2), .second, .val (.long q3), .second, .val (.int p4), .val (.long q5), .second, .val (.ref b1), .val (.int (Int32.ofNat oN)), .unset, .unset, .unset, .unset, .unset, .unset, .unset, .unset, .unset, .unset, .unset, .unset, .unset] [(.int (Int32.ofNat oN)), (.ref b1)])) (fun t k => ?_) ?_
  · show Steps p.tables e below (T10.setTop (mkF m 108 #[.val (.long q0), .second, .val (.long q1), .second, .val (.long q2), .second, .val (.long q3), .second, .val (.int p4), .val (.long q5), .second, .val (.ref b1), .val (.int (Int32.ofNat oN)), .unset, .unset, .unset, .unset, .unset, .unset, .unset, .unset, .unset, .unset, .unset, .unset, .unset] [])) t
    refine XS.aload X10.here hx rfl (hb hby at_108) rfl rfl ?_
    show Steps p.tables e below (T10.setTop (mkF m 110 #[.val (.long q0), .second, .val (.long q1), .second, .val (.long q2), .second, .val (.long q3), .second, .val (.int p4), .val (.long q5), .second, .val (.ref b1), .val (.int (Int32.ofNat oN)), .unset, .unset, .unset, .unset, .unset, .unset, .unset, .unset, .unset, .unset, .unset, .unset, .unset] [(.ref b1)])) _
    refine XS.iload X10.here hx rfl (hb hby at_110) rfl ?_
    show Steps p.tables e below (T10.setTop (mkF m 112 #[.val (.long q0), .second, .val (.long q1), .second, .val (.long q2), .second, .val (.long q3), .second, .val (.int p4), .val (.long q5), .second, .val (.ref b1), .val (.int (Int32.ofNat oN)), .unset, .unset, .unset, .unset, .unset, .unset, .unset, .unset, .unset, .unset, .unset, .unset, .unset] [(.int (Int32.ofNat oN)), (.ref b1)])) _
    exact k
  obtain ⟨_, T11, L11, X11, N11, ⟨bL, kL, rfl, K11, V11⟩, st11⟩ := own_callS X10 hx hZ hown (hw _ (List.mem_of_getElem? (i := 6) rfl)) (hw _ (List.mem_of_getElem? (i := 7) rfl)) (hw _ (List.mem_of_getElem? (i := 8) rfl)) (hw _ (List.mem_of_getElem? (i := 9) rfl)) (by decide) (argsL := [(.ref b1), (.int (Int32.ofNat oN))]) (rest := []) (rm2 l Z a0 hw b1 (Int32.ofNat oN) k1 (own_put (own_put (own_put (own_put g0 oN q3) (oN + 8) q2) (oN + 16) q1) (oN + 24) q0) oN T10.heap n0 sz_10 V10 rfl h7) (W := 0) (by decide) (by decide) (g := (mkF m 112 #[.val (.long q0), .second, .val (.long q1), .second, .val (.long q2), .second, .val (.long q3), .second, .val (.int p4), .val (.long q5), .second, .val (.ref b1), .val (.int (Int32.ofNat oN)), .unset, .unset, .unset, .unset, .unset, .unset, .unset, .unset, .unset, .unset, .unset, .unset, .unset] [(.int (Int32.ofNat oN)), (.ref b1)])) rfl (by rw [hml]; rfl) pd_1 rfl rfl (by show 2 * 0 + _ ≤ _; exact Nat.le_of_eq rfl) (hb hby at_112) rfl (by decide) (by decide) N10
  have V_b1_11 := V10.keep K11 nin0
  have sz_11 := Nat.le_trans sz_10 K11.1
  have HL := own_limbs g0 oN q0 q1 q2 q3
  obtain ⟨G, hG⟩ : ∃ G, G = own_of (own_put (own_put (own_put (own_put g0 oN q3) (oN + 8) q2) (oN + 16) q1) (oN + 24) q0) oN 32 := ⟨_, rfl⟩
  rw [← hG] at V11 HL
  have VL : Arv Z T11.heap bL kL .long (5 : Int32) [(.long (G 0)), (.long (G 1)), (.long (G 2)), (.long (G 3)), (.long (G 4))] (.long 0) := V11
  refine own_go (T' := T11) (g' := (mkF m 115 #[.val (.long q0), .second, .val (.long q1), .second, .val (.long q2), .second, .val (.long q3), .second, .val (.int p4), .val (.long q5), .second, .val (.ref b1), .val (.int (Int32.ofNat oN)), .unset, .unset, .unset, .unset, .unset, .unset, .unset, .unset, .unset, .unset, .unset, .unset, .unset] [(.ref bL)])) st11 ?_
  refine own_go (T' := T11) (g' := (mkF m 201 #[.val (.long q0), .second, .val (.long q1), .second, .val (.long q2), .second, .val (.long q3), .second, .val (.int p4), .val (.long q5), .second, .val (.ref b1), .val (.int (Int32.ofNat oN)), .val (.ref bL), .val (.long (4503599627370495 : Int64)), .second, .val (.long (q0 &&& (4503599627370495 : Int64))), .second, .val (.long (((q0.toUInt64 >>> ((52 : Int32) &&& 0x3f).toInt64.toUInt64).toInt64) ||| ((q1 <<< ((12 : Int32) &&& 0x3f).toInt64) &&& (4503599627370495 : Int64)))), .second, .val (.long (((q1.toUInt64 >>> ((40 : Int32) &&& 0x3f).toInt64.toUInt64).toInt64) ||| ((q2 <<< ((24 : Int32) &&& 0x3f).toInt64) &&& (4503599627370495 : Int64)))), .second, .val (.long (((q2.toUInt64 >>> ((28 : Int32) &&& 0x3f).toInt64.toUInt64).toInt64) ||| ((q3 <<< ((36 : Int32) &&& 0x3f).toInt64) &&& (4503599627370495 : Int64)))), .second, .val (.long ((q3.toUInt64 >>> ((16 : Int32) &&& 0x3f).toInt64.toUInt64).toInt64)), .second] [(.int (lcmpW (G 0) (q0 &&& (4503599627370495 : Int64))))])) (fun t k => ?_) ?_
  · show Steps p.tables e below (T11.setTop (mkF m 115 #[.val (.long q0), .second, .val (.long q1), .second, .val (.long q2), .second, .val (.long q3), .second, .val (.int p4), .val (.long q5), .second, .val (.ref b1), .val (.int (Int32.ofNat oN)), .unset, .unset, .unset, .unset, .unset, .unset, .unset, .unset, .unset, .unset, .unset, .unset, .unset] [(.ref bL)])) t
    refine XS.astore X11.here hx rfl (hb hby at_115) rfl rfl (l' := #[.val (.long q0), .second, .val (.long q1), .second, .val (.long q2), .second, .val (.long q3), .second, .val (.int p4), .val (.long q5), .second, .val (.ref b1), .val (.int (Int32.ofNat oN)), .val (.ref bL), .unset, .unset, .unset, .unset, .unset, .unset, .unset, .unset, .unset, .unset, .unset, .unset]) rfl ?_
    show Steps p.tables e below (T11.setTop (mkF m 117 #[.val (.long q0), .second, .val (.long q1), .second, .val (.long q2), .second, .val (.long q3), .second, .val (.int p4), .val (.long q5), .second, .val (.ref b1), .val (.int (Int32.ofNat oN)), .val (.ref bL), .unset, .unset, .unset, .unset, .unset, .unset, .unset, .unset, .unset, .unset, .unset, .unset] [])) _
    refine XS.aload X11.here hx rfl (hb hby at_117) rfl rfl ?_
    show Steps p.tables e below (T11.setTop (mkF m 119 #[.val (.long q0), .second, .val (.long q1), .second, .val (.long q2), .second, .val (.long q3), .second, .val (.int p4), .val (.long q5), .second, .val (.ref b1), .val (.int (Int32.ofNat oN)), .val (.ref bL), .unset, .unset, .unset, .unset, .unset, .unset, .unset, .unset, .unset, .unset, .unset, .unset] [(.ref bL)])) _
    refine XS.ifnullNo X11.here hx rfl (hb hby at_119) rfl ?_
    show Steps p.tables e below (T11.setTop (mkF m 122 #[.val (.long q0), .second, .val (.long q1), .second, .val (.long q2), .second, .val (.long q3), .second, .val (.int p4), .val (.long q5), .second, .val (.ref b1), .val (.int (Int32.ofNat oN)), .val (.ref bL), .unset, .unset, .unset, .unset, .unset, .unset, .unset, .unset, .unset, .unset, .unset, .unset] [])) _
    refine XS.aload X11.here hx rfl (hb hby at_122) rfl rfl ?_
    show Steps p.tables e below (T11.setTop (mkF m 124 #[.val (.long q0), .second, .val (.long q1), .second, .val (.long q2), .second, .val (.long q3), .second, .val (.int p4), .val (.long q5), .second, .val (.ref b1), .val (.int (Int32.ofNat oN)), .val (.ref bL), .unset, .unset, .unset, .unset, .unset, .unset, .unset, .unset, .unset, .unset, .unset, .unset] [(.ref bL)])) _
    refine own_len X11 hx hZ rfl VL (g := (mkF m 124 #[.val (.long q0), .second, .val (.long q1), .second, .val (.long q2), .second, .val (.long q3), .second, .val (.int p4), .val (.long q5), .second, .val (.ref b1), .val (.int (Int32.ofNat oN)), .val (.ref bL), .unset, .unset, .unset, .unset, .unset, .unset, .unset, .unset, .unset, .unset, .unset, .unset] [(.ref bL)])) rfl rfl (hb hby at_124) _ ?_
    show Steps p.tables e below (T11.setTop (mkF m 125 #[.val (.long q0), .second, .val (.long q1), .second, .val (.long q2), .second, .val (.long q3), .second, .val (.int p4), .val (.long q5), .second, .val (.ref b1), .val (.int (Int32.ofNat oN)), .val (.ref bL), .unset, .unset, .unset, .unset, .unset, .unset, .unset, .unset, .unset, .unset, .unset, .unset] [(.int (5 : Int32))])) _
    refine XS.iconst X11.here hx rfl (hb hby at_125) ?_
    show Steps p.tables e below (T11.setTop (mkF m 126 #[.val (.long q0), .second, .val (.long q1), .second, .val (.long q2), .second, .val (.long q3), .second, .val (.int p4), .val (.long q5), .second, .val (.ref b1), .val (.int (Int32.ofNat oN)), .val (.ref bL), .unset, .unset, .unset, .unset, .unset, .unset, .unset, .unset, .unset, .unset, .unset, .unset] [(.int (5 : Int32)), (.int (5 : Int32))])) _
    refine XS.icmpYes X11.here hx rfl (pc0 := 126) (pc' := 131) rfl (hb hby at_126) rfl (teq (by decide)).1 (by decide) (by decide) ?_
    show Steps p.tables e below (T11.setTop (mkF m 131 #[.val (.long q0), .second, .val (.long q1), .second, .val (.long q2), .second, .val (.long q3), .second, .val (.int p4), .val (.long q5), .second, .val (.ref b1), .val (.int (Int32.ofNat oN)), .val (.ref bL), .unset, .unset, .unset, .unset, .unset, .unset, .unset, .unset, .unset, .unset, .unset, .unset] [])) _
    refine X11.ldc2Long hx hown (mvT hZ (hw _ (List.mem_of_getElem? (i := 13) rfl))) (g := (mkF m 131 #[.val (.long q0), .second, .val (.long q1), .second, .val (.long q2), .second, .val (.long q3), .second, .val (.int p4), .val (.long q5), .second, .val (.ref b1), .val (.int (Int32.ofNat oN)), .val (.ref bL), .unset, .unset, .unset, .unset, .unset, .unset, .unset, .unset, .unset, .unset, .unset, .unset] [])) rfl (hb hby at_131) _ ?_
    show Steps p.tables e below (T11.setTop (mkF m 134 #[.val (.long q0), .second, .val (.long q1), .second, .val (.long q2), .second, .val (.long q3), .second, .val (.int p4), .val (.long q5), .second, .val (.ref b1), .val (.int (Int32.ofNat oN)), .val (.ref bL), .unset, .unset, .unset, .unset, .unset, .unset, .unset, .unset, .unset, .unset, .unset, .unset] [(.long (4503599627370495 : Int64))])) _
    refine XS.lstore X11.here hx rfl (hb hby at_134) rfl (l' := #[.val (.long q0), .second, .val (.long q1), .second, .val (.long q2), .second, .val (.long q3), .second, .val (.int p4), .val (.long q5), .second, .val (.ref b1), .val (.int (Int32.ofNat oN)), .val (.ref bL), .val (.long (4503599627370495 : Int64)), .second, .unset, .unset, .unset, .unset, .unset, .unset, .unset, .unset, .unset, .unset]) rfl ?_
    show Steps p.tables e below (T11.setTop (mkF m 136 #[.val (.long q0), .second, .val (.long q1), .second, .val (.long q2), .second, .val (.long q3), .second, .val (.int p4), .val (.long q5), .second, .val (.ref b1), .val (.int (Int32.ofNat oN)), .val (.ref bL), .val (.long (4503599627370495 : Int64)), .second, .unset, .unset, .unset, .unset, .unset, .unset, .unset, .unset, .unset, .unset] [])) _
    refine XS.lloadN X11.here hx rfl (hb hby at_136) rfl ?_
    show Steps p.tables e below (T11.setTop (mkF m 137 #[.val (.long q0), .second, .val (.long q1), .second, .val (.long q2), .second, .val (.long q3), .second, .val (.int p4), .val (.long q5), .second, .val (.ref b1), .val (.int (Int32.ofNat oN)), .val (.ref bL), .val (.long (4503599627370495 : Int64)), .second, .unset, .unset, .unset, .unset, .unset, .unset, .unset, .unset, .unset, .unset] [(.long q0)])) _
    refine XS.lload X11.here hx rfl (hb hby at_137) rfl ?_
    show Steps p.tables e below (T11.setTop (mkF m 139 #[.val (.long q0), .second, .val (.long q1), .second, .val (.long q2), .second, .val (.long q3), .second, .val (.int p4), .val (.long q5), .second, .val (.ref b1), .val (.int (Int32.ofNat oN)), .val (.ref bL), .val (.long (4503599627370495 : Int64)), .second, .unset, .unset, .unset, .unset, .unset, .unset, .unset, .unset, .unset, .unset] [(.long (4503599627370495 : Int64)), (.long q0)])) _
    refine XS.land X11.here hx rfl (hb hby at_139) rfl ?_
    show Steps p.tables e below (T11.setTop (mkF m 140 #[.val (.long q0), .second, .val (.long q1), .second, .val (.long q2), .second, .val (.long q3), .second, .val (.int p4), .val (.long q5), .second, .val (.ref b1), .val (.int (Int32.ofNat oN)), .val (.ref bL), .val (.long (4503599627370495 : Int64)), .second, .unset, .unset, .unset, .unset, .unset, .unset, .unset, .unset, .unset, .unset] [(.long (q0 &&& (4503599627370495 : Int64)))])) _
    refine XS.lstore X11.here hx rfl (hb hby at_140) rfl (l' := #[.val (.long q0), .second, .val (.long q1), .second, .val (.long q2), .second, .val (.long q3), .second, .val (.int p4), .val (.long q5), .second, .val (.ref b1), .val (.int (Int32.ofNat oN)), .val (.ref bL), .val (.long (4503599627370495 : Int64)), .second, .val (.long (q0 &&& (4503599627370495 : Int64))), .second, .unset, .unset, .unset, .unset, .unset, .unset, .unset, .unset]) rfl ?_
    show Steps p.tables e below (T11.setTop (mkF m 142 #[.val (.long q0), .second, .val (.long q1), .second, .val (.long q2), .second, .val (.long q3), .second, .val (.int p4), .val (.long q5), .second, .val (.ref b1), .val (.int (Int32.ofNat oN)), .val (.ref bL), .val (.long (4503599627370495 : Int64)), .second, .val (.long (q0 &&& (4503599627370495 : Int64))), .second, .unset, .unset, .unset, .unset, .unset, .unset, .unset, .unset] [])) _
    refine XS.lloadN X11.here hx rfl (hb hby at_142) rfl ?_
    show Steps p.tables e below (T11.setTop (mkF m 143 #[.val (.long q0), .second, .val (.long q1), .second, .val (.long q2), .second, .val (.long q3), .second, .val (.int p4), .val (.long q5), .second, .val (.ref b1), .val (.int (Int32.ofNat oN)), .val (.ref bL), .val (.long (4503599627370495 : Int64)), .second, .val (.long (q0 &&& (4503599627370495 : Int64))), .second, .unset, .unset, .unset, .unset, .unset, .unset, .unset, .unset] [(.long q0)])) _
    refine XS.bipush X11.here hx rfl (hb hby at_143) ?_
    show Steps p.tables e below (T11.setTop (mkF m 145 #[.val (.long q0), .second, .val (.long q1), .second, .val (.long q2), .second, .val (.long q3), .second, .val (.int p4), .val (.long q5), .second, .val (.ref b1), .val (.int (Int32.ofNat oN)), .val (.ref bL), .val (.long (4503599627370495 : Int64)), .second, .val (.long (q0 &&& (4503599627370495 : Int64))), .second, .unset, .unset, .unset, .unset, .unset, .unset, .unset, .unset] [(.int (52 : Int32)), (.long q0)])) _
    refine XS.lushr X11.here hx rfl (hb hby at_145) rfl ?_
    show Steps p.tables e below (T11.setTop (mkF m 146 #[.val (.long q0), .second, .val (.long q1), .second, .val (.long q2), .second, .val (.long q3), .second, .val (.int p4), .val (.long q5), .second, .val (.ref b1), .val (.int (Int32.ofNat oN)), .val (.ref bL), .val (.long (4503599627370495 : Int64)), .second, .val (.long (q0 &&& (4503599627370495 : Int64))), .second, .unset, .unset, .unset, .unset, .unset, .unset, .unset, .unset] [(.long ((q0.toUInt64 >>> ((52 : Int32) &&& 0x3f).toInt64.toUInt64).toInt64))])) _
    refine XS.lloadN X11.here hx rfl (hb hby at_146) rfl ?_
    show Steps p.tables e below (T11.setTop (mkF m 147 #[.val (.long q0), .second, .val (.long q1), .second, .val (.long q2), .second, .val (.long q3), .second, .val (.int p4), .val (.long q5), .second, .val (.ref b1), .val (.int (Int32.ofNat oN)), .val (.ref bL), .val (.long (4503599627370495 : Int64)), .second, .val (.long (q0 &&& (4503599627370495 : Int64))), .second, .unset, .unset, .unset, .unset, .unset, .unset, .unset, .unset] [(.long q1), (.long ((q0.toUInt64 >>> ((52 : Int32) &&& 0x3f).toInt64.toUInt64).toInt64))])) _
    refine XS.bipush X11.here hx rfl (hb hby at_147) ?_
    show Steps p.tables e below (T11.setTop (mkF m 149 #[.val (.long q0), .second, .val (.long q1), .second, .val (.long q2), .second, .val (.long q3), .second, .val (.int p4), .val (.long q5), .second, .val (.ref b1), .val (.int (Int32.ofNat oN)), .val (.ref bL), .val (.long (4503599627370495 : Int64)), .second, .val (.long (q0 &&& (4503599627370495 : Int64))), .second, .unset, .unset, .unset, .unset, .unset, .unset, .unset, .unset] [(.int (12 : Int32)), (.long q1), (.long ((q0.toUInt64 >>> ((52 : Int32) &&& 0x3f).toInt64.toUInt64).toInt64))])) _
    refine XS.lshl X11.here hx rfl (hb hby at_149) rfl ?_
    show Steps p.tables e below (T11.setTop (mkF m 150 #[.val (.long q0), .second, .val (.long q1), .second, .val (.long q2), .second, .val (.long q3), .second, .val (.int p4), .val (.long q5), .second, .val (.ref b1), .val (.int (Int32.ofNat oN)), .val (.ref bL), .val (.long (4503599627370495 : Int64)), .second, .val (.long (q0 &&& (4503599627370495 : Int64))), .second, .unset, .unset, .unset, .unset, .unset, .unset, .unset, .unset] [(.long (q1 <<< ((12 : Int32) &&& 0x3f).toInt64)), (.long ((q0.toUInt64 >>> ((52 : Int32) &&& 0x3f).toInt64.toUInt64).toInt64))])) _
    refine XS.lload X11.here hx rfl (hb hby at_150) rfl ?_
    show Steps p.tables e below (T11.setTop (mkF m 152 #[.val (.long q0), .second, .val (.long q1), .second, .val (.long q2), .second, .val (.long q3), .second, .val (.int p4), .val (.long q5), .second, .val (.ref b1), .val (.int (Int32.ofNat oN)), .val (.ref bL), .val (.long (4503599627370495 : Int64)), .second, .val (.long (q0 &&& (4503599627370495 : Int64))), .second, .unset, .unset, .unset, .unset, .unset, .unset, .unset, .unset] [(.long (4503599627370495 : Int64)), (.long (q1 <<< ((12 : Int32) &&& 0x3f).toInt64)), (.long ((q0.toUInt64 >>> ((52 : Int32) &&& 0x3f).toInt64.toUInt64).toInt64))])) _
    refine XS.land X11.here hx rfl (hb hby at_152) rfl ?_
    show Steps p.tables e below (T11.setTop (mkF m 153 #[.val (.long q0), .second, .val (.long q1), .second, .val (.long q2), .second, .val (.long q3), .second, .val (.int p4), .val (.long q5), .second, .val (.ref b1), .val (.int (Int32.ofNat oN)), .val (.ref bL), .val (.long (4503599627370495 : Int64)), .second, .val (.long (q0 &&& (4503599627370495 : Int64))), .second, .unset, .unset, .unset, .unset, .unset, .unset, .unset, .unset] [(.long ((q1 <<< ((12 : Int32) &&& 0x3f).toInt64) &&& (4503599627370495 : Int64))), (.long ((q0.toUInt64 >>> ((52 : Int32) &&& 0x3f).toInt64.toUInt64).toInt64))])) _
    refine XS.lor X11.here hx rfl (hb hby at_153) rfl ?_
    show Steps p.tables e below (T11.setTop (mkF m 154 #[.val (.long q0), .second, .val (.long q1), .second, .val (.long q2), .second, .val (.long q3), .second, .val (.int p4), .val (.long q5), .second, .val (.ref b1), .val (.int (Int32.ofNat oN)), .val (.ref bL), .val (.long (4503599627370495 : Int64)), .second, .val (.long (q0 &&& (4503599627370495 : Int64))), .second, .unset, .unset, .unset, .unset, .unset, .unset, .unset, .unset] [(.long (((q0.toUInt64 >>> ((52 : Int32) &&& 0x3f).toInt64.toUInt64).toInt64) ||| ((q1 <<< ((12 : Int32) &&& 0x3f).toInt64) &&& (4503599627370495 : Int64))))])) _
    refine XS.lstore X11.here hx rfl (hb hby at_154) rfl (l' := #[.val (.long q0), .second, .val (.long q1), .second, .val (.long q2), .second, .val (.long q3), .second, .val (.int p4), .val (.long q5), .second, .val (.ref b1), .val (.int (Int32.ofNat oN)), .val (.ref bL), .val (.long (4503599627370495 : Int64)), .second, .val (.long (q0 &&& (4503599627370495 : Int64))), .second, .val (.long (((q0.toUInt64 >>> ((52 : Int32) &&& 0x3f).toInt64.toUInt64).toInt64) ||| ((q1 <<< ((12 : Int32) &&& 0x3f).toInt64) &&& (4503599627370495 : Int64)))), .second, .unset, .unset, .unset, .unset, .unset, .unset]) rfl ?_
    show Steps p.tables e below (T11.setTop (mkF m 156 #[.val (.long q0), .second, .val (.long q1), .second, .val (.long q2), .second, .val (.long q3), .second, .val (.int p4), .val (.long q5), .second, .val (.ref b1), .val (.int (Int32.ofNat oN)), .val (.ref bL), .val (.long (4503599627370495 : Int64)), .second, .val (.long (q0 &&& (4503599627370495 : Int64))), .second, .val (.long (((q0.toUInt64 >>> ((52 : Int32) &&& 0x3f).toInt64.toUInt64).toInt64) ||| ((q1 <<< ((12 : Int32) &&& 0x3f).toInt64) &&& (4503599627370495 : Int64)))), .second, .unset, .unset, .unset, .unset, .unset, .unset] [])) _
    refine XS.lloadN X11.here hx rfl (hb hby at_156) rfl ?_
    show Steps p.tables e below (T11.setTop (mkF m 157 #[.val (.long q0), .second, .val (.long q1), .second, .val (.long q2), .second, .val (.long q3), .second, .val (.int p4), .val (.long q5), .second, .val (.ref b1), .val (.int (Int32.ofNat oN)), .val (.ref bL), .val (.long (4503599627370495 : Int64)), .second, .val (.long (q0 &&& (4503599627370495 : Int64))), .second, .val (.long (((q0.toUInt64 >>> ((52 : Int32) &&& 0x3f).toInt64.toUInt64).toInt64) ||| ((q1 <<< ((12 : Int32) &&& 0x3f).toInt64) &&& (4503599627370495 : Int64)))), .second, .unset, .unset, .unset, .unset, .unset, .unset] [(.long q1)])) _
    refine XS.bipush X11.here hx rfl (hb hby at_157) ?_
    show Steps p.tables e below (T11.setTop (mkF m 159 #[.val (.long q0), .second, .val (.long q1), .second, .val (.long q2), .second, .val (.long q3), .second, .val (.int p4), .val (.long q5), .second, .val (.ref b1), .val (.int (Int32.ofNat oN)), .val (.ref bL), .val (.long (4503599627370495 : Int64)), .second, .val (.long (q0 &&& (4503599627370495 : Int64))), .second, .val (.long (((q0.toUInt64 >>> ((52 : Int32) &&& 0x3f).toInt64.toUInt64).toInt64) ||| ((q1 <<< ((12 : Int32) &&& 0x3f).toInt64) &&& (4503599627370495 : Int64)))), .second, .unset, .unset, .unset, .unset, .unset, .unset] [(.int (40 : Int32)), (.long q1)])) _
    refine XS.lushr X11.here hx rfl (hb hby at_159) rfl ?_
    show Steps p.tables e below (T11.setTop (mkF m 160 #[.val (.long q0), .second, .val (.long q1), .second, .val (.long q2), .second, .val (.long q3), .second, .val (.int p4), .val (.long q5), .second, .val (.ref b1), .val (.int (Int32.ofNat oN)), .val (.ref bL), .val (.long (4503599627370495 : Int64)), .second, .val (.long (q0 &&& (4503599627370495 : Int64))), .second, .val (.long (((q0.toUInt64 >>> ((52 : Int32) &&& 0x3f).toInt64.toUInt64).toInt64) ||| ((q1 <<< ((12 : Int32) &&& 0x3f).toInt64) &&& (4503599627370495 : Int64)))), .second, .unset, .unset, .unset, .unset, .unset, .unset] [(.long ((q1.toUInt64 >>> ((40 : Int32) &&& 0x3f).toInt64.toUInt64).toInt64))])) _
    refine XS.lload X11.here hx rfl (hb hby at_160) rfl ?_
    show Steps p.tables e below (T11.setTop (mkF m 162 #[.val (.long q0), .second, .val (.long q1), .second, .val (.long q2), .second, .val (.long q3), .second, .val (.int p4), .val (.long q5), .second, .val (.ref b1), .val (.int (Int32.ofNat oN)), .val (.ref bL), .val (.long (4503599627370495 : Int64)), .second, .val (.long (q0 &&& (4503599627370495 : Int64))), .second, .val (.long (((q0.toUInt64 >>> ((52 : Int32) &&& 0x3f).toInt64.toUInt64).toInt64) ||| ((q1 <<< ((12 : Int32) &&& 0x3f).toInt64) &&& (4503599627370495 : Int64)))), .second, .unset, .unset, .unset, .unset, .unset, .unset] [(.long q2), (.long ((q1.toUInt64 >>> ((40 : Int32) &&& 0x3f).toInt64.toUInt64).toInt64))])) _
    refine XS.bipush X11.here hx rfl (hb hby at_162) ?_
    show Steps p.tables e below (T11.setTop (mkF m 164 #[.val (.long q0), .second, .val (.long q1), .second, .val (.long q2), .second, .val (.long q3), .second, .val (.int p4), .val (.long q5), .second, .val (.ref b1), .val (.int (Int32.ofNat oN)), .val (.ref bL), .val (.long (4503599627370495 : Int64)), .second, .val (.long (q0 &&& (4503599627370495 : Int64))), .second, .val (.long (((q0.toUInt64 >>> ((52 : Int32) &&& 0x3f).toInt64.toUInt64).toInt64) ||| ((q1 <<< ((12 : Int32) &&& 0x3f).toInt64) &&& (4503599627370495 : Int64)))), .second, .unset, .unset, .unset, .unset, .unset, .unset] [(.int (24 : Int32)), (.long q2), (.long ((q1.toUInt64 >>> ((40 : Int32) &&& 0x3f).toInt64.toUInt64).toInt64))])) _
    refine XS.lshl X11.here hx rfl (hb hby at_164) rfl ?_
    show Steps p.tables e below (T11.setTop (mkF m 165 #[.val (.long q0), .second, .val (.long q1), .second, .val (.long q2), .second, .val (.long q3), .second, .val (.int p4), .val (.long q5), .second, .val (.ref b1), .val (.int (Int32.ofNat oN)), .val (.ref bL), .val (.long (4503599627370495 : Int64)), .second, .val (.long (q0 &&& (4503599627370495 : Int64))), .second, .val (.long (((q0.toUInt64 >>> ((52 : Int32) &&& 0x3f).toInt64.toUInt64).toInt64) ||| ((q1 <<< ((12 : Int32) &&& 0x3f).toInt64) &&& (4503599627370495 : Int64)))), .second, .unset, .unset, .unset, .unset, .unset, .unset] [(.long (q2 <<< ((24 : Int32) &&& 0x3f).toInt64)), (.long ((q1.toUInt64 >>> ((40 : Int32) &&& 0x3f).toInt64.toUInt64).toInt64))])) _
    refine XS.lload X11.here hx rfl (hb hby at_165) rfl ?_
    show Steps p.tables e below (T11.setTop (mkF m 167 #[.val (.long q0), .second, .val (.long q1), .second, .val (.long q2), .second, .val (.long q3), .second, .val (.int p4), .val (.long q5), .second, .val (.ref b1), .val (.int (Int32.ofNat oN)), .val (.ref bL), .val (.long (4503599627370495 : Int64)), .second, .val (.long (q0 &&& (4503599627370495 : Int64))), .second, .val (.long (((q0.toUInt64 >>> ((52 : Int32) &&& 0x3f).toInt64.toUInt64).toInt64) ||| ((q1 <<< ((12 : Int32) &&& 0x3f).toInt64) &&& (4503599627370495 : Int64)))), .second, .unset, .unset, .unset, .unset, .unset, .unset] [(.long (4503599627370495 : Int64)), (.long (q2 <<< ((24 : Int32) &&& 0x3f).toInt64)), (.long ((q1.toUInt64 >>> ((40 : Int32) &&& 0x3f).toInt64.toUInt64).toInt64))])) _
    refine XS.land X11.here hx rfl (hb hby at_167) rfl ?_
    show Steps p.tables e below (T11.setTop (mkF m 168 #[.val (.long q0), .second, .val (.long q1), .second, .val (.long q2), .second, .val (.long q3), .second, .val (.int p4), .val (.long q5), .second, .val (.ref b1), .val (.int (Int32.ofNat oN)), .val (.ref bL), .val (.long (4503599627370495 : Int64)), .second, .val (.long (q0 &&& (4503599627370495 : Int64))), .second, .val (.long (((q0.toUInt64 >>> ((52 : Int32) &&& 0x3f).toInt64.toUInt64).toInt64) ||| ((q1 <<< ((12 : Int32) &&& 0x3f).toInt64) &&& (4503599627370495 : Int64)))), .second, .unset, .unset, .unset, .unset, .unset, .unset] [(.long ((q2 <<< ((24 : Int32) &&& 0x3f).toInt64) &&& (4503599627370495 : Int64))), (.long ((q1.toUInt64 >>> ((40 : Int32) &&& 0x3f).toInt64.toUInt64).toInt64))])) _
    refine XS.lor X11.here hx rfl (hb hby at_168) rfl ?_
    show Steps p.tables e below (T11.setTop (mkF m 169 #[.val (.long q0), .second, .val (.long q1), .second, .val (.long q2), .second, .val (.long q3), .second, .val (.int p4), .val (.long q5), .second, .val (.ref b1), .val (.int (Int32.ofNat oN)), .val (.ref bL), .val (.long (4503599627370495 : Int64)), .second, .val (.long (q0 &&& (4503599627370495 : Int64))), .second, .val (.long (((q0.toUInt64 >>> ((52 : Int32) &&& 0x3f).toInt64.toUInt64).toInt64) ||| ((q1 <<< ((12 : Int32) &&& 0x3f).toInt64) &&& (4503599627370495 : Int64)))), .second, .unset, .unset, .unset, .unset, .unset, .unset] [(.long (((q1.toUInt64 >>> ((40 : Int32) &&& 0x3f).toInt64.toUInt64).toInt64) ||| ((q2 <<< ((24 : Int32) &&& 0x3f).toInt64) &&& (4503599627370495 : Int64))))])) _
    refine XS.lstore X11.here hx rfl (hb hby at_169) rfl (l' := #[.val (.long q0), .second, .val (.long q1), .second, .val (.long q2), .second, .val (.long q3), .second, .val (.int p4), .val (.long q5), .second, .val (.ref b1), .val (.int (Int32.ofNat oN)), .val (.ref bL), .val (.long (4503599627370495 : Int64)), .second, .val (.long (q0 &&& (4503599627370495 : Int64))), .second, .val (.long (((q0.toUInt64 >>> ((52 : Int32) &&& 0x3f).toInt64.toUInt64).toInt64) ||| ((q1 <<< ((12 : Int32) &&& 0x3f).toInt64) &&& (4503599627370495 : Int64)))), .second, .val (.long (((q1.toUInt64 >>> ((40 : Int32) &&& 0x3f).toInt64.toUInt64).toInt64) ||| ((q2 <<< ((24 : Int32) &&& 0x3f).toInt64) &&& (4503599627370495 : Int64)))), .second, .unset, .unset, .unset, .unset]) rfl ?_
    show Steps p.tables e below (T11.setTop (mkF m 171 #[.val (.long q0), .second, .val (.long q1), .second, .val (.long q2), .second, .val (.long q3), .second, .val (.int p4), .val (.long q5), .second, .val (.ref b1), .val (.int (Int32.ofNat oN)), .val (.ref bL), .val (.long (4503599627370495 : Int64)), .second, .val (.long (q0 &&& (4503599627370495 : Int64))), .second, .val (.long (((q0.toUInt64 >>> ((52 : Int32) &&& 0x3f).toInt64.toUInt64).toInt64) ||| ((q1 <<< ((12 : Int32) &&& 0x3f).toInt64) &&& (4503599627370495 : Int64)))), .second, .val (.long (((q1.toUInt64 >>> ((40 : Int32) &&& 0x3f).toInt64.toUInt64).toInt64) ||| ((q2 <<< ((24 : Int32) &&& 0x3f).toInt64) &&& (4503599627370495 : Int64)))), .second, .unset, .unset, .unset, .unset] [])) _
    refine XS.lload X11.here hx rfl (hb hby at_171) rfl ?_
    show Steps p.tables e below (T11.setTop (mkF m 173 #[.val (.long q0), .second, .val (.long q1), .second, .val (.long q2), .second, .val (.long q3), .second, .val (.int p4), .val (.long q5), .second, .val (.ref b1), .val (.int (Int32.ofNat oN)), .val (.ref bL), .val (.long (4503599627370495 : Int64)), .second, .val (.long (q0 &&& (4503599627370495 : Int64))), .second, .val (.long (((q0.toUInt64 >>> ((52 : Int32) &&& 0x3f).toInt64.toUInt64).toInt64) ||| ((q1 <<< ((12 : Int32) &&& 0x3f).toInt64) &&& (4503599627370495 : Int64)))), .second, .val (.long (((q1.toUInt64 >>> ((40 : Int32) &&& 0x3f).toInt64.toUInt64).toInt64) ||| ((q2 <<< ((24 : Int32) &&& 0x3f).toInt64) &&& (4503599627370495 : Int64)))), .second, .unset, .unset, .unset, .unset] [(.long q2)])) _
    refine XS.bipush X11.here hx rfl (hb hby at_173) ?_
    show Steps p.tables e below (T11.setTop (mkF m 175 #[.val (.long q0), .second, .val (.long q1), .second, .val (.long q2), .second, .val (.long q3), .second, .val (.int p4), .val (.long q5), .second, .val (.ref b1), .val (.int (Int32.ofNat oN)), .val (.ref bL), .val (.long (4503599627370495 : Int64)), .second, .val (.long (q0 &&& (4503599627370495 : Int64))), .second, .val (.long (((q0.toUInt64 >>> ((52 : Int32) &&& 0x3f).toInt64.toUInt64).toInt64) ||| ((q1 <<< ((12 : Int32) &&& 0x3f).toInt64) &&& (4503599627370495 : Int64)))), .second, .val (.long (((q1.toUInt64 >>> ((40 : Int32) &&& 0x3f).toInt64.toUInt64).toInt64) ||| ((q2 <<< ((24 : Int32) &&& 0x3f).toInt64) &&& (4503599627370495 : Int64)))), .second, .unset, .unset, .unset, .unset] [(.int (28 : Int32)), (.long q2)])) _
    refine XS.lushr X11.here hx rfl (hb hby at_175) rfl ?_
    show Steps p.tables e below (T11.setTop (mkF m 176 #[.val (.long q0), .second, .val (.long q1), .second, .val (.long q2), .second, .val (.long q3), .second, .val (.int p4), .val (.long q5), .second, .val (.ref b1), .val (.int (Int32.ofNat oN)), .val (.ref bL), .val (.long (4503599627370495 : Int64)), .second, .val (.long (q0 &&& (4503599627370495 : Int64))), .second, .val (.long (((q0.toUInt64 >>> ((52 : Int32) &&& 0x3f).toInt64.toUInt64).toInt64) ||| ((q1 <<< ((12 : Int32) &&& 0x3f).toInt64) &&& (4503599627370495 : Int64)))), .second, .val (.long (((q1.toUInt64 >>> ((40 : Int32) &&& 0x3f).toInt64.toUInt64).toInt64) ||| ((q2 <<< ((24 : Int32) &&& 0x3f).toInt64) &&& (4503599627370495 : Int64)))), .second, .unset, .unset, .unset, .unset] [(.long ((q2.toUInt64 >>> ((28 : Int32) &&& 0x3f).toInt64.toUInt64).toInt64))])) _
    refine XS.lload X11.here hx rfl (hb hby at_176) rfl ?_
    show Steps p.tables e below (T11.setTop (mkF m 178 #[.val (.long q0), .second, .val (.long q1), .second, .val (.long q2), .second, .val (.long q3), .second, .val (.int p4), .val (.long q5), .second, .val (.ref b1), .val (.int (Int32.ofNat oN)), .val (.ref bL), .val (.long (4503599627370495 : Int64)), .second, .val (.long (q0 &&& (4503599627370495 : Int64))), .second, .val (.long (((q0.toUInt64 >>> ((52 : Int32) &&& 0x3f).toInt64.toUInt64).toInt64) ||| ((q1 <<< ((12 : Int32) &&& 0x3f).toInt64) &&& (4503599627370495 : Int64)))), .second, .val (.long (((q1.toUInt64 >>> ((40 : Int32) &&& 0x3f).toInt64.toUInt64).toInt64) ||| ((q2 <<< ((24 : Int32) &&& 0x3f).toInt64) &&& (4503599627370495 : Int64)))), .second, .unset, .unset, .unset, .unset] [(.long q3), (.long ((q2.toUInt64 >>> ((28 : Int32) &&& 0x3f).toInt64.toUInt64).toInt64))])) _
    refine XS.bipush X11.here hx rfl (hb hby at_178) ?_
    show Steps p.tables e below (T11.setTop (mkF m 180 #[.val (.long q0), .second, .val (.long q1), .second, .val (.long q2), .second, .val (.long q3), .second, .val (.int p4), .val (.long q5), .second, .val (.ref b1), .val (.int (Int32.ofNat oN)), .val (.ref bL), .val (.long (4503599627370495 : Int64)), .second, .val (.long (q0 &&& (4503599627370495 : Int64))), .second, .val (.long (((q0.toUInt64 >>> ((52 : Int32) &&& 0x3f).toInt64.toUInt64).toInt64) ||| ((q1 <<< ((12 : Int32) &&& 0x3f).toInt64) &&& (4503599627370495 : Int64)))), .second, .val (.long (((q1.toUInt64 >>> ((40 : Int32) &&& 0x3f).toInt64.toUInt64).toInt64) ||| ((q2 <<< ((24 : Int32) &&& 0x3f).toInt64) &&& (4503599627370495 : Int64)))), .second, .unset, .unset, .unset, .unset] [(.int (36 : Int32)), (.long q3), (.long ((q2.toUInt64 >>> ((28 : Int32) &&& 0x3f).toInt64.toUInt64).toInt64))])) _
    refine XS.lshl X11.here hx rfl (hb hby at_180) rfl ?_
    show Steps p.tables e below (T11.setTop (mkF m 181 #[.val (.long q0), .second, .val (.long q1), .second, .val (.long q2), .second, .val (.long q3), .second, .val (.int p4), .val (.long q5), .second, .val (.ref b1), .val (.int (Int32.ofNat oN)), .val (.ref bL), .val (.long (4503599627370495 : Int64)), .second, .val (.long (q0 &&& (4503599627370495 : Int64))), .second, .val (.long (((q0.toUInt64 >>> ((52 : Int32) &&& 0x3f).toInt64.toUInt64).toInt64) ||| ((q1 <<< ((12 : Int32) &&& 0x3f).toInt64) &&& (4503599627370495 : Int64)))), .second, .val (.long (((q1.toUInt64 >>> ((40 : Int32) &&& 0x3f).toInt64.toUInt64).toInt64) ||| ((q2 <<< ((24 : Int32) &&& 0x3f).toInt64) &&& (4503599627370495 : Int64)))), .second, .unset, .unset, .unset, .unset] [(.long (q3 <<< ((36 : Int32) &&& 0x3f).toInt64)), (.long ((q2.toUInt64 >>> ((28 : Int32) &&& 0x3f).toInt64.toUInt64).toInt64))])) _
    refine XS.lload X11.here hx rfl (hb hby at_181) rfl ?_
    show Steps p.tables e below (T11.setTop (mkF m 183 #[.val (.long q0), .second, .val (.long q1), .second, .val (.long q2), .second, .val (.long q3), .second, .val (.int p4), .val (.long q5), .second, .val (.ref b1), .val (.int (Int32.ofNat oN)), .val (.ref bL), .val (.long (4503599627370495 : Int64)), .second, .val (.long (q0 &&& (4503599627370495 : Int64))), .second, .val (.long (((q0.toUInt64 >>> ((52 : Int32) &&& 0x3f).toInt64.toUInt64).toInt64) ||| ((q1 <<< ((12 : Int32) &&& 0x3f).toInt64) &&& (4503599627370495 : Int64)))), .second, .val (.long (((q1.toUInt64 >>> ((40 : Int32) &&& 0x3f).toInt64.toUInt64).toInt64) ||| ((q2 <<< ((24 : Int32) &&& 0x3f).toInt64) &&& (4503599627370495 : Int64)))), .second, .unset, .unset, .unset, .unset] [(.long (4503599627370495 : Int64)), (.long (q3 <<< ((36 : Int32) &&& 0x3f).toInt64)), (.long ((q2.toUInt64 >>> ((28 : Int32) &&& 0x3f).toInt64.toUInt64).toInt64))])) _
    refine XS.land X11.here hx rfl (hb hby at_183) rfl ?_
    show Steps p.tables e below (T11.setTop (mkF m 184 #[.val (.long q0), .second, .val (.long q1), .second, .val (.long q2), .second, .val (.long q3), .second, .val (.int p4), .val (.long q5), .second, .val (.ref b1), .val (.int (Int32.ofNat oN)), .val (.ref bL), .val (.long (4503599627370495 : Int64)), .second, .val (.long (q0 &&& (4503599627370495 : Int64))), .second, .val (.long (((q0.toUInt64 >>> ((52 : Int32) &&& 0x3f).toInt64.toUInt64).toInt64) ||| ((q1 <<< ((12 : Int32) &&& 0x3f).toInt64) &&& (4503599627370495 : Int64)))), .second, .val (.long (((q1.toUInt64 >>> ((40 : Int32) &&& 0x3f).toInt64.toUInt64).toInt64) ||| ((q2 <<< ((24 : Int32) &&& 0x3f).toInt64) &&& (4503599627370495 : Int64)))), .second, .unset, .unset, .unset, .unset] [(.long ((q3 <<< ((36 : Int32) &&& 0x3f).toInt64) &&& (4503599627370495 : Int64))), (.long ((q2.toUInt64 >>> ((28 : Int32) &&& 0x3f).toInt64.toUInt64).toInt64))])) _
    refine XS.lor X11.here hx rfl (hb hby at_184) rfl ?_
    show Steps p.tables e below (T11.setTop (mkF m 185 #[.val (.long q0), .second, .val (.long q1), .second, .val (.long q2), .second, .val (.long q3), .second, .val (.int p4), .val (.long q5), .second, .val (.ref b1), .val (.int (Int32.ofNat oN)), .val (.ref bL), .val (.long (4503599627370495 : Int64)), .second, .val (.long (q0 &&& (4503599627370495 : Int64))), .second, .val (.long (((q0.toUInt64 >>> ((52 : Int32) &&& 0x3f).toInt64.toUInt64).toInt64) ||| ((q1 <<< ((12 : Int32) &&& 0x3f).toInt64) &&& (4503599627370495 : Int64)))), .second, .val (.long (((q1.toUInt64 >>> ((40 : Int32) &&& 0x3f).toInt64.toUInt64).toInt64) ||| ((q2 <<< ((24 : Int32) &&& 0x3f).toInt64) &&& (4503599627370495 : Int64)))), .second, .unset, .unset, .unset, .unset] [(.long (((q2.toUInt64 >>> ((28 : Int32) &&& 0x3f).toInt64.toUInt64).toInt64) ||| ((q3 <<< ((36 : Int32) &&& 0x3f).toInt64) &&& (4503599627370495 : Int64))))])) _
    refine XS.lstore X11.here hx rfl (hb hby at_185) rfl (l' := #[.val (.long q0), .second, .val (.long q1), .second, .val (.long q2), .second, .val (.long q3), .second, .val (.int p4), .val (.long q5), .second, .val (.ref b1), .val (.int (Int32.ofNat oN)), .val (.ref bL), .val (.long (4503599627370495 : Int64)), .second, .val (.long (q0 &&& (4503599627370495 : Int64))), .second, .val (.long (((q0.toUInt64 >>> ((52 : Int32) &&& 0x3f).toInt64.toUInt64).toInt64) ||| ((q1 <<< ((12 : Int32) &&& 0x3f).toInt64) &&& (4503599627370495 : Int64)))), .second, .val (.long (((q1.toUInt64 >>> ((40 : Int32) &&& 0x3f).toInt64.toUInt64).toInt64) ||| ((q2 <<< ((24 : Int32) &&& 0x3f).toInt64) &&& (4503599627370495 : Int64)))), .second, .val (.long (((q2.toUInt64 >>> ((28 : Int32) &&& 0x3f).toInt64.toUInt64).toInt64) ||| ((q3 <<< ((36 : Int32) &&& 0x3f).toInt64) &&& (4503599627370495 : Int64)))), .second, .unset, .unset]) rfl ?_
    show Steps p.tables e below (T11.setTop (mkF m 187 #[.val (.long q0), .second, .val (.long q1), .second, .val (.long q2), .second, .val (.long q3), .second, .val (.int p4), .val (.long q5), .second, .val (.ref b1), .val (.int (Int32.ofNat oN)), .val (.ref bL), .val (.long (4503599627370495 : Int64)), .second, .val (.long (q0 &&& (4503599627370495 : Int64))), .second, .val (.long (((q0.toUInt64 >>> ((52 : Int32) &&& 0x3f).toInt64.toUInt64).toInt64) ||| ((q1 <<< ((12 : Int32) &&& 0x3f).toInt64) &&& (4503599627370495 : Int64)))), .second, .val (.long (((q1.toUInt64 >>> ((40 : Int32) &&& 0x3f).toInt64.toUInt64).toInt64) ||| ((q2 <<< ((24 : Int32) &&& 0x3f).toInt64) &&& (4503599627370495 : Int64)))), .second, .val (.long (((q2.toUInt64 >>> ((28 : Int32) &&& 0x3f).toInt64.toUInt64).toInt64) ||| ((q3 <<< ((36 : Int32) &&& 0x3f).toInt64) &&& (4503599627370495 : Int64)))), .second, .unset, .unset] [])) _
    refine XS.lload X11.here hx rfl (hb hby at_187) rfl ?_
    show Steps p.tables e below (T11.setTop (mkF m 189 #[.val (.long q0), .second, .val (.long q1), .second, .val (.long q2), .second, .val (.long q3), .second, .val (.int p4), .val (.long q5), .second, .val (.ref b1), .val (.int (Int32.ofNat oN)), .val (.ref bL), .val (.long (4503599627370495 : Int64)), .second, .val (.long (q0 &&& (4503599627370495 : Int64))), .second, .val (.long (((q0.toUInt64 >>> ((52 : Int32) &&& 0x3f).toInt64.toUInt64).toInt64) ||| ((q1 <<< ((12 : Int32) &&& 0x3f).toInt64) &&& (4503599627370495 : Int64)))), .second, .val (.long (((q1.toUInt64 >>> ((40 : Int32) &&& 0x3f).toInt64.toUInt64).toInt64) ||| ((q2 <<< ((24 : Int32) &&& 0x3f).toInt64) &&& (4503599627370495 : Int64)))), .second, .val (.long (((q2.toUInt64 >>> ((28 : Int32) &&& 0x3f).toInt64.toUInt64).toInt64) ||| ((q3 <<< ((36 : Int32) &&& 0x3f).toInt64) &&& (4503599627370495 : Int64)))), .second, .unset, .unset] [(.long q3)])) _
    refine XS.bipush X11.here hx rfl (hb hby at_189) ?_
    show Steps p.tables e below (T11.setTop (mkF m 191 #[.val (.long q0), .second, .val (.long q1), .second, .val (.long q2), .second, .val (.long q3), .second, .val (.int p4), .val (.long q5), .second, .val (.ref b1), .val (.int (Int32.ofNat oN)), .val (.ref bL), .val (.long (4503599627370495 : Int64)), .second, .val (.long (q0 &&& (4503599627370495 : Int64))), .second, .val (.long (((q0.toUInt64 >>> ((52 : Int32) &&& 0x3f).toInt64.toUInt64).toInt64) ||| ((q1 <<< ((12 : Int32) &&& 0x3f).toInt64) &&& (4503599627370495 : Int64)))), .second, .val (.long (((q1.toUInt64 >>> ((40 : Int32) &&& 0x3f).toInt64.toUInt64).toInt64) ||| ((q2 <<< ((24 : Int32) &&& 0x3f).toInt64) &&& (4503599627370495 : Int64)))), .second, .val (.long (((q2.toUInt64 >>> ((28 : Int32) &&& 0x3f).toInt64.toUInt64).toInt64) ||| ((q3 <<< ((36 : Int32) &&& 0x3f).toInt64) &&& (4503599627370495 : Int64)))), .second, .unset, .unset] [(.int (16 : Int32)), (.long q3)])) _
    refine XS.lushr X11.here hx rfl (hb hby at_191) rfl ?_
    show Steps p.tables e below (T11.setTop (mkF m 192 #[.val (.long q0), .second, .val (.long q1), .second, .val (.long q2), .second, .val (.long q3), .second, .val (.int p4), .val (.long q5), .second, .val (.ref b1), .val (.int (Int32.ofNat oN)), .val (.ref bL), .val (.long (4503599627370495 : Int64)), .second, .val (.long (q0 &&& (4503599627370495 : Int64))), .second, .val (.long (((q0.toUInt64 >>> ((52 : Int32) &&& 0x3f).toInt64.toUInt64).toInt64) ||| ((q1 <<< ((12 : Int32) &&& 0x3f).toInt64) &&& (4503599627370495 : Int64)))), .second, .val (.long (((q1.toUInt64 >>> ((40 : Int32) &&& 0x3f).toInt64.toUInt64).toInt64) ||| ((q2 <<< ((24 : Int32) &&& 0x3f).toInt64) &&& (4503599627370495 : Int64)))), .second, .val (.long (((q2.toUInt64 >>> ((28 : Int32) &&& 0x3f).toInt64.toUInt64).toInt64) ||| ((q3 <<< ((36 : Int32) &&& 0x3f).toInt64) &&& (4503599627370495 : Int64)))), .second, .unset, .unset] [(.long ((q3.toUInt64 >>> ((16 : Int32) &&& 0x3f).toInt64.toUInt64).toInt64))])) _
    refine XS.lstore X11.here hx rfl (hb hby at_192) rfl (l' := #[.val (.long q0), .second, .val (.long q1), .second, .val (.long q2), .second, .val (.long q3), .second, .val (.int p4), .val (.long q5), .second, .val (.ref b1), .val (.int (Int32.ofNat oN)), .val (.ref bL), .val (.long (4503599627370495 : Int64)), .second, .val (.long (q0 &&& (4503599627370495 : Int64))), .second, .val (.long (((q0.toUInt64 >>> ((52 : Int32) &&& 0x3f).toInt64.toUInt64).toInt64) ||| ((q1 <<< ((12 : Int32) &&& 0x3f).toInt64) &&& (4503599627370495 : Int64)))), .second, .val (.long (((q1.toUInt64 >>> ((40 : Int32) &&& 0x3f).toInt64.toUInt64).toInt64) ||| ((q2 <<< ((24 : Int32) &&& 0x3f).toInt64) &&& (4503599627370495 : Int64)))), .second, .val (.long (((q2.toUInt64 >>> ((28 : Int32) &&& 0x3f).toInt64.toUInt64).toInt64) ||| ((q3 <<< ((36 : Int32) &&& 0x3f).toInt64) &&& (4503599627370495 : Int64)))), .second, .val (.long ((q3.toUInt64 >>> ((16 : Int32) &&& 0x3f).toInt64.toUInt64).toInt64)), .second]) rfl ?_
    show Steps p.tables e below (T11.setTop (mkF m 194 #[.val (.long q0), .second, .val (.long q1), .second, .val (.long q2), .second, .val (.long q3), .second, .val (.int p4), .val (.long q5), .second, .val (.ref b1), .val (.int (Int32.ofNat oN)), .val (.ref bL), .val (.long (4503599627370495 : Int64)), .second, .val (.long (q0 &&& (4503599627370495 : Int64))), .second, .val (.long (((q0.toUInt64 >>> ((52 : Int32) &&& 0x3f).toInt64.toUInt64).toInt64) ||| ((q1 <<< ((12 : Int32) &&& 0x3f).toInt64) &&& (4503599627370495 : Int64)))), .second, .val (.long (((q1.toUInt64 >>> ((40 : Int32) &&& 0x3f).toInt64.toUInt64).toInt64) ||| ((q2 <<< ((24 : Int32) &&& 0x3f).toInt64) &&& (4503599627370495 : Int64)))), .second, .val (.long (((q2.toUInt64 >>> ((28 : Int32) &&& 0x3f).toInt64.toUInt64).toInt64) ||| ((q3 <<< ((36 : Int32) &&& 0x3f).toInt64) &&& (4503599627370495 : Int64)))), .second, .val (.long ((q3.toUInt64 >>> ((16 : Int32) &&& 0x3f).toInt64.toUInt64).toInt64)), .second] [])) _
    refine XS.aload X11.here hx rfl (hb hby at_194) rfl rfl ?_
    show Steps p.tables e below (T11.setTop (mkF m 196 #[.val (.long q0), .second, .val (.long q1), .second, .val (.long q2), .second, .val (.long q3), .second, .val (.int p4), .val (.long q5), .second, .val (.ref b1), .val (.int (Int32.ofNat oN)), .val (.ref bL), .val (.long (4503599627370495 : Int64)), .second, .val (.long (q0 &&& (4503599627370495 : Int64))), .second, .val (.long (((q0.toUInt64 >>> ((52 : Int32) &&& 0x3f).toInt64.toUInt64).toInt64) ||| ((q1 <<< ((12 : Int32) &&& 0x3f).toInt64) &&& (4503599627370495 : Int64)))), .second, .val (.long (((q1.toUInt64 >>> ((40 : Int32) &&& 0x3f).toInt64.toUInt64).toInt64) ||| ((q2 <<< ((24 : Int32) &&& 0x3f).toInt64) &&& (4503599627370495 : Int64)))), .second, .val (.long (((q2.toUInt64 >>> ((28 : Int32) &&& 0x3f).toInt64.toUInt64).toInt64) ||| ((q3 <<< ((36 : Int32) &&& 0x3f).toInt64) &&& (4503599627370495 : Int64)))), .second, .val (.long ((q3.toUInt64 >>> ((16 : Int32) &&& 0x3f).toInt64.toUInt64).toInt64)), .second] [(.ref bL)])) _
    refine XS.iconst X11.here hx rfl (hb hby at_196) ?_
    show Steps p.tables e below (T11.setTop (mkF m 197 #[.val (.long q0), .second, .val (.long q1), .second, .val (.long q2), .second, .val (.long q3), .second, .val (.int p4), .val (.long q5), .second, .val (.ref b1), .val (.int (Int32.ofNat oN)), .val (.ref bL), .val (.long (4503599627370495 : Int64)), .second, .val (.long (q0 &&& (4503599627370495 : Int64))), .second, .val (.long (((q0.toUInt64 >>> ((52 : Int32) &&& 0x3f).toInt64.toUInt64).toInt64) ||| ((q1 <<< ((12 : Int32) &&& 0x3f).toInt64) &&& (4503599627370495 : Int64)))), .second, .val (.long (((q1.toUInt64 >>> ((40 : Int32) &&& 0x3f).toInt64.toUInt64).toInt64) ||| ((q2 <<< ((24 : Int32) &&& 0x3f).toInt64) &&& (4503599627370495 : Int64)))), .second, .val (.long (((q2.toUInt64 >>> ((28 : Int32) &&& 0x3f).toInt64.toUInt64).toInt64) ||| ((q3 <<< ((36 : Int32) &&& 0x3f).toInt64) &&& (4503599627370495 : Int64)))), .second, .val (.long ((q3.toUInt64 >>> ((16 : Int32) &&& 0x3f).toInt64.toUInt64).toInt64)), .second] [(.int (0 : Int32)), (.ref bL)])) _
    refine own_ldJ X11 hx hZ rfl VL (j := (0 : Int32)) (by decide) (v := (.long (G 0))) rfl (g := (mkF m 197 #[.val (.long q0), .second, .val (.long q1), .second, .val (.long q2), .second, .val (.long q3), .second, .val (.int p4), .val (.long q5), .second, .val (.ref b1), .val (.int (Int32.ofNat oN)), .val (.ref bL), .val (.long (4503599627370495 : Int64)), .second, .val (.long (q0 &&& (4503599627370495 : Int64))), .second, .val (.long (((q0.toUInt64 >>> ((52 : Int32) &&& 0x3f).toInt64.toUInt64).toInt64) ||| ((q1 <<< ((12 : Int32) &&& 0x3f).toInt64) &&& (4503599627370495 : Int64)))), .second, .val (.long (((q1.toUInt64 >>> ((40 : Int32) &&& 0x3f).toInt64.toUInt64).toInt64) ||| ((q2 <<< ((24 : Int32) &&& 0x3f).toInt64) &&& (4503599627370495 : Int64)))), .second, .val (.long (((q2.toUInt64 >>> ((28 : Int32) &&& 0x3f).toInt64.toUInt64).toInt64) ||| ((q3 <<< ((36 : Int32) &&& 0x3f).toInt64) &&& (4503599627370495 : Int64)))), .second, .val (.long ((q3.toUInt64 >>> ((16 : Int32) &&& 0x3f).toInt64.toUInt64).toInt64)), .second] [(.int (0 : Int32)), (.ref bL)])) rfl rfl (hb hby at_197) _ ?_
    show Steps p.tables e below (T11.setTop (mkF m 198 #[.val (.long q0), .second, .val (.long q1), .second, .val (.long q2), .second, .val (.long q3), .second, .val (.int p4), .val (.long q5), .second, .val (.ref b1), .val (.int (Int32.ofNat oN)), .val (.ref bL), .val (.long (4503599627370495 : Int64)), .second, .val (.long (q0 &&& (4503599627370495 : Int64))), .second, .val (.long (((q0.toUInt64 >>> ((52 : Int32) &&& 0x3f).toInt64.toUInt64).toInt64) ||| ((q1 <<< ((12 : Int32) &&& 0x3f).toInt64) &&& (4503599627370495 : Int64)))), .second, .val (.long (((q1.toUInt64 >>> ((40 : Int32) &&& 0x3f).toInt64.toUInt64).toInt64) ||| ((q2 <<< ((24 : Int32) &&& 0x3f).toInt64) &&& (4503599627370495 : Int64)))), .second, .val (.long (((q2.toUInt64 >>> ((28 : Int32) &&& 0x3f).toInt64.toUInt64).toInt64) ||| ((q3 <<< ((36 : Int32) &&& 0x3f).toInt64) &&& (4503599627370495 : Int64)))), .second, .val (.long ((q3.toUInt64 >>> ((16 : Int32) &&& 0x3f).toInt64.toUInt64).toInt64)), .second] [(.long (G 0))])) _
    refine XS.lload X11.here hx rfl (hb hby at_198) rfl ?_
    show Steps p.tables e below (T11.setTop (mkF m 200 #[.val (.long q0), .second, .val (.long q1), .second, .val (.long q2), .second, .val (.long q3), .second, .val (.int p4), .val (.long q5), .second, .val (.ref b1), .val (.int (Int32.ofNat oN)), .val (.ref bL), .val (.long (4503599627370495 : Int64)), .second, .val (.long (q0 &&& (4503599627370495 : Int64))), .second, .val (.long (((q0.toUInt64 >>> ((52 : Int32) &&& 0x3f).toInt64.toUInt64).toInt64) ||| ((q1 <<< ((12 : Int32) &&& 0x3f).toInt64) &&& (4503599627370495 : Int64)))), .second, .val (.long (((q1.toUInt64 >>> ((40 : Int32) &&& 0x3f).toInt64.toUInt64).toInt64) ||| ((q2 <<< ((24 : Int32) &&& 0x3f).toInt64) &&& (4503599627370495 : Int64)))), .second, .val (.long (((q2.toUInt64 >>> ((28 : Int32) &&& 0x3f).toInt64.toUInt64).toInt64) ||| ((q3 <<< ((36 : Int32) &&& 0x3f).toInt64) &&& (4503599627370495 : Int64)))), .second, .val (.long ((q3.toUInt64 >>> ((16 : Int32) &&& 0x3f).toInt64.toUInt64).toInt64)), .second] [(.long (q0 &&& (4503599627370495 : Int64))), (.long (G 0))])) _
    refine XS.lcmp X11.here hx rfl (hb hby at_200) rfl ?_
    show Steps p.tables e below (T11.setTop (mkF m 201 #[.val (.long q0), .second, .val (.long q1), .second, .val (.long q2), .second, .val (.long q3), .second, .val (.int p4), .val (.long q5), .second, .val (.ref b1), .val (.int (Int32.ofNat oN)), .val (.ref bL), .val (.long (4503599627370495 : Int64)), .second, .val (.long (q0 &&& (4503599627370495 : Int64))), .second, .val (.long (((q0.toUInt64 >>> ((52 : Int32) &&& 0x3f).toInt64.toUInt64).toInt64) ||| ((q1 <<< ((12 : Int32) &&& 0x3f).toInt64) &&& (4503599627370495 : Int64)))), .second, .val (.long (((q1.toUInt64 >>> ((40 : Int32) &&& 0x3f).toInt64.toUInt64).toInt64) ||| ((q2 <<< ((24 : Int32) &&& 0x3f).toInt64) &&& (4503599627370495 : Int64)))), .second, .val (.long (((q2.toUInt64 >>> ((28 : Int32) &&& 0x3f).toInt64.toUInt64).toInt64) ||| ((q3 <<< ((36 : Int32) &&& 0x3f).toInt64) &&& (4503599627370495 : Int64)))), .second, .val (.long ((q3.toUInt64 >>> ((16 : Int32) &&& 0x3f).toInt64.toUInt64).toInt64)), .second] [(.int (lcmpW (G 0) (q0 &&& (4503599627370495 : Int64))))])) _
    exact k
  refine own_go (T' := T11) (g' := (mkF m 211 #[.val (.long q0), .second, .val (.long q1), .second, .val (.long q2), .second, .val (.long q3), .second, .val (.int p4), .val (.long q5), .second, .val (.ref b1), .val (.int (Int32.ofNat oN)), .val (.ref bL), .val (.long (4503599627370495 : Int64)), .second, .val (.long (q0 &&& (4503599627370495 : Int64))), .second, .val (.long (((q0.toUInt64 >>> ((52 : Int32) &&& 0x3f).toInt64.toUInt64).toInt64) ||| ((q1 <<< ((12 : Int32) &&& 0x3f).toInt64) &&& (4503599627370495 : Int64)))), .second, .val (.long (((q1.toUInt64 >>> ((40 : Int32) &&& 0x3f).toInt64.toUInt64).toInt64) ||| ((q2 <<< ((24 : Int32) &&& 0x3f).toInt64) &&& (4503599627370495 : Int64)))), .second, .val (.long (((q2.toUInt64 >>> ((28 : Int32) &&& 0x3f).toInt64.toUInt64).toInt64) ||| ((q3 <<< ((36 : Int32) &&& 0x3f).toInt64) &&& (4503599627370495 : Int64)))), .second, .val (.long ((q3.toUInt64 >>> ((16 : Int32) &&& 0x3f).toInt64.toUInt64).toInt64)), .second] [(.int (lcmpW (G 1) (((q0.toUInt64 >>> ((52 : Int32) &&& 0x3f).toInt64.toUInt64).toInt64) ||| ((q1 <<< ((12 : Int32) &&& 0x3f).toInt64) &&& (4503599627370495 : Int64)))))])) (fun t k => ?_) ?_
  · show Steps p.tables e below (T11.setTop (mkF m 201 #[.val (.long q0), .second, .val (.long q1), .second, .val (.long q2), .second, .val (.long q3), .second, .val (.int p4), .val (.long q5), .second, .val (.ref b1), .val (.int (Int32.ofNat oN)), .val (.ref bL), .val (.long (4503599627370495 : Int64)), .second, .val (.long (q0 &&& (4503599627370495 : Int64))), .second, .val (.long (((q0.toUInt64 >>> ((52 : Int32) &&& 0x3f).toInt64.toUInt64).toInt64) ||| ((q1 <<< ((12 : Int32) &&& 0x3f).toInt64) &&& (4503599627370495 : Int64)))), .second, .val (.long (((q1.toUInt64 >>> ((40 : Int32) &&& 0x3f).toInt64.toUInt64).toInt64) ||| ((q2 <<< ((24 : Int32) &&& 0x3f).toInt64) &&& (4503599627370495 : Int64)))), .second, .val (.long (((q2.toUInt64 >>> ((28 : Int32) &&& 0x3f).toInt64.toUInt64).toInt64) ||| ((q3 <<< ((36 : Int32) &&& 0x3f).toInt64) &&& (4503599627370495 : Int64)))), .second, .val (.long ((q3.toUInt64 >>> ((16 : Int32) &&& 0x3f).toInt64.toUInt64).toInt64)), .second] [(.int (lcmpW (G 0) (q0 &&& (4503599627370495 : Int64))))])) t
    refine XS.ifNo X11.here hx rfl (hb hby at_201) rfl ((if0 _ _).trans (teq ((lw_eq _ _).mpr HL.1)).2) ?_
    show Steps p.tables e below (T11.setTop (mkF m 204 #[.val (.long q0), .second, .val (.long q1), .second, .val (.long q2), .second, .val (.long q3), .second, .val (.int p4), .val (.long q5), .second, .val (.ref b1), .val (.int (Int32.ofNat oN)), .val (.ref bL), .val (.long (4503599627370495 : Int64)), .second, .val (.long (q0 &&& (4503599627370495 : Int64))), .second, .val (.long (((q0.toUInt64 >>> ((52 : Int32) &&& 0x3f).toInt64.toUInt64).toInt64) ||| ((q1 <<< ((12 : Int32) &&& 0x3f).toInt64) &&& (4503599627370495 : Int64)))), .second, .val (.long (((q1.toUInt64 >>> ((40 : Int32) &&& 0x3f).toInt64.toUInt64).toInt64) ||| ((q2 <<< ((24 : Int32) &&& 0x3f).toInt64) &&& (4503599627370495 : Int64)))), .second, .val (.long (((q2.toUInt64 >>> ((28 : Int32) &&& 0x3f).toInt64.toUInt64).toInt64) ||| ((q3 <<< ((36 : Int32) &&& 0x3f).toInt64) &&& (4503599627370495 : Int64)))), .second, .val (.long ((q3.toUInt64 >>> ((16 : Int32) &&& 0x3f).toInt64.toUInt64).toInt64)), .second] [])) _
    refine XS.aload X11.here hx rfl (hb hby at_204) rfl rfl ?_
    show Steps p.tables e below (T11.setTop (mkF m 206 #[.val (.long q0), .second, .val (.long q1), .second, .val (.long q2), .second, .val (.long q3), .second, .val (.int p4), .val (.long q5), .second, .val (.ref b1), .val (.int (Int32.ofNat oN)), .val (.ref bL), .val (.long (4503599627370495 : Int64)), .second, .val (.long (q0 &&& (4503599627370495 : Int64))), .second, .val (.long (((q0.toUInt64 >>> ((52 : Int32) &&& 0x3f).toInt64.toUInt64).toInt64) ||| ((q1 <<< ((12 : Int32) &&& 0x3f).toInt64) &&& (4503599627370495 : Int64)))), .second, .val (.long (((q1.toUInt64 >>> ((40 : Int32) &&& 0x3f).toInt64.toUInt64).toInt64) ||| ((q2 <<< ((24 : Int32) &&& 0x3f).toInt64) &&& (4503599627370495 : Int64)))), .second, .val (.long (((q2.toUInt64 >>> ((28 : Int32) &&& 0x3f).toInt64.toUInt64).toInt64) ||| ((q3 <<< ((36 : Int32) &&& 0x3f).toInt64) &&& (4503599627370495 : Int64)))), .second, .val (.long ((q3.toUInt64 >>> ((16 : Int32) &&& 0x3f).toInt64.toUInt64).toInt64)), .second] [(.ref bL)])) _
    refine XS.iconst X11.here hx rfl (hb hby at_206) ?_
    show Steps p.tables e below (T11.setTop (mkF m 207 #[.val (.long q0), .second, .val (.long q1), .second, .val (.long q2), .second, .val (.long q3), .second, .val (.int p4), .val (.long q5), .second, .val (.ref b1), .val (.int (Int32.ofNat oN)), .val (.ref bL), .val (.long (4503599627370495 : Int64)), .second, .val (.long (q0 &&& (4503599627370495 : Int64))), .second, .val (.long (((q0.toUInt64 >>> ((52 : Int32) &&& 0x3f).toInt64.toUInt64).toInt64) ||| ((q1 <<< ((12 : Int32) &&& 0x3f).toInt64) &&& (4503599627370495 : Int64)))), .second, .val (.long (((q1.toUInt64 >>> ((40 : Int32) &&& 0x3f).toInt64.toUInt64).toInt64) ||| ((q2 <<< ((24 : Int32) &&& 0x3f).toInt64) &&& (4503599627370495 : Int64)))), .second, .val (.long (((q2.toUInt64 >>> ((28 : Int32) &&& 0x3f).toInt64.toUInt64).toInt64) ||| ((q3 <<< ((36 : Int32) &&& 0x3f).toInt64) &&& (4503599627370495 : Int64)))), .second, .val (.long ((q3.toUInt64 >>> ((16 : Int32) &&& 0x3f).toInt64.toUInt64).toInt64)), .second] [(.int (1 : Int32)), (.ref bL)])) _
    refine own_ldJ X11 hx hZ rfl VL (j := (1 : Int32)) (by decide) (v := (.long (G 1))) rfl (g := (mkF m 207 #[.val (.long q0), .second, .val (.long q1), .second, .val (.long q2), .second, .val (.long q3), .second, .val (.int p4), .val (.long q5), .second, .val (.ref b1), .val (.int (Int32.ofNat oN)), .val (.ref bL), .val (.long (4503599627370495 : Int64)), .second, .val (.long (q0 &&& (4503599627370495 : Int64))), .second, .val (.long (((q0.toUInt64 >>> ((52 : Int32) &&& 0x3f).toInt64.toUInt64).toInt64) ||| ((q1 <<< ((12 : Int32) &&& 0x3f).toInt64) &&& (4503599627370495 : Int64)))), .second, .val (.long (((q1.toUInt64 >>> ((40 : Int32) &&& 0x3f).toInt64.toUInt64).toInt64) ||| ((q2 <<< ((24 : Int32) &&& 0x3f).toInt64) &&& (4503599627370495 : Int64)))), .second, .val (.long (((q2.toUInt64 >>> ((28 : Int32) &&& 0x3f).toInt64.toUInt64).toInt64) ||| ((q3 <<< ((36 : Int32) &&& 0x3f).toInt64) &&& (4503599627370495 : Int64)))), .second, .val (.long ((q3.toUInt64 >>> ((16 : Int32) &&& 0x3f).toInt64.toUInt64).toInt64)), .second] [(.int (1 : Int32)), (.ref bL)])) rfl rfl (hb hby at_207) _ ?_
    show Steps p.tables e below (T11.setTop (mkF m 208 #[.val (.long q0), .second, .val (.long q1), .second, .val (.long q2), .second, .val (.long q3), .second, .val (.int p4), .val (.long q5), .second, .val (.ref b1), .val (.int (Int32.ofNat oN)), .val (.ref bL), .val (.long (4503599627370495 : Int64)), .second, .val (.long (q0 &&& (4503599627370495 : Int64))), .second, .val (.long (((q0.toUInt64 >>> ((52 : Int32) &&& 0x3f).toInt64.toUInt64).toInt64) ||| ((q1 <<< ((12 : Int32) &&& 0x3f).toInt64) &&& (4503599627370495 : Int64)))), .second, .val (.long (((q1.toUInt64 >>> ((40 : Int32) &&& 0x3f).toInt64.toUInt64).toInt64) ||| ((q2 <<< ((24 : Int32) &&& 0x3f).toInt64) &&& (4503599627370495 : Int64)))), .second, .val (.long (((q2.toUInt64 >>> ((28 : Int32) &&& 0x3f).toInt64.toUInt64).toInt64) ||| ((q3 <<< ((36 : Int32) &&& 0x3f).toInt64) &&& (4503599627370495 : Int64)))), .second, .val (.long ((q3.toUInt64 >>> ((16 : Int32) &&& 0x3f).toInt64.toUInt64).toInt64)), .second] [(.long (G 1))])) _
    refine XS.lload X11.here hx rfl (hb hby at_208) rfl ?_
    show Steps p.tables e below (T11.setTop (mkF m 210 #[.val (.long q0), .second, .val (.long q1), .second, .val (.long q2), .second, .val (.long q3), .second, .val (.int p4), .val (.long q5), .second, .val (.ref b1), .val (.int (Int32.ofNat oN)), .val (.ref bL), .val (.long (4503599627370495 : Int64)), .second, .val (.long (q0 &&& (4503599627370495 : Int64))), .second, .val (.long (((q0.toUInt64 >>> ((52 : Int32) &&& 0x3f).toInt64.toUInt64).toInt64) ||| ((q1 <<< ((12 : Int32) &&& 0x3f).toInt64) &&& (4503599627370495 : Int64)))), .second, .val (.long (((q1.toUInt64 >>> ((40 : Int32) &&& 0x3f).toInt64.toUInt64).toInt64) ||| ((q2 <<< ((24 : Int32) &&& 0x3f).toInt64) &&& (4503599627370495 : Int64)))), .second, .val (.long (((q2.toUInt64 >>> ((28 : Int32) &&& 0x3f).toInt64.toUInt64).toInt64) ||| ((q3 <<< ((36 : Int32) &&& 0x3f).toInt64) &&& (4503599627370495 : Int64)))), .second, .val (.long ((q3.toUInt64 >>> ((16 : Int32) &&& 0x3f).toInt64.toUInt64).toInt64)), .second] [(.long (((q0.toUInt64 >>> ((52 : Int32) &&& 0x3f).toInt64.toUInt64).toInt64) ||| ((q1 <<< ((12 : Int32) &&& 0x3f).toInt64) &&& (4503599627370495 : Int64)))), (.long (G 1))])) _
    refine XS.lcmp X11.here hx rfl (hb hby at_210) rfl ?_
    show Steps p.tables e below (T11.setTop (mkF m 211 #[.val (.long q0), .second, .val (.long q1), .second, .val (.long q2), .second, .val (.long q3), .second, .val (.int p4), .val (.long q5), .second, .val (.ref b1), .val (.int (Int32.ofNat oN)), .val (.ref bL), .val (.long (4503599627370495 : Int64)), .second, .val (.long (q0 &&& (4503599627370495 : Int64))), .second, .val (.long (((q0.toUInt64 >>> ((52 : Int32) &&& 0x3f).toInt64.toUInt64).toInt64) ||| ((q1 <<< ((12 : Int32) &&& 0x3f).toInt64) &&& (4503599627370495 : Int64)))), .second, .val (.long (((q1.toUInt64 >>> ((40 : Int32) &&& 0x3f).toInt64.toUInt64).toInt64) ||| ((q2 <<< ((24 : Int32) &&& 0x3f).toInt64) &&& (4503599627370495 : Int64)))), .second, .val (.long (((q2.toUInt64 >>> ((28 : Int32) &&& 0x3f).toInt64.toUInt64).toInt64) ||| ((q3 <<< ((36 : Int32) &&& 0x3f).toInt64) &&& (4503599627370495 : Int64)))), .second, .val (.long ((q3.toUInt64 >>> ((16 : Int32) &&& 0x3f).toInt64.toUInt64).toInt64)), .second] [(.int (lcmpW (G 1) (((q0.toUInt64 >>> ((52 : Int32) &&& 0x3f).toInt64.toUInt64).toInt64) ||| ((q1 <<< ((12 : Int32) &&& 0x3f).toInt64) &&& (4503599627370495 : Int64)))))])) _
    exact k
  refine own_go (T' := T11) (g' := (mkF m 221 #[.val (.long q0), .second, .val (.long q1), .second, .val (.long q2), .second, .val (.long q3), .second, .val (.int p4), .val (.long q5), .second, .val (.ref b1), .val (.int (Int32.ofNat oN)), .val (.ref bL), .val (.long (4503599627370495 : Int64)), .second, .val (.long (q0 &&& (4503599627370495 : Int64))), .second, .val (.long (((q0.toUInt64 >>> ((52 : Int32) &&& 0x3f).toInt64.toUInt64).toInt64) ||| ((q1 <<< ((12 : Int32) &&& 0x3f).toInt64) &&& (4503599627370495 : Int64)))), .second, .val (.long (((q1.toUInt64 >>> ((40 : Int32) &&& 0x3f).toInt64.toUInt64).toInt64) ||| ((q2 <<< ((24 : Int32) &&& 0x3f).toInt64) &&& (4503599627370495 : Int64)))), .second, .val (.long (((q2.toUInt64 >>> ((28 : Int32) &&& 0x3f).toInt64.toUInt64).toInt64) ||| ((q3 <<< ((36 : Int32) &&& 0x3f).toInt64) &&& (4503599627370495 : Int64)))), .second, .val (.long ((q3.toUInt64 >>> ((16 : Int32) &&& 0x3f).toInt64.toUInt64).toInt64)), .second] [(.int (lcmpW (G 2) (((q1.toUInt64 >>> ((40 : Int32) &&& 0x3f).toInt64.toUInt64).toInt64) ||| ((q2 <<< ((24 : Int32) &&& 0x3f).toInt64) &&& (4503599627370495 : Int64)))))])) (fun t k => ?_) ?_
  · show Steps p.tables e below (T11.setTop (mkF m 211 #[.val (.long q0), .second, .val (.long q1), .second, .val (.long q2), .second, .val (.long q3), .second, .val (.int p4), .val (.long q5), .second, .val (.ref b1), .val (.int (Int32.ofNat oN)), .val (.ref bL), .val (.long (4503599627370495 : Int64)), .second, .val (.long (q0 &&& (4503599627370495 : Int64))), .second, .val (.long (((q0.toUInt64 >>> ((52 : Int32) &&& 0x3f).toInt64.toUInt64).toInt64) ||| ((q1 <<< ((12 : Int32) &&& 0x3f).toInt64) &&& (4503599627370495 : Int64)))), .second, .val (.long (((q1.toUInt64 >>> ((40 : Int32) &&& 0x3f).toInt64.toUInt64).toInt64) ||| ((q2 <<< ((24 : Int32) &&& 0x3f).toInt64) &&& (4503599627370495 : Int64)))), .second, .val (.long (((q2.toUInt64 >>> ((28 : Int32) &&& 0x3f).toInt64.toUInt64).toInt64) ||| ((q3 <<< ((36 : Int32) &&& 0x3f).toInt64) &&& (4503599627370495 : Int64)))), .second, .val (.long ((q3.toUInt64 >>> ((16 : Int32) &&& 0x3f).toInt64.toUInt64).toInt64)), .second] [(.int (lcmpW (G 1) (((q0.toUInt64 >>> ((52 : Int32) &&& 0x3f).toInt64.toUInt64).toInt64) ||| ((q1 <<< ((12 : Int32) &&& 0x3f).toInt64) &&& (4503599627370495 : Int64)))))])) t
    refine XS.ifNo X11.here hx rfl (hb hby at_211) rfl ((if0 _ _).trans (teq ((lw_eq _ _).mpr HL.2.1)).2) ?_
    show Steps p.tables e below (T11.setTop (mkF m 214 #[.val (.long q0), .second, .val (.long q1), .second, .val (.long q2), .second, .val (.long q3), .second, .val (.int p4), .val (.long q5), .second, .val (.ref b1), .val (.int (Int32.ofNat oN)), .val (.ref bL), .val (.long (4503599627370495 : Int64)), .second, .val (.long (q0 &&& (4503599627370495 : Int64))), .second, .val (.long (((q0.toUInt64 >>> ((52 : Int32) &&& 0x3f).toInt64.toUInt64).toInt64) ||| ((q1 <<< ((12 : Int32) &&& 0x3f).toInt64) &&& (4503599627370495 : Int64)))), .second, .val (.long (((q1.toUInt64 >>> ((40 : Int32) &&& 0x3f).toInt64.toUInt64).toInt64) ||| ((q2 <<< ((24 : Int32) &&& 0x3f).toInt64) &&& (4503599627370495 : Int64)))), .second, .val (.long (((q2.toUInt64 >>> ((28 : Int32) &&& 0x3f).toInt64.toUInt64).toInt64) ||| ((q3 <<< ((36 : Int32) &&& 0x3f).toInt64) &&& (4503599627370495 : Int64)))), .second, .val (.long ((q3.toUInt64 >>> ((16 : Int32) &&& 0x3f).toInt64.toUInt64).toInt64)), .second] [])) _
    refine XS.aload X11.here hx rfl (hb hby at_214) rfl rfl ?_
    show Steps p.tables e below (T11.setTop (mkF m 216 #[.val (.long q0), .second, .val (.long q1), .second, .val (.long q2), .second, .val (.long q3), .second, .val (.int p4), .val (.long q5), .second, .val (.ref b1), .val (.int (Int32.ofNat oN)), .val (.ref bL), .val (.long (4503599627370495 : Int64)), .second, .val (.long (q0 &&& (4503599627370495 : Int64))), .second, .val (.long (((q0.toUInt64 >>> ((52 : Int32) &&& 0x3f).toInt64.toUInt64).toInt64) ||| ((q1 <<< ((12 : Int32) &&& 0x3f).toInt64) &&& (4503599627370495 : Int64)))), .second, .val (.long (((q1.toUInt64 >>> ((40 : Int32) &&& 0x3f).toInt64.toUInt64).toInt64) ||| ((q2 <<< ((24 : Int32) &&& 0x3f).toInt64) &&& (4503599627370495 : Int64)))), .second, .val (.long (((q2.toUInt64 >>> ((28 : Int32) &&& 0x3f).toInt64.toUInt64).toInt64) ||| ((q3 <<< ((36 : Int32) &&& 0x3f).toInt64) &&& (4503599627370495 : Int64)))), .second, .val (.long ((q3.toUInt64 >>> ((16 : Int32) &&& 0x3f).toInt64.toUInt64).toInt64)), .second] [(.ref bL)])) _
    refine XS.iconst X11.here hx rfl (hb hby at_216) ?_
    show Steps p.tables e below (T11.setTop (mkF m 217 #[.val (.long q0), .second, .val (.long q1), .second, .val (.long q2), .second, .val (.long q3), .second, .val (.int p4), .val (.long q5), .second, .val (.ref b1), .val (.int (Int32.ofNat oN)), .val (.ref bL), .val (.long (4503599627370495 : Int64)), .second, .val (.long (q0 &&& (4503599627370495 : Int64))), .second, .val (.long (((q0.toUInt64 >>> ((52 : Int32) &&& 0x3f).toInt64.toUInt64).toInt64) ||| ((q1 <<< ((12 : Int32) &&& 0x3f).toInt64) &&& (4503599627370495 : Int64)))), .second, .val (.long (((q1.toUInt64 >>> ((40 : Int32) &&& 0x3f).toInt64.toUInt64).toInt64) ||| ((q2 <<< ((24 : Int32) &&& 0x3f).toInt64) &&& (4503599627370495 : Int64)))), .second, .val (.long (((q2.toUInt64 >>> ((28 : Int32) &&& 0x3f).toInt64.toUInt64).toInt64) ||| ((q3 <<< ((36 : Int32) &&& 0x3f).toInt64) &&& (4503599627370495 : Int64)))), .second, .val (.long ((q3.toUInt64 >>> ((16 : Int32) &&& 0x3f).toInt64.toUInt64).toInt64)), .second] [(.int (2 : Int32)), (.ref bL)])) _
    refine own_ldJ X11 hx hZ rfl VL (j := (2 : Int32)) (by decide) (v := (.long (G 2))) rfl (g := (mkF m 217 #[.val (.long q0), .second, .val (.long q1), .second, .val (.long q2), .second, .val (.long q3), .second, .val (.int p4), .val (.long q5), .second, .val (.ref b1), .val (.int (Int32.ofNat oN)), .val (.ref bL), .val (.long (4503599627370495 : Int64)), .second, .val (.long (q0 &&& (4503599627370495 : Int64))), .second, .val (.long (((q0.toUInt64 >>> ((52 : Int32) &&& 0x3f).toInt64.toUInt64).toInt64) ||| ((q1 <<< ((12 : Int32) &&& 0x3f).toInt64) &&& (4503599627370495 : Int64)))), .second, .val (.long (((q1.toUInt64 >>> ((40 : Int32) &&& 0x3f).toInt64.toUInt64).toInt64) ||| ((q2 <<< ((24 : Int32) &&& 0x3f).toInt64) &&& (4503599627370495 : Int64)))), .second, .val (.long (((q2.toUInt64 >>> ((28 : Int32) &&& 0x3f).toInt64.toUInt64).toInt64) ||| ((q3 <<< ((36 : Int32) &&& 0x3f).toInt64) &&& (4503599627370495 : Int64)))), .second, .val (.long ((q3.toUInt64 >>> ((16 : Int32) &&& 0x3f).toInt64.toUInt64).toInt64)), .second] [(.int (2 : Int32)), (.ref bL)])) rfl rfl (hb hby at_217) _ ?_
    show Steps p.tables e below (T11.setTop (mkF m 218 #[.val (.long q0), .second, .val (.long q1), .second, .val (.long q2), .second, .val (.long q3), .second, .val (.int p4), .val (.long q5), .second, .val (.ref b1), .val (.int (Int32.ofNat oN)), .val (.ref bL), .val (.long (4503599627370495 : Int64)), .second, .val (.long (q0 &&& (4503599627370495 : Int64))), .second, .val (.long (((q0.toUInt64 >>> ((52 : Int32) &&& 0x3f).toInt64.toUInt64).toInt64) ||| ((q1 <<< ((12 : Int32) &&& 0x3f).toInt64) &&& (4503599627370495 : Int64)))), .second, .val (.long (((q1.toUInt64 >>> ((40 : Int32) &&& 0x3f).toInt64.toUInt64).toInt64) ||| ((q2 <<< ((24 : Int32) &&& 0x3f).toInt64) &&& (4503599627370495 : Int64)))), .second, .val (.long (((q2.toUInt64 >>> ((28 : Int32) &&& 0x3f).toInt64.toUInt64).toInt64) ||| ((q3 <<< ((36 : Int32) &&& 0x3f).toInt64) &&& (4503599627370495 : Int64)))), .second, .val (.long ((q3.toUInt64 >>> ((16 : Int32) &&& 0x3f).toInt64.toUInt64).toInt64)), .second] [(.long (G 2))])) _
    refine XS.lload X11.here hx rfl (hb hby at_218) rfl ?_
    show Steps p.tables e below (T11.setTop (mkF m 220 #[.val (.long q0), .second, .val (.long q1), .second, .val (.long q2), .second, .val (.long q3), .second, .val (.int p4), .val (.long q5), .second, .val (.ref b1), .val (.int (Int32.ofNat oN)), .val (.ref bL), .val (.long (4503599627370495 : Int64)), .second, .val (.long (q0 &&& (4503599627370495 : Int64))), .second, .val (.long (((q0.toUInt64 >>> ((52 : Int32) &&& 0x3f).toInt64.toUInt64).toInt64) ||| ((q1 <<< ((12 : Int32) &&& 0x3f).toInt64) &&& (4503599627370495 : Int64)))), .second, .val (.long (((q1.toUInt64 >>> ((40 : Int32) &&& 0x3f).toInt64.toUInt64).toInt64) ||| ((q2 <<< ((24 : Int32) &&& 0x3f).toInt64) &&& (4503599627370495 : Int64)))), .second, .val (.long (((q2.toUInt64 >>> ((28 : Int32) &&& 0x3f).toInt64.toUInt64).toInt64) ||| ((q3 <<< ((36 : Int32) &&& 0x3f).toInt64) &&& (4503599627370495 : Int64)))), .second, .val (.long ((q3.toUInt64 >>> ((16 : Int32) &&& 0x3f).toInt64.toUInt64).toInt64)), .second] [(.long (((q1.toUInt64 >>> ((40 : Int32) &&& 0x3f).toInt64.toUInt64).toInt64) ||| ((q2 <<< ((24 : Int32) &&& 0x3f).toInt64) &&& (4503599627370495 : Int64)))), (.long (G 2))])) _
    refine XS.lcmp X11.here hx rfl (hb hby at_220) rfl ?_
    show Steps p.tables e below (T11.setTop (mkF m 221 #[.val (.long q0), .second, .val (.long q1), .second, .val (.long q2), .second, .val (.long q3), .second, .val (.int p4), .val (.long q5), .second, .val (.ref b1), .val (.int (Int32.ofNat oN)), .val (.ref bL), .val (.long (4503599627370495 : Int64)), .second, .val (.long (q0 &&& (4503599627370495 : Int64))), .second, .val (.long (((q0.toUInt64 >>> ((52 : Int32) &&& 0x3f).toInt64.toUInt64).toInt64) ||| ((q1 <<< ((12 : Int32) &&& 0x3f).toInt64) &&& (4503599627370495 : Int64)))), .second, .val (.long (((q1.toUInt64 >>> ((40 : Int32) &&& 0x3f).toInt64.toUInt64).toInt64) ||| ((q2 <<< ((24 : Int32) &&& 0x3f).toInt64) &&& (4503599627370495 : Int64)))), .second, .val (.long (((q2.toUInt64 >>> ((28 : Int32) &&& 0x3f).toInt64.toUInt64).toInt64) ||| ((q3 <<< ((36 : Int32) &&& 0x3f).toInt64) &&& (4503599627370495 : Int64)))), .second, .val (.long ((q3.toUInt64 >>> ((16 : Int32) &&& 0x3f).toInt64.toUInt64).toInt64)), .second] [(.int (lcmpW (G 2) (((q1.toUInt64 >>> ((40 : Int32) &&& 0x3f).toInt64.toUInt64).toInt64) ||| ((q2 <<< ((24 : Int32) &&& 0x3f).toInt64) &&& (4503599627370495 : Int64)))))])) _
    exact k
  refine own_go (T' := T11) (g' := (mkF m 231 #[.val (.long q0), .second, .val (.long q1), .second, .val (.long q2), .second, .val (.long q3), .second, .val (.int p4), .val (.long q5), .second, .val (.ref b1), .val (.int (Int32.ofNat oN)), .val (.ref bL), .val (.long (4503599627370495 : Int64)), .second, .val (.long (q0 &&& (4503599627370495 : Int64))), .second, .val (.long (((q0.toUInt64 >>> ((52 : Int32) &&& 0x3f).toInt64.toUInt64).toInt64) ||| ((q1 <<< ((12 : Int32) &&& 0x3f).toInt64) &&& (4503599627370495 : Int64)))), .second, .val (.long (((q1.toUInt64 >>> ((40 : Int32) &&& 0x3f).toInt64.toUInt64).toInt64) ||| ((q2 <<< ((24 : Int32) &&& 0x3f).toInt64) &&& (4503599627370495 : Int64)))), .second, .val (.long (((q2.toUInt64 >>> ((28 : Int32) &&& 0x3f).toInt64.toUInt64).toInt64) ||| ((q3 <<< ((36 : Int32) &&& 0x3f).toInt64) &&& (4503599627370495 : Int64)))), .second, .val (.long ((q3.toUInt64 >>> ((16 : Int32) &&& 0x3f).toInt64.toUInt64).toInt64)), .second] [(.int (lcmpW (G 3) (((q2.toUInt64 >>> ((28 : Int32) &&& 0x3f).toInt64.toUInt64).toInt64) ||| ((q3 <<< ((36 : Int32) &&& 0x3f).toInt64) &&& (4503599627370495 : Int64)))))])) (fun t k => ?_) ?_
  · show Steps p.tables e below (T11.setTop (mkF m 221 #[.val (.long q0), .second, .val (.long q1), .second, .val (.long q2), .second, .val (.long q3), .second, .val (.int p4), .val (.long q5), .second, .val (.ref b1), .val (.int (Int32.ofNat oN)), .val (.ref bL), .val (.long (4503599627370495 : Int64)), .second, .val (.long (q0 &&& (4503599627370495 : Int64))), .second, .val (.long (((q0.toUInt64 >>> ((52 : Int32) &&& 0x3f).toInt64.toUInt64).toInt64) ||| ((q1 <<< ((12 : Int32) &&& 0x3f).toInt64) &&& (4503599627370495 : Int64)))), .second, .val (.long (((q1.toUInt64 >>> ((40 : Int32) &&& 0x3f).toInt64.toUInt64).toInt64) ||| ((q2 <<< ((24 : Int32) &&& 0x3f).toInt64) &&& (4503599627370495 : Int64)))), .second, .val (.long (((q2.toUInt64 >>> ((28 : Int32) &&& 0x3f).toInt64.toUInt64).toInt64) ||| ((q3 <<< ((36 : Int32) &&& 0x3f).toInt64) &&& (4503599627370495 : Int64)))), .second, .val (.long ((q3.toUInt64 >>> ((16 : Int32) &&& 0x3f).toInt64.toUInt64).toInt64)), .second] [(.int (lcmpW (G 2) (((q1.toUInt64 >>> ((40 : Int32) &&& 0x3f).toInt64.toUInt64).toInt64) ||| ((q2 <<< ((24 : Int32) &&& 0x3f).toInt64) &&& (4503599627370495 : Int64)))))])) t
    refine XS.ifNo X11.here hx rfl (hb hby at_221) rfl ((if0 _ _).trans (teq ((lw_eq _ _).mpr HL.2.2.1)).2) ?_
    show Steps p.tables e below (T11.setTop (mkF m 224 #[.val (.long q0), .second, .val (.long q1), .second, .val (.long q2), .second, .val (.long q3), .second, .val (.int p4), .val (.long q5), .second, .val (.ref b1), .val (.int (Int32.ofNat oN)), .val (.ref bL), .val (.long (4503599627370495 : Int64)), .second, .val (.long (q0 &&& (4503599627370495 : Int64))), .second, .val (.long (((q0.toUInt64 >>> ((52 : Int32) &&& 0x3f).toInt64.toUInt64).toInt64) ||| ((q1 <<< ((12 : Int32) &&& 0x3f).toInt64) &&& (4503599627370495 : Int64)))), .second, .val (.long (((q1.toUInt64 >>> ((40 : Int32) &&& 0x3f).toInt64.toUInt64).toInt64) ||| ((q2 <<< ((24 : Int32) &&& 0x3f).toInt64) &&& (4503599627370495 : Int64)))), .second, .val (.long (((q2.toUInt64 >>> ((28 : Int32) &&& 0x3f).toInt64.toUInt64).toInt64) ||| ((q3 <<< ((36 : Int32) &&& 0x3f).toInt64) &&& (4503599627370495 : Int64)))), .second, .val (.long ((q3.toUInt64 >>> ((16 : Int32) &&& 0x3f).toInt64.toUInt64).toInt64)), .second] [])) _
    refine XS.aload X11.here hx rfl (hb hby at_224) rfl rfl ?_
    show Steps p.tables e below (T11.setTop (mkF m 226 #[.val (.long q0), .second, .val (.long q1), .second, .val (.long q2), .second, .val (.long q3), .second, .val (.int p4), .val (.long q5), .second, .val (.ref b1), .val (.int (Int32.ofNat oN)), .val (.ref bL), .val (.long (4503599627370495 : Int64)), .second, .val (.long (q0 &&& (4503599627370495 : Int64))), .second, .val (.long (((q0.toUInt64 >>> ((52 : Int32) &&& 0x3f).toInt64.toUInt64).toInt64) ||| ((q1 <<< ((12 : Int32) &&& 0x3f).toInt64) &&& (4503599627370495 : Int64)))), .second, .val (.long (((q1.toUInt64 >>> ((40 : Int32) &&& 0x3f).toInt64.toUInt64).toInt64) ||| ((q2 <<< ((24 : Int32) &&& 0x3f).toInt64) &&& (4503599627370495 : Int64)))), .second, .val (.long (((q2.toUInt64 >>> ((28 : Int32) &&& 0x3f).toInt64.toUInt64).toInt64) ||| ((q3 <<< ((36 : Int32) &&& 0x3f).toInt64) &&& (4503599627370495 : Int64)))), .second, .val (.long ((q3.toUInt64 >>> ((16 : Int32) &&& 0x3f).toInt64.toUInt64).toInt64)), .second] [(.ref bL)])) _
    refine XS.iconst X11.here hx rfl (hb hby at_226) ?_
    show Steps p.tables e below (T11.setTop (mkF m 227 #[.val (.long q0), .second, .val (.long q1), .second, .val (.long q2), .second, .val (.long q3), .second, .val (.int p4), .val (.long q5), .second, .val (.ref b1), .val (.int (Int32.ofNat oN)), .val (.ref bL), .val (.long (4503599627370495 : Int64)), .second, .val (.long (q0 &&& (4503599627370495 : Int64))), .second, .val (.long (((q0.toUInt64 >>> ((52 : Int32) &&& 0x3f).toInt64.toUInt64).toInt64) ||| ((q1 <<< ((12 : Int32) &&& 0x3f).toInt64) &&& (4503599627370495 : Int64)))), .second, .val (.long (((q1.toUInt64 >>> ((40 : Int32) &&& 0x3f).toInt64.toUInt64).toInt64) ||| ((q2 <<< ((24 : Int32) &&& 0x3f).toInt64) &&& (4503599627370495 : Int64)))), .second, .val (.long (((q2.toUInt64 >>> ((28 : Int32) &&& 0x3f).toInt64.toUInt64).toInt64) ||| ((q3 <<< ((36 : Int32) &&& 0x3f).toInt64) &&& (4503599627370495 : Int64)))), .second, .val (.long ((q3.toUInt64 >>> ((16 : Int32) &&& 0x3f).toInt64.toUInt64).toInt64)), .second] [(.int (3 : Int32)), (.ref bL)])) _
    refine own_ldJ X11 hx hZ rfl VL (j := (3 : Int32)) (by decide) (v := (.long (G 3))) rfl (g := (mkF m 227 #[.val (.long q0), .second, .val (.long q1), .second, .val (.long q2), .second, .val (.long q3), .second, .val (.int p4), .val (.long q5), .second, .val (.ref b1), .val (.int (Int32.ofNat oN)), .val (.ref bL), .val (.long (4503599627370495 : Int64)), .second, .val (.long (q0 &&& (4503599627370495 : Int64))), .second, .val (.long (((q0.toUInt64 >>> ((52 : Int32) &&& 0x3f).toInt64.toUInt64).toInt64) ||| ((q1 <<< ((12 : Int32) &&& 0x3f).toInt64) &&& (4503599627370495 : Int64)))), .second, .val (.long (((q1.toUInt64 >>> ((40 : Int32) &&& 0x3f).toInt64.toUInt64).toInt64) ||| ((q2 <<< ((24 : Int32) &&& 0x3f).toInt64) &&& (4503599627370495 : Int64)))), .second, .val (.long (((q2.toUInt64 >>> ((28 : Int32) &&& 0x3f).toInt64.toUInt64).toInt64) ||| ((q3 <<< ((36 : Int32) &&& 0x3f).toInt64) &&& (4503599627370495 : Int64)))), .second, .val (.long ((q3.toUInt64 >>> ((16 : Int32) &&& 0x3f).toInt64.toUInt64).toInt64)), .second] [(.int (3 : Int32)), (.ref bL)])) rfl rfl (hb hby at_227) _ ?_
    show Steps p.tables e below (T11.setTop (mkF m 228 #[.val (.long q0), .second, .val (.long q1), .second, .val (.long q2), .second, .val (.long q3), .second, .val (.int p4), .val (.long q5), .second, .val (.ref b1), .val (.int (Int32.ofNat oN)), .val (.ref bL), .val (.long (4503599627370495 : Int64)), .second, .val (.long (q0 &&& (4503599627370495 : Int64))), .second, .val (.long (((q0.toUInt64 >>> ((52 : Int32) &&& 0x3f).toInt64.toUInt64).toInt64) ||| ((q1 <<< ((12 : Int32) &&& 0x3f).toInt64) &&& (4503599627370495 : Int64)))), .second, .val (.long (((q1.toUInt64 >>> ((40 : Int32) &&& 0x3f).toInt64.toUInt64).toInt64) ||| ((q2 <<< ((24 : Int32) &&& 0x3f).toInt64) &&& (4503599627370495 : Int64)))), .second, .val (.long (((q2.toUInt64 >>> ((28 : Int32) &&& 0x3f).toInt64.toUInt64).toInt64) ||| ((q3 <<< ((36 : Int32) &&& 0x3f).toInt64) &&& (4503599627370495 : Int64)))), .second, .val (.long ((q3.toUInt64 >>> ((16 : Int32) &&& 0x3f).toInt64.toUInt64).toInt64)), .second] [(.long (G 3))])) _
    refine XS.lload X11.here hx rfl (hb hby at_228) rfl ?_
    show Steps p.tables e below (T11.setTop (mkF m 230 #[.val (.long q0), .second, .val (.long q1), .second, .val (.long q2), .second, .val (.long q3), .second, .val (.int p4), .val (.long q5), .second, .val (.ref b1), .val (.int (Int32.ofNat oN)), .val (.ref bL), .val (.long (4503599627370495 : Int64)), .second, .val (.long (q0 &&& (4503599627370495 : Int64))), .second, .val (.long (((q0.toUInt64 >>> ((52 : Int32) &&& 0x3f).toInt64.toUInt64).toInt64) ||| ((q1 <<< ((12 : Int32) &&& 0x3f).toInt64) &&& (4503599627370495 : Int64)))), .second, .val (.long (((q1.toUInt64 >>> ((40 : Int32) &&& 0x3f).toInt64.toUInt64).toInt64) ||| ((q2 <<< ((24 : Int32) &&& 0x3f).toInt64) &&& (4503599627370495 : Int64)))), .second, .val (.long (((q2.toUInt64 >>> ((28 : Int32) &&& 0x3f).toInt64.toUInt64).toInt64) ||| ((q3 <<< ((36 : Int32) &&& 0x3f).toInt64) &&& (4503599627370495 : Int64)))), .second, .val (.long ((q3.toUInt64 >>> ((16 : Int32) &&& 0x3f).toInt64.toUInt64).toInt64)), .second] [(.long (((q2.toUInt64 >>> ((28 : Int32) &&& 0x3f).toInt64.toUInt64).toInt64) ||| ((q3 <<< ((36 : Int32) &&& 0x3f).toInt64) &&& (4503599627370495 : Int64)))), (.long (G 3))])) _
    refine XS.lcmp X11.here hx rfl (hb hby at_230) rfl ?_
    show Steps p.tables e below (T11.setTop (mkF m 231 #[.val (.long q0), .second, .val (.long q1), .second, .val (.long q2), .second, .val (.long q3), .second, .val (.int p4), .val (.long q5), .second, .val (.ref b1), .val (.int (Int32.ofNat oN)), .val (.ref bL), .val (.long (4503599627370495 : Int64)), .second, .val (.long (q0 &&& (4503599627370495 : Int64))), .second, .val (.long (((q0.toUInt64 >>> ((52 : Int32) &&& 0x3f).toInt64.toUInt64).toInt64) ||| ((q1 <<< ((12 : Int32) &&& 0x3f).toInt64) &&& (4503599627370495 : Int64)))), .second, .val (.long (((q1.toUInt64 >>> ((40 : Int32) &&& 0x3f).toInt64.toUInt64).toInt64) ||| ((q2 <<< ((24 : Int32) &&& 0x3f).toInt64) &&& (4503599627370495 : Int64)))), .second, .val (.long (((q2.toUInt64 >>> ((28 : Int32) &&& 0x3f).toInt64.toUInt64).toInt64) ||| ((q3 <<< ((36 : Int32) &&& 0x3f).toInt64) &&& (4503599627370495 : Int64)))), .second, .val (.long ((q3.toUInt64 >>> ((16 : Int32) &&& 0x3f).toInt64.toUInt64).toInt64)), .second] [(.int (lcmpW (G 3) (((q2.toUInt64 >>> ((28 : Int32) &&& 0x3f).toInt64.toUInt64).toInt64) ||| ((q3 <<< ((36 : Int32) &&& 0x3f).toInt64) &&& (4503599627370495 : Int64)))))])) _
    exact k
  refine own_go (T' := T11) (g' := (mkF m 241 #[.val (.long q0), .second, .val (.long q1), .second, .val (.long q2), .second, .val (.long q3), .second, .val (.int p4), .val (.long q5), .second, .val (.ref b1), .val (.int (Int32.ofNat oN)), .val (.ref bL), .val (.long (4503599627370495 : Int64)), .second, .val (.long (q0 &&& (4503599627370495 : Int64))), .second, .val (.long (((q0.toUInt64 >>> ((52 : Int32) &&& 0x3f).toInt64.toUInt64).toInt64) ||| ((q1 <<< ((12 : Int32) &&& 0x3f).toInt64) &&& (4503599627370495 : Int64)))), .second, .val (.long (((q1.toUInt64 >>> ((40 : Int32) &&& 0x3f).toInt64.toUInt64).toInt64) ||| ((q2 <<< ((24 : Int32) &&& 0x3f).toInt64) &&& (4503599627370495 : Int64)))), .second, .val (.long (((q2.toUInt64 >>> ((28 : Int32) &&& 0x3f).toInt64.toUInt64).toInt64) ||| ((q3 <<< ((36 : Int32) &&& 0x3f).toInt64) &&& (4503599627370495 : Int64)))), .second, .val (.long ((q3.toUInt64 >>> ((16 : Int32) &&& 0x3f).toInt64.toUInt64).toInt64)), .second] [(.int (lcmpW (G 4) ((q3.toUInt64 >>> ((16 : Int32) &&& 0x3f).toInt64.toUInt64).toInt64)))])) (fun t k => ?_) ?_
  · show Steps p.tables e below (T11.setTop (mkF m 231 #[.val (.long q0), .second, .val (.long q1), .second, .val (.long q2), .second, .val (.long q3), .second, .val (.int p4), .val (.long q5), .second, .val (.ref b1), .val (.int (Int32.ofNat oN)), .val (.ref bL), .val (.long (4503599627370495 : Int64)), .second, .val (.long (q0 &&& (4503599627370495 : Int64))), .second, .val (.long (((q0.toUInt64 >>> ((52 : Int32) &&& 0x3f).toInt64.toUInt64).toInt64) ||| ((q1 <<< ((12 : Int32) &&& 0x3f).toInt64) &&& (4503599627370495 : Int64)))), .second, .val (.long (((q1.toUInt64 >>> ((40 : Int32) &&& 0x3f).toInt64.toUInt64).toInt64) ||| ((q2 <<< ((24 : Int32) &&& 0x3f).toInt64) &&& (4503599627370495 : Int64)))), .second, .val (.long (((q2.toUInt64 >>> ((28 : Int32) &&& 0x3f).toInt64.toUInt64).toInt64) ||| ((q3 <<< ((36 : Int32) &&& 0x3f).toInt64) &&& (4503599627370495 : Int64)))), .second, .val (.long ((q3.toUInt64 >>> ((16 : Int32) &&& 0x3f).toInt64.toUInt64).toInt64)), .second] [(.int (lcmpW (G 3) (((q2.toUInt64 >>> ((28 : Int32) &&& 0x3f).toInt64.toUInt64).toInt64) ||| ((q3 <<< ((36 : Int32) &&& 0x3f).toInt64) &&& (4503599627370495 : Int64)))))])) t
    refine XS.ifNo X11.here hx rfl (hb hby at_231) rfl ((if0 _ _).trans (teq ((lw_eq _ _).mpr HL.2.2.2.1)).2) ?_
    show Steps p.tables e below (T11.setTop (mkF m 234 #[.val (.long q0), .second, .val (.long q1), .second, .val (.long q2), .second, .val (.long q3), .second, .val (.int p4), .val (.long q5), .second, .val (.ref b1), .val (.int (Int32.ofNat oN)), .val (.ref bL), .val (.long (4503599627370495 : Int64)), .second, .val (.long (q0 &&& (4503599627370495 : Int64))), .second, .val (.long (((q0.toUInt64 >>> ((52 : Int32) &&& 0x3f).toInt64.toUInt64).toInt64) ||| ((q1 <<< ((12 : Int32) &&& 0x3f).toInt64) &&& (4503599627370495 : Int64)))), .second, .val (.long (((q1.toUInt64 >>> ((40 : Int32) &&& 0x3f).toInt64.toUInt64).toInt64) ||| ((q2 <<< ((24 : Int32) &&& 0x3f).toInt64) &&& (4503599627370495 : Int64)))), .second, .val (.long (((q2.toUInt64 >>> ((28 : Int32) &&& 0x3f).toInt64.toUInt64).toInt64) ||| ((q3 <<< ((36 : Int32) &&& 0x3f).toInt64) &&& (4503599627370495 : Int64)))), .second, .val (.long ((q3.toUInt64 >>> ((16 : Int32) &&& 0x3f).toInt64.toUInt64).toInt64)), .second] [])) _
    refine XS.aload X11.here hx rfl (hb hby at_234) rfl rfl ?_
    show Steps p.tables e below (T11.setTop (mkF m 236 #[.val (.long q0), .second, .val (.long q1), .second, .val (.long q2), .second, .val (.long q3), .second, .val (.int p4), .val (.long q5), .second, .val (.ref b1), .val (.int (Int32.ofNat oN)), .val (.ref bL), .val (.long (4503599627370495 : Int64)), .second, .val (.long (q0 &&& (4503599627370495 : Int64))), .second, .val (.long (((q0.toUInt64 >>> ((52 : Int32) &&& 0x3f).toInt64.toUInt64).toInt64) ||| ((q1 <<< ((12 : Int32) &&& 0x3f).toInt64) &&& (4503599627370495 : Int64)))), .second, .val (.long (((q1.toUInt64 >>> ((40 : Int32) &&& 0x3f).toInt64.toUInt64).toInt64) ||| ((q2 <<< ((24 : Int32) &&& 0x3f).toInt64) &&& (4503599627370495 : Int64)))), .second, .val (.long (((q2.toUInt64 >>> ((28 : Int32) &&& 0x3f).toInt64.toUInt64).toInt64) ||| ((q3 <<< ((36 : Int32) &&& 0x3f).toInt64) &&& (4503599627370495 : Int64)))), .second, .val (.long ((q3.toUInt64 >>> ((16 : Int32) &&& 0x3f).toInt64.toUInt64).toInt64)), .second] [(.ref bL)])) _
    refine XS.iconst X11.here hx rfl (hb hby at_236) ?_
    show Steps p.tables e below (T11.setTop (mkF m 237 #[.val (.long q0), .second, .val (.long q1), .second, .val (.long q2), .second, .val (.long q3), .second, .val (.int p4), .val (.long q5), .second, .val (.ref b1), .val (.int (Int32.ofNat oN)), .val (.ref bL), .val (.long (4503599627370495 : Int64)), .second, .val (.long (q0 &&& (4503599627370495 : Int64))), .second, .val (.long (((q0.toUInt64 >>> ((52 : Int32) &&& 0x3f).toInt64.toUInt64).toInt64) ||| ((q1 <<< ((12 : Int32) &&& 0x3f).toInt64) &&& (4503599627370495 : Int64)))), .second, .val (.long (((q1.toUInt64 >>> ((40 : Int32) &&& 0x3f).toInt64.toUInt64).toInt64) ||| ((q2 <<< ((24 : Int32) &&& 0x3f).toInt64) &&& (4503599627370495 : Int64)))), .second, .val (.long (((q2.toUInt64 >>> ((28 : Int32) &&& 0x3f).toInt64.toUInt64).toInt64) ||| ((q3 <<< ((36 : Int32) &&& 0x3f).toInt64) &&& (4503599627370495 : Int64)))), .second, .val (.long ((q3.toUInt64 >>> ((16 : Int32) &&& 0x3f).toInt64.toUInt64).toInt64)), .second] [(.int (4 : Int32)), (.ref bL)])) _
    refine own_ldJ X11 hx hZ rfl VL (j := (4 : Int32)) (by decide) (v := (.long (G 4))) rfl (g := (mkF m 237 #[.val (.long q0), .second, .val (.long q1), .second, .val (.long q2), .second, .val (.long q3), .second, .val (.int p4), .val (.long q5), .second, .val (.ref b1), .val (.int (Int32.ofNat oN)), .val (.ref bL), .val (.long (4503599627370495 : Int64)), .second, .val (.long (q0 &&& (4503599627370495 : Int64))), .second, .val (.long (((q0.toUInt64 >>> ((52 : Int32) &&& 0x3f).toInt64.toUInt64).toInt64) ||| ((q1 <<< ((12 : Int32) &&& 0x3f).toInt64) &&& (4503599627370495 : Int64)))), .second, .val (.long (((q1.toUInt64 >>> ((40 : Int32) &&& 0x3f).toInt64.toUInt64).toInt64) ||| ((q2 <<< ((24 : Int32) &&& 0x3f).toInt64) &&& (4503599627370495 : Int64)))), .second, .val (.long (((q2.toUInt64 >>> ((28 : Int32) &&& 0x3f).toInt64.toUInt64).toInt64) ||| ((q3 <<< ((36 : Int32) &&& 0x3f).toInt64) &&& (4503599627370495 : Int64)))), .second, .val (.long ((q3.toUInt64 >>> ((16 : Int32) &&& 0x3f).toInt64.toUInt64).toInt64)), .second] [(.int (4 : Int32)), (.ref bL)])) rfl rfl (hb hby at_237) _ ?_
    show Steps p.tables e below (T11.setTop (mkF m 238 #[.val (.long q0), .second, .val (.long q1), .second, .val (.long q2), .second, .val (.long q3), .second, .val (.int p4), .val (.long q5), .second, .val (.ref b1), .val (.int (Int32.ofNat oN)), .val (.ref bL), .val (.long (4503599627370495 : Int64)), .second, .val (.long (q0 &&& (4503599627370495 : Int64))), .second, .val (.long (((q0.toUInt64 >>> ((52 : Int32) &&& 0x3f).toInt64.toUInt64).toInt64) ||| ((q1 <<< ((12 : Int32) &&& 0x3f).toInt64) &&& (4503599627370495 : Int64)))), .second, .val (.long (((q1.toUInt64 >>> ((40 : Int32) &&& 0x3f).toInt64.toUInt64).toInt64) ||| ((q2 <<< ((24 : Int32) &&& 0x3f).toInt64) &&& (4503599627370495 : Int64)))), .second, .val (.long (((q2.toUInt64 >>> ((28 : Int32) &&& 0x3f).toInt64.toUInt64).toInt64) ||| ((q3 <<< ((36 : Int32) &&& 0x3f).toInt64) &&& (4503599627370495 : Int64)))), .second, .val (.long ((q3.toUInt64 >>> ((16 : Int32) &&& 0x3f).toInt64.toUInt64).toInt64)), .second] [(.long (G 4))])) _
    refine XS.lload X11.here hx rfl (hb hby at_238) rfl ?_
    show Steps p.tables e below (T11.setTop (mkF m 240 #[.val (.long q0), .second, .val (.long q1), .second, .val (.long q2), .second, .val (.long q3), .second, .val (.int p4), .val (.long q5), .second, .val (.ref b1), .val (.int (Int32.ofNat oN)), .val (.ref bL), .val (.long (4503599627370495 : Int64)), .second, .val (.long (q0 &&& (4503599627370495 : Int64))), .second, .val (.long (((q0.toUInt64 >>> ((52 : Int32) &&& 0x3f).toInt64.toUInt64).toInt64) ||| ((q1 <<< ((12 : Int32) &&& 0x3f).toInt64) &&& (4503599627370495 : Int64)))), .second, .val (.long (((q1.toUInt64 >>> ((40 : Int32) &&& 0x3f).toInt64.toUInt64).toInt64) ||| ((q2 <<< ((24 : Int32) &&& 0x3f).toInt64) &&& (4503599627370495 : Int64)))), .second, .val (.long (((q2.toUInt64 >>> ((28 : Int32) &&& 0x3f).toInt64.toUInt64).toInt64) ||| ((q3 <<< ((36 : Int32) &&& 0x3f).toInt64) &&& (4503599627370495 : Int64)))), .second, .val (.long ((q3.toUInt64 >>> ((16 : Int32) &&& 0x3f).toInt64.toUInt64).toInt64)), .second] [(.long ((q3.toUInt64 >>> ((16 : Int32) &&& 0x3f).toInt64.toUInt64).toInt64)), (.long (G 4))])) _
    refine XS.lcmp X11.here hx rfl (hb hby at_240) rfl ?_
    show Steps p.tables e below (T11.setTop (mkF m 241 #[.val (.long q0), .second, .val (.long q1), .second, .val (.long q2), .second, .val (.long q3), .second, .val (.int p4), .val (.long q5), .second, .val (.ref b1), .val (.int (Int32.ofNat oN)), .val (.ref bL), .val (.long (4503599627370495 : Int64)), .second, .val (.long (q0 &&& (4503599627370495 : Int64))), .second, .val (.long (((q0.toUInt64 >>> ((52 : Int32) &&& 0x3f).toInt64.toUInt64).toInt64) ||| ((q1 <<< ((12 : Int32) &&& 0x3f).toInt64) &&& (4503599627370495 : Int64)))), .second, .val (.long (((q1.toUInt64 >>> ((40 : Int32) &&& 0x3f).toInt64.toUInt64).toInt64) ||| ((q2 <<< ((24 : Int32) &&& 0x3f).toInt64) &&& (4503599627370495 : Int64)))), .second, .val (.long (((q2.toUInt64 >>> ((28 : Int32) &&& 0x3f).toInt64.toUInt64).toInt64) ||| ((q3 <<< ((36 : Int32) &&& 0x3f).toInt64) &&& (4503599627370495 : Int64)))), .second, .val (.long ((q3.toUInt64 >>> ((16 : Int32) &&& 0x3f).toInt64.toUInt64).toInt64)), .second] [(.int (lcmpW (G 4) ((q3.toUInt64 >>> ((16 : Int32) &&& 0x3f).toInt64.toUInt64).toInt64)))])) _
    exact k
  refine own_go (T' := T11) (g' := (mkF m 249 #[.val (.long q0), .second, .val (.long q1), .second, .val (.long q2), .second, .val (.long q3), .second, .val (.int p4), .val (.long q5), .second, .val (.ref b1), .val (.int (Int32.ofNat oN)), .val (.ref bL), .val (.long (4503599627370495 : Int64)), .second, .val (.long (q0 &&& (4503599627370495 : Int64))), .second, .val (.long (((q0.toUInt64 >>> ((52 : Int32) &&& 0x3f).toInt64.toUInt64).toInt64) ||| ((q1 <<< ((12 : Int32) &&& 0x3f).toInt64) &&& (4503599627370495 : Int64)))), .second, .val (.long (((q1.toUInt64 >>> ((40 : Int32) &&& 0x3f).toInt64.toUInt64).toInt64) ||| ((q2 <<< ((24 : Int32) &&& 0x3f).toInt64) &&& (4503599627370495 : Int64)))), .second, .val (.long (((q2.toUInt64 >>> ((28 : Int32) &&& 0x3f).toInt64.toUInt64).toInt64) ||| ((q3 <<< ((36 : Int32) &&& 0x3f).toInt64) &&& (4503599627370495 : Int64)))), .second, .val (.long ((q3.toUInt64 >>> ((16 : Int32) &&& 0x3f).toInt64.toUInt64).toInt64)), .second] [(.int (1 : Int32))])) (fun t k => ?_) ?_
  · show Steps p.tables e below (T11.setTop (mkF m 241 #[.val (.long q0), .second, .val (.long q1), .second, .val (.long q2), .second, .val (.long q3), .second, .val (.int p4), .val (.long q5), .second, .val (.ref b1), .val (.int (Int32.ofNat oN)), .val (.ref bL), .val (.long (4503599627370495 : Int64)), .second, .val (.long (q0 &&& (4503599627370495 : Int64))), .second, .val (.long (((q0.toUInt64 >>> ((52 : Int32) &&& 0x3f).toInt64.toUInt64).toInt64) ||| ((q1 <<< ((12 : Int32) &&& 0x3f).toInt64) &&& (4503599627370495 : Int64)))), .second, .val (.long (((q1.toUInt64 >>> ((40 : Int32) &&& 0x3f).toInt64.toUInt64).toInt64) ||| ((q2 <<< ((24 : Int32) &&& 0x3f).toInt64) &&& (4503599627370495 : Int64)))), .second, .val (.long (((q2.toUInt64 >>> ((28 : Int32) &&& 0x3f).toInt64.toUInt64).toInt64) ||| ((q3 <<< ((36 : Int32) &&& 0x3f).toInt64) &&& (4503599627370495 : Int64)))), .second, .val (.long ((q3.toUInt64 >>> ((16 : Int32) &&& 0x3f).toInt64.toUInt64).toInt64)), .second] [(.int (lcmpW (G 4) ((q3.toUInt64 >>> ((16 : Int32) &&& 0x3f).toInt64.toUInt64).toInt64)))])) t
    refine XS.ifNo X11.here hx rfl (hb hby at_241) rfl ((if0 _ _).trans (teq ((lw_eq _ _).mpr HL.2.2.2.2)).2) ?_
    show Steps p.tables e below (T11.setTop (mkF m 244 #[.val (.long q0), .second, .val (.long q1), .second, .val (.long q2), .second, .val (.long q3), .second, .val (.int p4), .val (.long q5), .second, .val (.ref b1), .val (.int (Int32.ofNat oN)), .val (.ref bL), .val (.long (4503599627370495 : Int64)), .second, .val (.long (q0 &&& (4503599627370495 : Int64))), .second, .val (.long (((q0.toUInt64 >>> ((52 : Int32) &&& 0x3f).toInt64.toUInt64).toInt64) ||| ((q1 <<< ((12 : Int32) &&& 0x3f).toInt64) &&& (4503599627370495 : Int64)))), .second, .val (.long (((q1.toUInt64 >>> ((40 : Int32) &&& 0x3f).toInt64.toUInt64).toInt64) ||| ((q2 <<< ((24 : Int32) &&& 0x3f).toInt64) &&& (4503599627370495 : Int64)))), .second, .val (.long (((q2.toUInt64 >>> ((28 : Int32) &&& 0x3f).toInt64.toUInt64).toInt64) ||| ((q3 <<< ((36 : Int32) &&& 0x3f).toInt64) &&& (4503599627370495 : Int64)))), .second, .val (.long ((q3.toUInt64 >>> ((16 : Int32) &&& 0x3f).toInt64.toUInt64).toInt64)), .second] [])) _
    refine XS.iconst X11.here hx rfl (hb hby at_244) ?_
    show Steps p.tables e below (T11.setTop (mkF m 245 #[.val (.long q0), .second, .val (.long q1), .second, .val (.long q2), .second, .val (.long q3), .second, .val (.int p4), .val (.long q5), .second, .val (.ref b1), .val (.int (Int32.ofNat oN)), .val (.ref bL), .val (.long (4503599627370495 : Int64)), .second, .val (.long (q0 &&& (4503599627370495 : Int64))), .second, .val (.long (((q0.toUInt64 >>> ((52 : Int32) &&& 0x3f).toInt64.toUInt64).toInt64) ||| ((q1 <<< ((12 : Int32) &&& 0x3f).toInt64) &&& (4503599627370495 : Int64)))), .second, .val (.long (((q1.toUInt64 >>> ((40 : Int32) &&& 0x3f).toInt64.toUInt64).toInt64) ||| ((q2 <<< ((24 : Int32) &&& 0x3f).toInt64) &&& (4503599627370495 : Int64)))), .second, .val (.long (((q2.toUInt64 >>> ((28 : Int32) &&& 0x3f).toInt64.toUInt64).toInt64) ||| ((q3 <<< ((36 : Int32) &&& 0x3f).toInt64) &&& (4503599627370495 : Int64)))), .second, .val (.long ((q3.toUInt64 >>> ((16 : Int32) &&& 0x3f).toInt64.toUInt64).toInt64)), .second] [(.int (1 : Int32))])) _
    refine XS.goto X11.here hx rfl (pc0 := 245) (pc' := 249) rfl (hb hby at_245) (by decide) (by decide) ?_
    show Steps p.tables e below (T11.setTop (mkF m 249 #[.val (.long q0), .second, .val (.long q1), .second, .val (.long q2), .second, .val (.long q3), .second, .val (.int p4), .val (.long q5), .second, .val (.ref b1), .val (.int (Int32.ofNat oN)), .val (.ref bL), .val (.long (4503599627370495 : Int64)), .second, .val (.long (q0 &&& (4503599627370495 : Int64))), .second, .val (.long (((q0.toUInt64 >>> ((52 : Int32) &&& 0x3f).toInt64.toUInt64).toInt64) ||| ((q1 <<< ((12 : Int32) &&& 0x3f).toInt64) &&& (4503599627370495 : Int64)))), .second, .val (.long (((q1.toUInt64 >>> ((40 : Int32) &&& 0x3f).toInt64.toUInt64).toInt64) ||| ((q2 <<< ((24 : Int32) &&& 0x3f).toInt64) &&& (4503599627370495 : Int64)))), .second, .val (.long (((q2.toUInt64 >>> ((28 : Int32) &&& 0x3f).toInt64.toUInt64).toInt64) ||| ((q3 <<< ((36 : Int32) &&& 0x3f).toInt64) &&& (4503599627370495 : Int64)))), .second, .val (.long ((q3.toUInt64 >>> ((16 : Int32) &&& 0x3f).toInt64.toUInt64).toInt64)), .second] [(.int (1 : Int32))])) _
    exact k
  exact own_retN X11 hx hlk hret (by simp) (hb hby at_249) (by decide) (by decide) N11 ⟨rfl, trivial⟩
set_option maxRecDepth 65536 in
set_option maxHeartbeats 40000000 in
theorem comes_1 {Post : Tables → Env → Array Value → State → Outcome → State → Prop} (hpost : ∀ tb e args s v u, (limb_1_1.after args s (.returned v) u = true ∧ limb_1_2.after args s (.returned v) u = true ∧ True) → FrameEnd s (.returned v) u (Jvm.fieldLocs frame_1_writes args s ++ Jvm.arrayLocs frame_1_arrays args s ++ Jvm.staticLocs frame_1_statics s) 16 192 → Post tb e args s (.returned v) u) :
    ArmFor flags0 classFile x code maxLocals ret World_1 tables_1 room_1 Calls_1 rest_1 Pre_1 Post := by
  intro l hfl _ _ p e ha hc hk s m args below hf hA hF happ hP
  obtain ⟨hcalls, hrest, hpre⟩ := hP
  obtain ⟨-, -, -, hnamed, -, -, -, hat⟩ := (Spec.applies_iff hf).mp happ
  obtain ⟨hg, hn⟩ := and_e (Cond.before_iff.mp (show (Jvm.Cond.and given_1 narrow_1).before args s = true from hpre))
  obtain ⟨h1, g0⟩ := and_e hg
  obtain ⟨k0, g1⟩ := and_e g0
  obtain ⟨k1, g2⟩ := and_e g1
  obtain ⟨k2, g3⟩ := and_e g2
  obtain ⟨k3, g4⟩ := and_e g3
  obtain ⟨k4, g5⟩ := and_e g4
  have k5 := g5
  obtain ⟨w0, w1, w2, w3, w4, w5, rfl⟩ : ∃ w0 w1 w2 w3 w4 w5 : Value, args = #[w0, w1, w2, w3, w4, w5] := by
    have hs : args.size = 6 := by simpa [Cond.value, given_1] using h1
    obtain ⟨L⟩ := args
    match L, hs with
    | [w0, w1, w2, w3, w4, w5], _ => exact ⟨w0, w1, w2, w3, w4, w5, rfl⟩
  have hw := fun d (hd : d ∈ tables_1) => atoms_spec (ws := Jvm.Cond.code x code maxLocals ret :: tables_1) hat d (List.mem_cons_of_mem _ hd)
  obtain ⟨i0, e0⟩ := isL_v k0
  obtain rfl : w0 = (.long i0) := Option.some.inj e0
  obtain ⟨i1, e1⟩ := isL_v k1
  obtain rfl : w1 = (.long i1) := Option.some.inj e1
  obtain ⟨i2, e2⟩ := isL_v k2
  obtain rfl : w2 = (.long i2) := Option.some.inj e2
  obtain ⟨i3, e3⟩ := isL_v k3
  obtain rfl : w3 = (.long i3) := Option.some.inj e3
  obtain ⟨i4, e4⟩ := is_v k4
  obtain rfl : w4 = (.int i4) := Option.some.inj e4
  obtain ⟨i5, e5⟩ := isL_v k5
  obtain rfl : w5 = (.long i5) := Option.some.inj e5
  obtain ⟨n, o, h1, h2, h3, v, L, rfl, ⟨N, hv⟩, hq⟩ := rm0 l s _ hw i0 i1 i2 i3 i4 i5 s.heap s.heap.size (Nat.le_refl _) p e ha hc hk s m _ below hf ((Spec.applies_iff_loose hf).mp happ).1 ⟨rfl, State.Warmed39.refl s, rfl⟩ trivial
  obtain rfl : v = some (.int 1) := hv.1
  refine ⟨n, _, h1, h2, h3, hpost _ _ _ _ _ _ ⟨Cond.after_iff.mpr rfl, Cond.after_iff.mpr (eq_i res_at (Term.int_eval (1)) rfl), trivial⟩ ⟨hq.1, hq.2.1, (hq.2.2.sift fun y hy => Or.inr (N y hy)).mono (by decide) (by decide)⟩⟩
theorem main_1_1 : Claimed_1_1 := comes_1 fun _ _ _ _ _ _ h hF => ⟨h.1, hF⟩
theorem main_1_2 : Claimed_1_2 := comes_1 fun _ _ _ _ _ _ h hF => ⟨h.2.1, hF⟩
end Jvm.Pilot.@@N@@
namespace Jvm.Pilot.@@N@@
open Jvm Jvm.ClassFile Sem Op Lib Jvm.Free Jvm.Stand Jvm.Pilot.@@N@@.Jvm.D
/-! MADE BY PROGRAM (witnessworld.py) out of the Statement's table words and the real class files: 11 classes; the members and pool entries that the words name. The judged class is class 1, her method 2. -/
namespace start1
open Jvm.ClassFile
def u (s : String) : CpInfo := .utf8 (stringToUtf16 s)
/-- a pool by its gaps: so many unusable entries, then the entry; so many at the end -/
def gap : Nat → List CpInfo → List CpInfo
  | 0, r => r
  | n + 1, r => .unusable :: gap n r
def poolList (es : List (Nat × CpInfo)) (last : Nat) : List CpInfo := es.foldr (fun e r => gap e.1 (e.2 :: r)) (gap last [])
def pool (es : List (Nat × CpInfo)) (last : Nat) : Array CpInfo := ⟨poolList es last⟩
def fileOf (pool : Array CpInfo) (this : Nat) (attrs : Array Attribute := #[]) (ms : Array MethodInfo := #[]) (fl : Nat := 33) (sup : Nat := 0) (ifs : Array Nat := #[]) (fds : Array FieldInfo := #[]) : ClassFile where
  minorVersion := 0
  majorVersion := 65
  constantPool := pool
  accessFlags := fl
  thisClass := this
  superClass := sup
  interfaces := ifs
  fields := fds
  methods := ms
  attributes := attrs
def plain (name : String) (sup : Option ClassId) : Class where
  name := name
  kind := .ordinary
  loader := none
  accessFlags := 33
  super := sup
  interfaces := #[]
  cf := none
  fields := #[]
  methods := #[]
  instanceTypes := #[]
  staticTypes := #[]
  resolved := #[]
  callSites := []
  init := .initialized
  statics := none
  mirror := none

def pool0 : Array CpInfo := pool [(5, u "<init>"), (0, u "()V"), (1, .class_ 10), (1, u "java/lang/Object")] 113

def k0m0 : Method := { name := "<init>", desc := "()V", sig := { parameters := [], returnType := none }, accessFlags := 1, code := none }
/-- java/lang/Object -/
def k0 : Class := { plain "java/lang/Object" none with
  accessFlags := 33
  interfaces := #[]
  cf := some (fileOf pool0 8 #[] #[{ accessFlags := 1, nameIndex := 5, descriptorIndex := 6, attributes := #[] }] 33 0 #[] #[])
  fields := #[]
  methods := #[k0m0]
  instanceTypes := #[]
  staticTypes := #[]
  resolved := Array.replicate 124 none
  statics := none }

def pool1 : Array CpInfo := pool [(2, .class_ 4), (1, u "java/lang/Object"), (0, u "<init>"), (0, u "()V"), (0, .methodref 8 9), (0, .class_ 10), (0, .nameAndType 11 12), (0, u "com/example/linkwell/linkwell/cards/P256ScalarOfPinLaw"), (0, u "put"), (0, u "([BIJ)V"), (0, .long 18446744073709551615), (1, .methodref 16 17), (0, .class_ 18), (0, .nameAndType 19 20), (0, u "com/example/linkwell/linkwell/cards/P256Scalar"), (0, u "of"), (0, u "([BI)[J"), (0, .long 4503599627370495), (3, u "law"), (0, u "(JJJJIJ)Z")] 7

def k1m0 : Method := { name := "<init>", desc := "()V", sig := { parameters := [], returnType := none }, accessFlags := 2, code := none }
def k1c1 : Code := { maxStack := 5, maxLocals := 4, code := method_2_code, exceptionTable := #[], attributes := #[] }
def k1m1 : Method := { name := "put", desc := "([BIJ)V", sig := { parameters := [(.array .byte), .int, .long], returnType := none }, accessFlags := 10, code := some k1c1 }
def k1c2 : Code := { maxStack := 6, maxLocals := 26, code := code, exceptionTable := #[], attributes := #[] }
def k1m2 : Method := { name := "law", desc := "(JJJJIJ)Z", sig := { parameters := [.long, .long, .long, .long, .int, .long], returnType := some .boolean }, accessFlags := 9, code := some k1c2 }
/-- com/example/linkwell/linkwell/cards/P256ScalarOfPinLaw -/
def k1 : Class := { plain "com/example/linkwell/linkwell/cards/P256ScalarOfPinLaw" (some 0) with
  accessFlags := 49
  interfaces := #[]
  cf := some (fileOf pool1 8 #[] #[{ accessFlags := 2, nameIndex := 5, descriptorIndex := 6, attributes := #[] }, { accessFlags := 10, nameIndex := 11, descriptorIndex := 12, attributes := #[] }, { accessFlags := 9, nameIndex := 25, descriptorIndex := 26, attributes := #[] }] 49 2 #[] #[])
  fields := #[]
  methods := #[k1m0, k1m1, k1m2]
  instanceTypes := #[]
  staticTypes := #[]
  resolved := Array.replicate 34 none
  statics := none }

def pool2 : Array CpInfo := pool [(4, .class_ 6), (1, u "java/lang/Object"), (0, u "<init>"), (0, u "()V"), (0, .class_ 10), (0, u "com/example/linkwell/linkwell/cards/P256Scalar"), (0, .long 255), (1, .long 4503599627370495), (3, u "N"), (0, u "[J"), (11, u "R_SQUARED"), (13, u "N_INVERSE"), (0, u "J"), (6, u "ONE"), (2, u "N_MINUS_TWO"), (42, u "LIMBS"), (0, u "I"), (2, u "MASK"), (2, u "of"), (0, u "([BI)[J")] 10

def k2m0 : Method := { name := "<init>", desc := "()V", sig := { parameters := [], returnType := none }, accessFlags := 2, code := none }
def k2c1 : Code := { maxStack := 9, maxLocals := 7, code := prog_12_method_2_code, exceptionTable := #[], attributes := #[] }
def k2m1 : Method := { name := "of", desc := "([BI)[J", sig := { parameters := [(.array .byte), .int], returnType := some (.array .long) }, accessFlags := 8, code := some k2c1 }
/-- com/example/linkwell/linkwell/cards/P256Scalar -/
def k2 : Class := { plain "com/example/linkwell/linkwell/cards/P256Scalar" (some 0) with
  accessFlags := 48
  interfaces := #[]
  cf := some (fileOf pool2 9 #[] #[{ accessFlags := 2, nameIndex := 7, descriptorIndex := 8, attributes := #[] }, { accessFlags := 8, nameIndex := 105, descriptorIndex := 106, attributes := #[] }] 48 4 #[] #[{ accessFlags := 26, nameIndex := 98, descriptorIndex := 99, attributes := #[] }, { accessFlags := 26, nameIndex := 102, descriptorIndex := 45, attributes := #[] }, { accessFlags := 26, nameIndex := 17, descriptorIndex := 18, attributes := #[] }, { accessFlags := 26, nameIndex := 44, descriptorIndex := 45, attributes := #[] }, { accessFlags := 26, nameIndex := 30, descriptorIndex := 18, attributes := #[] }, { accessFlags := 26, nameIndex := 52, descriptorIndex := 18, attributes := #[] }, { accessFlags := 26, nameIndex := 55, descriptorIndex := 18, attributes := #[] }])
  fields := #[{ name := "LIMBS", type := .int, accessFlags := 26, slot := 0, constantValue := 0 }, { name := "MASK", type := .long, accessFlags := 26, slot := 1, constantValue := 0 }, { name := "N", type := (.array .long), accessFlags := 26, slot := 2, constantValue := 0 }, { name := "N_INVERSE", type := .long, accessFlags := 26, slot := 3, constantValue := 0 }, { name := "R_SQUARED", type := (.array .long), accessFlags := 26, slot := 4, constantValue := 0 }, { name := "ONE", type := (.array .long), accessFlags := 26, slot := 5, constantValue := 0 }, { name := "N_MINUS_TWO", type := (.array .long), accessFlags := 26, slot := 6, constantValue := 0 }]
  methods := #[k2m0, k2m1]
  instanceTypes := #[]
  staticTypes := #[.int, .long, (.array .long), .long, (.array .long), (.array .long), (.array .long)]
  resolved := Array.replicate 117 none
  statics := none }

def pool3 : Array CpInfo := pool [(1, u "java/lang/Cloneable"), (0, .class_ 1), (0, u "java/lang/Object"), (0, .class_ 3)] 3

/-- java/lang/Cloneable -/
def k3 : Class := { plain "java/lang/Cloneable" (some 0) with
  accessFlags := 1537
  interfaces := #[]
  cf := some (fileOf pool3 2 #[] #[] 1537 4 #[] #[])
  fields := #[]
  methods := #[]
  instanceTypes := #[]
  staticTypes := #[]
  resolved := Array.replicate 8 none
  statics := none }

def pool4 : Array CpInfo := pool [(1, u "java/io/Serializable"), (0, .class_ 1), (0, u "java/lang/Object"), (0, .class_ 3)] 3

/-- java/io/Serializable -/
def k4 : Class := { plain "java/io/Serializable" (some 0) with
  accessFlags := 1537
  interfaces := #[]
  cf := some (fileOf pool4 2 #[] #[] 1537 4 #[] #[])
  fields := #[]
  methods := #[]
  instanceTypes := #[]
  staticTypes := #[]
  resolved := Array.replicate 8 none
  statics := none }

/-- the primitive byte -/
def k5 : Class := { plain "byte" none with kind := .primitive 'B', accessFlags := 0x411 }
/-- [B -/
def k6 : Class := { plain "[B" (some 0) with kind := .array 5 .byte, interfaces := #[3, 4], accessFlags := 1041 }

/-- the primitive int -/
def k7 : Class := { plain "int" none with kind := .primitive 'I', accessFlags := 0x411 }
/-- [I -/
def k8 : Class := { plain "[I" (some 0) with kind := .array 7 .int, interfaces := #[3, 4], accessFlags := 1041 }

/-- the primitive long -/
def k9 : Class := { plain "long" none with kind := .primitive 'J', accessFlags := 0x411 }
/-- [J -/
def k10 : Class := { plain "[J" (some 0) with kind := .array 9 .long, interfaces := #[3, 4], accessFlags := 1041 }

def heap : Heap := #[]
def classes : Array Class := #[k0, k1, k2, k3, k4, k5, k6, k7, k8, k9, k10]
def interned : List (Array UInt16 × Addr) := []
def slotsUsed : Nat := 0
def theMethod : MethodId := ⟨1, 2⟩
def args0 : Array Value := #[.long 5, .long 300, .long 7, .long 1, .int 3, .long 9]
def aboutOver (below : List Frame) : State where
  vm := { classes := classes, interned := interned.toArray }
  heap := heap
  slotsUsed := slotsUsed
  threads := #[{ frames := .invoking theMethod args0 :: below }]
def below0 : List Frame := [.native { method := ⟨0, 0⟩, args := #[] }]
def about1 : State := aboutOver below0
def p0 : Program := .bare "" "" ""
def e0 : Env := launch0.env 0 0 0
theorem w_frames : about1.frames = Frame.invoking theMethod args0 :: below0 := rfl
set_option maxRecDepth 65536 in
theorem w_args : argsFit about1.vm theMethod args0 = true := by decide +kernel
set_option maxRecDepth 65536 in
theorem w_heap : heapFits about1 = true := by decide +kernel
set_option maxRecDepth 65536 in
theorem w_runnable : about1.curStatus? = some .runnable := by decide +kernel
set_option maxRecDepth 65536 in
theorem w_alone : about1.alone = true := by decide +kernel
set_option maxRecDepth 65536 in
theorem w_named : about1.methodNamed? x = some theMethod := by decide +kernel
set_option maxRecDepth 65536 in
theorem w_hears : about1.hears theMethod below0 = true := by decide +kernel
set_option maxRecDepth 65536 in
theorem w_ripe : about1.ripe theMethod args0 below0 = true := by decide +kernel
theorem w_running : about1.status = .running := rfl
set_option maxRecDepth 65536 in
theorem w_room : about1.hasRoom e0.platform room_1 = true :=
  launch0.hasRoom_least _ room_1 (by decide +kernel) (by decide +kernel) (by decide +kernel) (by decide +kernel) (by decide +kernel) (by decide +kernel)
theorem allAtoms_all (ts : List Jvm.Cond) (a : Array Jvm.Value) (st : Jvm.State) : (allAtoms ts).before a st = ts.all (fun c => c.before a st) := by
  induction ts with
  | nil => rfl
  | cons c t ih =>
    show (Jvm.Cond.and c (allAtoms t)).before a st = _
    rw [Jvm.Cond.before_and, ih, List.all_cons]
def words1 : List Jvm.Cond := Jvm.Cond.code x code maxLocals ret :: tables_1
/-- a 'code' word, met by the world's own term for the bytes: nothing is compared byte by byte -/
theorem code_word {y : MethodName} {bytes : ByteArray} {mx : Nat} {rt : Option FieldType} {a : Array Value} {s : State} {m : MethodId} {meth : Method} {c : Code} (h1 : s.methodNamed? y = some m) (h2 : s.vm.method? m = some meth) (h3 : meth.code = some c) (h4 : c.code = bytes)
    (h5 : (c.maxLocals == mx && c.exceptionTable.isEmpty && decide (c.maxStack ≤ mostOperands) && decide (meth.sig.returnType = rt) && !meth.locks && decide (parseMethodDescriptor y.desc = some meth.sig)) = true) : (Jvm.Cond.code y bytes mx rt).before a s = true := by
  simp only [Bool.and_eq_true, beq_iff_eq, Bool.not_eq_true', decide_eq_true_eq] at h5
  obtain ⟨⟨⟨⟨⟨g1, g2⟩, g3⟩, g4⟩, g5⟩, g6⟩ := h5
  simp [Cond.before, Cond.holds, Cond.value, h1, h2, h3, h4, g1, g2, g3, g4, g5, g6]
def isCode : Jvm.Cond → Bool
  | .code _ _ _ _ => true
  | _ => false
theorem all_split {L : List Jvm.Cond} {P : Jvm.Cond → Bool} (h1 : L.all (fun c => isCode c || P c) = true) (h2 : ∀ c ∈ L.filter isCode, P c = true) : L.all P = true := by
  refine List.all_eq_true.mpr fun c hc => ?_
  have h := List.all_eq_true.mp h1 c hc
  rcases Bool.eq_false_or_eq_true (isCode c) with hi | hi
  · exact h2 c (List.mem_filter.mpr ⟨hc, hi⟩)
  · simpa [hi] using h
set_option maxRecDepth 65536 in
theorem w_c0 : (Jvm.Cond.code x code maxLocals ret).before args0 about1 = true := code_word (m := ⟨1, 2⟩) (meth := k1m2) (c := k1c2) (by decide +kernel) rfl rfl rfl (by decide +kernel)
set_option maxRecDepth 65536 in
theorem w_c1 : (Jvm.Cond.code ({ cls := "com/example/linkwell/linkwell/cards/P256ScalarOfPinLaw", name := "put", desc := "([BIJ)V" } : Jvm.MethodName) method_2_code (4 : Nat) (Option.none : Option Jvm.ClassFile.FieldType)).before args0 about1 = true := code_word (m := ⟨1, 1⟩) (meth := k1m1) (c := k1c1) (by decide +kernel) rfl rfl rfl (by decide +kernel)
set_option maxRecDepth 65536 in
theorem w_c2 : (Jvm.Cond.code ({ cls := "com/example/linkwell/linkwell/cards/P256Scalar", name := "of", desc := "([BI)[J" } : Jvm.MethodName) prog_12_method_2_code (7 : Nat) (Option.some (Jvm.ClassFile.FieldType.array Jvm.ClassFile.FieldType.long))).before args0 about1 = true := code_word (m := ⟨2, 1⟩) (meth := k2m1) (c := k2c1) (by decide +kernel) rfl rfl rfl (by decide +kernel)
def codes1 : List Jvm.Cond := [Jvm.Cond.code x code maxLocals ret, Jvm.Cond.code ({ cls := "com/example/linkwell/linkwell/cards/P256ScalarOfPinLaw", name := "put", desc := "([BIJ)V" } : Jvm.MethodName) method_2_code (4 : Nat) (Option.none : Option Jvm.ClassFile.FieldType), Jvm.Cond.code ({ cls := "com/example/linkwell/linkwell/cards/P256Scalar", name := "of", desc := "([BI)[J" } : Jvm.MethodName) prog_12_method_2_code (7 : Nat) (Option.some (Jvm.ClassFile.FieldType.array Jvm.ClassFile.FieldType.long))]
set_option maxRecDepth 65536 in
theorem codes_eq : words1.filter isCode = codes1 := rfl
theorem w_codes : ∀ c ∈ words1.filter isCode, c.before args0 about1 = true := by
  rw [codes_eq]
  intro c hc
  simp only [codes1, List.mem_cons, List.not_mem_nil, or_false] at hc
  rcases hc with rfl | rfl | rfl
  · exact w_c0
  · exact w_c1
  · exact w_c2
set_option maxRecDepth 65536 in
theorem w_t1 : words1.all (fun c => isCode c || c.before args0 about1) = true := by decide +kernel
theorem w_tables : (allAtoms (Jvm.Cond.code x code maxLocals ret :: tables_1)).before args0 about1 = true := by
  rw [allAtoms_all]
  show words1.all (fun c => c.before args0 about1) = true
  refine all_split ?_ w_codes
  rw [w_t1]
set_option maxRecDepth 65536 in
theorem w_case : (Jvm.Cond.and given_1 narrow_1).before args0 about1 = true := by decide +kernel
theorem w_applies : (headSpec (Jvm.Cond.code x code maxLocals ret :: tables_1) room_1).applies x e0.platform about1 = true :=
  (Spec.applies_iff w_frames).mpr ⟨w_running, w_runnable, w_alone, w_named, w_hears, w_ripe, w_room, w_tables⟩
theorem atStart : AtStart classFile x code maxLocals ret World_1 tables_1 room_1 Calls_1 rest_1 Pre_1 launch0 p0 e0 about1 theMethod args0 below0 :=
  ⟨lists_1, trivial, launch0.admits_env _ _ _, launch0.least_env, fairChoices_fair.cas, fairChoices_fair.clock, w_frames, w_args, w_heap, w_applies, trivial, trivial, w_case⟩
end start1
theorem witness_1 : WitnessClaimed_1 := ⟨start1.p0, start1.e0, start1.about1, start1.theMethod, start1.args0, start1.below0, start1.atStart⟩
end Jvm.Pilot.@@N@@
