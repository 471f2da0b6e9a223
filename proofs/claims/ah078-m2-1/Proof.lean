import JvmDerived
import JvmDerived.Pilot.@@N@@Statement
import JvmDerived.Pilot.@@N@@Code
set_option linter.unusedVariables false
set_option linter.unusedSimpArgs false
namespace Jvm.Pilot.@@N@@
open Jvm Jvm.ClassFile Sem Op Lib Jvm.Free Jvm.Stand Jvm.LawKit Jvm.RoadKit Bundle Jvm.Pilot.@@N@@.Jvm.D
/-! the walk's own small kit: a run that ends in a return (own_Ends), a method's contract (own_Con), one step (own_go), the returns, the calls -/
section Own
variable {p : Program} {l : Launch} {e : Env} {R : Room} {s : State} {m : MethodId} {args : Array Value} {below : List Frame} {meth : Method} {c : Code} {T : State} {locs : List Loc} {cells slots : Nat} {Z : State} {a0 : Array Value} {h : Heap} {n0 kc ks : Nat}
/-- from the frame g at T the run comes to a return; what was written lies at or above n0; Q says what is returned and what the heap is then -/
def own_Ends (p : Program) (e : Env) (below : List Frame) (s : State) (n0 kc ks : Nat) (T : State) (g : JFrame) (Q : Option Value → Heap → Prop) : Prop :=
  ∃ s₂ o, Steps p.tables e below (T.setTop g) s₂ ∧ s₂.status = .running ∧ Ended s₂ below o ∧ ∃ v L, o = .returned v ∧ (Fr n0 L ∧ Q v s₂.heap) ∧ FrameEnd s o s₂ L kc ks
theorem own_go {T' : State} {g g' : JFrame} {Q : Option Value → Heap → Prop} (k : ∀ t, Steps p.tables e below (T'.setTop g') t → Steps p.tables e below (T.setTop g) t) (q : own_Ends p e below s n0 kc ks T' g' Q) : own_Ends p e below s n0 kc ks T g Q := by
  obtain ⟨s₂, o, h1, r⟩ := q
  exact ⟨s₂, o, k _ h1, r⟩
theorem own_mono {g : JFrame} {Q Q' : Option Value → Heap → Prop} (q : own_Ends p e below s n0 kc ks T g Q) (i : ∀ v h, Q v h → Q' v h) : own_Ends p e below s n0 kc ks T g Q' := by
  obtain ⟨s₂, o, h1, h2, h3, v, L, h4, ⟨h5, h6⟩, h7⟩ := q
  exact ⟨s₂, o, h1, h2, h3, v, L, h4, ⟨h5, i _ _ h6⟩, h7⟩
theorem own_retW (X : Stand p l e R s m args below meth c T locs cells slots) (hx : p.tables.exec = Jvm.exec) (hlk : meth.locks = false) {pc : Nat} {Ls : Array Slot} {w : Value} {t : FieldType} {i : Instr} {rest : List Value} (hret : meth.sig.returnType = some t) (hn : narrow t w = w)
    (hi : (i = .ireturn ∧ (t = .int ∨ t = .boolean ∨ t = .byte ∨ t = .char ∨ t = .short) ∧ ∃ z, w = .int z) ∨ (i = .lreturn ∧ t = .long ∧ ∃ z, w = .long z) ∨ (i = .dreturn ∧ t = .double ∧ ∃ z, w = .double z) ∨ (i = .freturn ∧ t = .float ∧ ∃ z, w = .float z) ∨ (i = .areturn ∧ t.isReference = true ∧ w.isRef = true))
    (hd : decode c.code pc = .ok (i, 1)) {Q : Option Value → Heap → Prop} (hc : cells ≤ kc) (hs : slots ≤ ks) (N : Fr n0 locs) (q : Q (some w) T.heap) : own_Ends p e below s n0 kc ks T (mkF m pc Ls (w :: rest)) Q := by
  obtain ⟨fs, hr, hrun, hended, hW, hsame⟩ := X.leave (v := some w) (fun h => by rw [hret] at h; cases h) hlk
  exact ⟨_, _, retOut X hx hret hn hi hd hr, hrun, hended, _, _, rfl, ⟨N, q⟩, ⟨_, rfl⟩, hW, hsame.mono hc hs⟩
theorem own_retI (X : Stand p l e R s m args below meth c T locs cells slots) (hx : p.tables.exec = Jvm.exec) (hlk : meth.locks = false) {pc : Nat} {Ls : Array Slot} {z : Int32} {rest : List Value} (hret : meth.sig.returnType = some .int)
    (hd : decode c.code pc = .ok (.ireturn, 1)) {Q : Option Value → Heap → Prop} (hc : cells ≤ kc) (hs : slots ≤ ks) (N : Fr n0 locs) (q : Q (some (.int z)) T.heap) : own_Ends p e below s n0 kc ks T (mkF m pc Ls (.int z :: rest)) Q :=
  own_retW X hx hlk hret rfl (Or.inl ⟨rfl, Or.inl rfl, z, rfl⟩) hd hc hs N q
theorem own_retJ (X : Stand p l e R s m args below meth c T locs cells slots) (hx : p.tables.exec = Jvm.exec) (hlk : meth.locks = false) {pc : Nat} {Ls : Array Slot} {z : Int64} {rest : List Value} (hret : meth.sig.returnType = some .long)
    (hd : decode c.code pc = .ok (.lreturn, 1)) {Q : Option Value → Heap → Prop} (hc : cells ≤ kc) (hs : slots ≤ ks) (N : Fr n0 locs) (q : Q (some (.long z)) T.heap) : own_Ends p e below s n0 kc ks T (mkF m pc Ls (.long z :: rest)) Q :=
  own_retW X hx hlk hret rfl (Or.inr (Or.inl ⟨rfl, rfl, z, rfl⟩)) hd hc hs N q
theorem own_retA (X : Stand p l e R s m args below meth c T locs cells slots) (hx : p.tables.exec = Jvm.exec) (hlk : meth.locks = false) {pc : Nat} {Ls : Array Slot} {a : Addr} {t : FieldType} {rest : List Value} (hret : meth.sig.returnType = some t) (ht : t.isReference = true) (hn : narrow t (.ref a) = .ref a)
    (hd : decode c.code pc = .ok (.areturn, 1)) {Q : Option Value → Heap → Prop} (hc : cells ≤ kc) (hs : slots ≤ ks) (N : Fr n0 locs) (q : Q (some (.ref a)) T.heap) : own_Ends p e below s n0 kc ks T (mkF m pc Ls (.ref a :: rest)) Q :=
  own_retW X hx hlk hret hn (Or.inr (Or.inr (Or.inr (Or.inr ⟨rfl, ht, rfl⟩)))) hd hc hs N q
theorem own_retN (X : Stand p l e R s m args below meth c T locs cells slots) (hx : p.tables.exec = Jvm.exec) (hlk : meth.locks = false) {pc : Nat} {Ls : Array Slot} {z : Int32} {t : FieldType} {rest : List Value} (hret : meth.sig.returnType = some t) (ht : t = .boolean ∨ t = .byte ∨ t = .char ∨ t = .short)
    (hd : decode c.code pc = .ok (.ireturn, 1)) {Q : Option Value → Heap → Prop} (hc : cells ≤ kc) (hs : slots ≤ ks) (N : Fr n0 locs) (q : Q (some (.int (nar t z))) T.heap) : own_Ends p e below s n0 kc ks T (mkF m pc Ls (.int z :: rest)) Q := by
  obtain ⟨fs, hr, hrun, hended, hW, hsame⟩ := X.leave (v := some (.int (nar t z))) (fun h => by rw [hret] at h; cases h) hlk
  exact ⟨_, _, retN X hx hret ht hd hr, hrun, hended, _, _, rfl, ⟨N, q⟩, ⟨_, rfl⟩, hW, hsame.mono hc hs⟩
theorem own_retV (X : Stand p l e R s m args below meth c T locs cells slots) (hx : p.tables.exec = Jvm.exec) (hlk : meth.locks = false) {pc : Nat} {Ls : Array Slot} (hret : meth.sig.returnType = none)
    (hd : decode c.code pc = .ok (.return_, 1)) {Q : Option Value → Heap → Prop} (hc : cells ≤ kc) (hs : slots ≤ ks) (N : Fr n0 locs) (q : Q none T.heap) : own_Ends p e below s n0 kc ks T (mkF m pc Ls []) Q := by
  obtain ⟨fs, hr, hrun, hended, hW, hsame⟩ := X.leave (v := none) (fun _ => rfl) hlk
  exact ⟨_, _, X.returnOut hx hret hd hr, hrun, hended, _, _, rfl, ⟨N, q⟩, ⟨_, rfl⟩, hW, hsame.mono hc hs⟩
/-- a method's contract: called with as' at the heap h it returns, and Q says what; nothing below n0 is written -/
def own_Con (ws : List Jvm.Cond) (l : Launch) (Z : State) (y : MethodName) (bytes : ByteArray) (maxL : Nat) (ret : Option FieldType) (rm : Room) (n0 : Nat) (as' : Array Value) (h : Heap) (Q : Option Value → Heap → Prop) : Prop :=
  MetFree l y (head1 (Jvm.Cond.code y bytes maxL ret :: ws) rm) (fun a U => a = as' ∧ Z.Warmed39 U.vm ∧ U.heap = h) (fun _ _ _ _ _ => True) (fun _ U o U' => ∃ v L, o = .returned v ∧ (Fr n0 L ∧ Q v U'.heap) ∧ FrameEnd U o U' L rm.cells rm.slots)
theorem own_body {ws : List Jvm.Cond} {y : MethodName} {bytes : ByteArray} {maxL : Nat} {ret : Option FieldType} {rm : Room} {as' : Array Value} {Q : Option Value → Heap → Prop} (hy : plainFor y = true) (fr : MethodId → JFrame) (hfr : ∀ m, entryFrame m as' maxL = fr m)
    (H : ∀ (p : Program) (e : Env) (s : State) (m : MethodId) (below : List Frame) (meth : Method) (c : Code) (s₁ : State), p.tables.exec = Jvm.exec → c.code = bytes → c.maxLocals = maxL → s.vm.findClass y.cls = some m.cls → meth.name = y.name → Z.Warmed39 s.vm → meth.sig.returnType = ret → meth.locks = false →
      Stand p l e rm s m as' below meth c s₁ [] 0 0 → s₁.heap = h → Fr n0 [] → own_Ends p e below s n0 rm.cells rm.slots s₁ (fr m) Q) : own_Con ws l Z y bytes maxL ret rm n0 as' h Q := by
  refine MetFree.of_bodySF hy hisR ?_
  intro p e s m args below meth c s₁ Bd hml0 hP hK
  obtain ⟨rfl, hZ, hh⟩ := hP
  have E := H p e s m below meth c s₁ Bd.exec Bd.bytes hml0 (findClass_of_methodNamed Bd.named) (name_of_methodNamed Bd.named Bd.method).1 hZ Bd.returns Bd.notSynchronized (Stand.of_body Bd) (by rw [← hh, Bd.state]; rfl) (Fr.nil n0)
  rw [← hfr m] at E
  exact E
/-- invokestatic by the callee's contract -/
theorem own_callS (X : Stand p l e R s m args below meth c T locs cells slots) (hx : p.tables.exec = Jvm.exec) (hZ : Z.Warmed39 s.vm) {own : String} {index : Nat} {y : MethodName} {bytes : ByteArray} {maxL : Nat} {ret : Option FieldType}
    (hown : s.vm.findClass own = some m.cls) (w1 : (Jvm.Cond.methodLink own index y).before a0 Z = true) (w2 : (Jvm.Cond.static y).before a0 Z = true) (w3 : (Jvm.Cond.initialized y.cls).before a0 Z = true) (w4 : (Jvm.Cond.code y bytes maxL ret).before a0 Z = true)
    (hy : y.cls ≠ "java/lang/invoke/MethodHandle" ∧ y.cls ≠ "java/lang/invoke/VarHandle") {argsL rest : List Value} {Q : Option Value → Heap → Prop} {rm : Room} (hM : own_Con [] l Z y bytes maxL ret rm n0 argsL.toArray h Q) {W : Nat} (hf : rm.frames + 1 ≤ R.frames) (hl : W + (maxL + 11) + rm.locals ≤ R.locals)
    {g : JFrame} (hg : g.method = m) (hsize : g.locals.size = c.maxLocals) {ps : List FieldType} {r : Option FieldType} (hpd : parseMethodDescriptor y.desc = some ⟨ps, r⟩) (hlen : argsL.length = ps.length) (hstack : g.stack = argsL.reverse ++ rest) (hW : 2 * g.monitorRoom + (rest.map fun v => v.category).sum ≤ W)
    (hd : decode c.code g.pc = .ok (.invokestatic index, 3)) (eT : T.heap = h) (hc : cells + rm.cells ≤ R.cells) (hs : slots + rm.slots ≤ R.slots) (N : Fr n0 locs) :
    ∃ v T' L', Stand p l e R s m args below meth c T' L' (cells + rm.cells) (slots + rm.slots) ∧ Fr n0 L' ∧ Q v T'.heap ∧ ∀ t, Steps p.tables e below (T'.setTop { g with pc := g.pc + 3, stack := v.toList ++ rest }) t → Steps p.tables e below (T.setTop g) t := by
  obtain ⟨v, _, ⟨T', L', k', n'⟩, -, X', ⟨Lc, ⟨hN, hQ⟩, l', y', z'⟩, st⟩ := Jvm.LawKit.callS X hx hown (mvT hZ w1) (mvT hZ w2) (mvT hZ w3) (mvT hZ w4) hy (backOf (Q := fun v h L => Fr n0 L ∧ Q v h) (W := W) hM hZ w4 w3 hf hl) hg hsize (lenOf hpd hlen) hstack hW hd (fun _ _ => ⟨rfl, eT, hc, hs⟩)
  dsimp only [Pt.U, Pt.locs, Pt.cells, Pt.slots] at X' l' y' z' st hQ
  subst l' y' z'
  exact ⟨v, T', _, X', Fr.app N hN, hQ, st⟩
/-- a constructor by its contract -/
theorem own_callI (X : Stand p l e R s m args below meth c T locs cells slots) (hx : p.tables.exec = Jvm.exec) (hZ : Z.Warmed39 s.vm) {own : String} {index : Nat} {y : MethodName} {bytes : ByteArray} {maxL : Nat}
    (hy1 : y.name = "<init>") (hown : s.vm.findClass own = some m.cls) (w1 : (Jvm.Cond.methodLink own index y).before a0 Z = true) (w2 : (Jvm.Cond.instanceMethod y).before a0 Z = true) (w3 : (Jvm.Cond.initialized y.cls).before a0 Z = true) (w4 : (Jvm.Cond.code y bytes maxL none).before a0 Z = true)
    (hy : y.cls ≠ "java/lang/invoke/MethodHandle" ∧ y.cls ≠ "java/lang/invoke/VarHandle") {a : Addr} {argsL rest : List Value} {Q : Option Value → Heap → Prop} {rm : Room} (hM : own_Con [] l Z y bytes maxL none rm n0 (.ref a :: argsL).toArray h Q) {W : Nat} (hf : rm.frames + 1 ≤ R.frames) (hl : W + (maxL + 11) + rm.locals ≤ R.locals)
    {g : JFrame} (hg : g.method = m) (hsize : g.locals.size = c.maxLocals) {ps : List FieldType} {r : Option FieldType} (hpd : parseMethodDescriptor y.desc = some ⟨ps, r⟩) (hlen : argsL.length = ps.length) (hstack : g.stack = argsL.reverse ++ .ref a :: rest) (hW : 2 * g.monitorRoom + (rest.map fun v => v.category).sum ≤ W)
    (hd : decode c.code g.pc = .ok (.invokespecial index, 3)) (eT : T.heap = h) (hc : cells + rm.cells ≤ R.cells) (hs : slots + rm.slots ≤ R.slots) (N : Fr n0 locs) :
    ∃ v T' L', Stand p l e R s m args below meth c T' L' (cells + rm.cells) (slots + rm.slots) ∧ Fr n0 L' ∧ Q v T'.heap ∧ ∀ t, Steps p.tables e below (T'.setTop { g with pc := g.pc + 3, stack := v.toList ++ rest }) t → Steps p.tables e below (T.setTop g) t := by
  obtain ⟨v, _, ⟨T', L', k', n'⟩, -, X', ⟨Lc, ⟨hN, hQ⟩, l', y', z'⟩, st⟩ := X.specialBack hx hy1 hown (mvT hZ w1) (mvT hZ w2) (mvT hZ w4) hy (backOf (Q := fun v h L => Fr n0 L ∧ Q v h) (W := W) hM hZ w4 w3 hf hl) hg hsize (Steps.refl _) (lenOf hpd hlen) hstack hW hd (fun _ _ => ⟨rfl, eT, hc, hs⟩)
  dsimp only [Pt.U, Pt.locs, Pt.cells, Pt.slots] at X' l' y' z' st hQ
  subst l' y' z'
  exact ⟨v, T', _, X', Fr.app N hN, hQ, fun t k => st.trans k⟩
/-- an instance method that its own class declares, by its contract -/
theorem own_callV (X : Stand p l e R s m args below meth c T locs cells slots) (hx : p.tables.exec = Jvm.exec) (hZ : Z.Warmed39 s.vm) {own C : String} {index : Nat} {y : MethodName} {bytes : ByteArray} {maxL : Nat} {ret : Option FieldType}
    (hown : s.vm.findClass own = some m.cls) (w1 : (Jvm.Cond.methodLink own index y).before a0 Z = true) (wd : (Jvm.Cond.declares y).before a0 Z = true) (ws : (Jvm.Cond.selects C y y).before a0 Z = true) (w2 : (Jvm.Cond.instanceMethod y).before a0 Z = true) (w3 : (Jvm.Cond.initialized y.cls).before a0 Z = true) (w4 : (Jvm.Cond.code y bytes maxL ret).before a0 Z = true)
    (hy : y.cls ≠ "java/lang/invoke/MethodHandle" ∧ y.cls ≠ "java/lang/invoke/VarHandle") {a : Addr} {argsL rest : List Value} {Q : Option Value → Heap → Prop} {rm : Room} (hM : own_Con [] l Z y bytes maxL ret rm n0 (.ref a :: argsL).toArray h Q) {W : Nat} (hf : rm.frames + 1 ≤ R.frames) (hl : W + (maxL + 11) + rm.locals ≤ R.locals)
    (E : Exa Z h a C) {g : JFrame} (hg : g.method = m) (hsize : g.locals.size = c.maxLocals) {ps : List FieldType} {r : Option FieldType} (hpd : parseMethodDescriptor y.desc = some ⟨ps, r⟩) (hlen : argsL.length = ps.length) (hstack : g.stack = argsL.reverse ++ .ref a :: rest) (hW : 2 * g.monitorRoom + (rest.map fun v => v.category).sum ≤ W)
    (hd : decode c.code g.pc = .ok (.invokevirtual index, 3)) (eT : T.heap = h) (hc : cells + rm.cells ≤ R.cells) (hs : slots + rm.slots ≤ R.slots) (N : Fr n0 locs) :
    ∃ v T' L', Stand p l e R s m args below meth c T' L' (cells + rm.cells) (slots + rm.slots) ∧ Fr n0 L' ∧ Q v T'.heap ∧ ∀ t, Steps p.tables e below (T'.setTop { g with pc := g.pc + 3, stack := v.toList ++ rest }) t → Steps p.tables e below (T.setTop g) t := by
  obtain ⟨cq, kq, qa, qb, qc⟩ := isOf hZ eT E
  obtain ⟨v, _, ⟨T', L', k', n'⟩, -, X', ⟨Lc, ⟨hN, hQ⟩, l', y', z'⟩, st⟩ := X.virtualBack hx (z := y) hown (mvT hZ w1) (mvT hZ wd) (notFace_of_selects (args := #[]) (mvT hZ ws)) (mvT hZ ws) (mvT hZ w2) hy (backOf (Q := fun v h L => Fr n0 L ∧ Q v h) (W := W) hM hZ w4 w3 hf hl) qa qc hg hsize (Steps.refl _) (lenOf hpd hlen) hstack hW hd (fun _ _ => ⟨rfl, eT, hc, hs⟩)
  dsimp only [Pt.U, Pt.locs, Pt.cells, Pt.slots] at X' l' y' z' st hQ
  subst l' y' z'
  exact ⟨v, T', _, X', Fr.app N hN, hQ, fun t k => st.trans k⟩
/-! arrays by their values -/
theorem own_ldI (X : Stand p l e R s m args below meth c T locs cells slots) (hx : p.tables.exec = Jvm.exec) (hZ : Z.Warmed39 s.vm) (eT : T.heap = h) {a : Addr} {k : ClassId} {n : Int32} {vs : List Value} {d : Value} (V : Arv Z h a k .int n vs d) {j : Int32} (hj : ¬ j < 0 ∧ j < n) {v : Value} (hv : vs.getD j.toNatClampNeg d = v)
    {g : JFrame} (hg : g.method = m) {rest : List Value} (hs : g.stack = .int j :: .ref a :: rest) (hd : decode c.code g.pc = .ok (.iaload, 1)) : ∀ t, Steps p.tables e below (T.setTop { g with pc := g.pc + 1, stack := v :: rest }) t → Steps p.tables e below (T.setTop g) t := by
  obtain ⟨cl, Ar, -, S, M, H, G⟩ := V
  have hin := inb_of S hj
  exact fun t k => X.iaload hx (by rw [eT]; exact Ar.1) (State.isArrayOf_alike hZ.alike Ar.2.1) Ar.2.2 hin (H.at hin hv) hg hs hd t k
theorem own_ldJ (X : Stand p l e R s m args below meth c T locs cells slots) (hx : p.tables.exec = Jvm.exec) (hZ : Z.Warmed39 s.vm) (eT : T.heap = h) {a : Addr} {k : ClassId} {n : Int32} {vs : List Value} {d : Value} (V : Arv Z h a k .long n vs d) {j : Int32} (hj : ¬ j < 0 ∧ j < n) {v : Value} (hv : vs.getD j.toNatClampNeg d = v)
    {g : JFrame} (hg : g.method = m) {rest : List Value} (hs : g.stack = .int j :: .ref a :: rest) (hd : decode c.code g.pc = .ok (.laload, 1)) : ∀ t, Steps p.tables e below (T.setTop { g with pc := g.pc + 1, stack := v :: rest }) t → Steps p.tables e below (T.setTop g) t := by
  obtain ⟨cl, Ar, -, S, M, H, G⟩ := V
  have hin := inb_of S hj
  exact fun t k => X.laload hx (by rw [eT]; exact Ar.1) (State.isArrayOf_alike hZ.alike Ar.2.1) Ar.2.2 hin (H.at hin hv) hg hs hd t k
theorem own_ldC (X : Stand p l e R s m args below meth c T locs cells slots) (hx : p.tables.exec = Jvm.exec) (hZ : Z.Warmed39 s.vm) (eT : T.heap = h) {a : Addr} {k : ClassId} {n : Int32} {vs : List Value} {d : Value} (V : Arv Z h a k .char n vs d) {j : Int32} (hj : ¬ j < 0 ∧ j < n) {v : Value} (hv : vs.getD j.toNatClampNeg d = v)
    {g : JFrame} (hg : g.method = m) {rest : List Value} (hs : g.stack = .int j :: .ref a :: rest) (hd : decode c.code g.pc = .ok (.caload, 1)) : ∀ t, Steps p.tables e below (T.setTop { g with pc := g.pc + 1, stack := v :: rest }) t → Steps p.tables e below (T.setTop g) t := by
  obtain ⟨cl, Ar, -, S, M, H, G⟩ := V
  have hin := inb_of S hj
  exact fun t k => X.caload hx (by rw [eT]; exact Ar.1) (State.isArrayOf_alike hZ.alike Ar.2.1) Ar.2.2 hin (H.at hin hv) hg hs hd t k
theorem own_ldB (X : Stand p l e R s m args below meth c T locs cells slots) (hx : p.tables.exec = Jvm.exec) (hZ : Z.Warmed39 s.vm) (eT : T.heap = h) {a : Addr} {k : ClassId} {n : Int32} {vs : List Value} {d : Value} (V : Arv Z h a k .byte n vs d) {j : Int32} (hj : ¬ j < 0 ∧ j < n) {v : Value} (hv : vs.getD j.toNatClampNeg d = v)
    {g : JFrame} (hg : g.method = m) {rest : List Value} (hs : g.stack = .int j :: .ref a :: rest) (hd : decode c.code g.pc = .ok (.baload, 1)) : ∀ t, Steps p.tables e below (T.setTop { g with pc := g.pc + 1, stack := v :: rest }) t → Steps p.tables e below (T.setTop g) t := by
  obtain ⟨cl, Ar, -, S, M, H, G⟩ := V
  have hin := inb_of S hj
  exact fun t k => X.baloadBytes hx (by rw [eT]; exact Ar.1) (State.isArrayOf_alike hZ.alike Ar.2.1) Ar.2.2 hin (H.at hin hv) hg hs hd t k
theorem own_len (X : Stand p l e R s m args below meth c T locs cells slots) (hx : p.tables.exec = Jvm.exec) (hZ : Z.Warmed39 s.vm) (eT : T.heap = h) {a : Addr} {k : ClassId} {ty : FieldType} {n : Int32} {vs : List Value} {d : Value} (V : Arv Z h a k ty n vs d)
    {g : JFrame} (hg : g.method = m) {rest : List Value} (hs : g.stack = .ref a :: rest) (hd : decode c.code g.pc = .ok (.arraylength, 1)) : ∀ t, Steps p.tables e below (T.setTop { g with pc := g.pc + 1, stack := .int n :: rest }) t → Steps p.tables e below (T.setTop g) t := by
  obtain ⟨cl, Ar, -, S, M, H, G⟩ := V
  intro t k
  refine X.arraylength hx (by rw [eT]; exact Ar.1) (State.isArrayOf_alike hZ.alike Ar.2.1) hg hs hd _ ?_
  rw [len_of S M]
  exact k
theorem own_stI (X : Stand p l e R s m args below meth c T locs cells slots) (hx : p.tables.exec = Jvm.exec) (hZ : Z.Warmed39 s.vm) (eT : T.heap = h) {a : Addr} {k : ClassId} {n : Int32} {vs : List Value} {d : Value} (V : Arv Z h a k .int n vs d) {j : Int32} (hj : ¬ j < 0 ∧ j < n) (i : Nat) (hi : j.toNatClampNeg = i) (hl : i < vs.length) {x : Int32}
    (N : Fr n0 locs) (ga : n0 ≤ a) {g : JFrame} (hg : g.method = m) {rest : List Value} (hs : g.stack = (.int x) :: .int j :: .ref a :: rest) (hd : decode c.code g.pc = .ok (.iastore, 1)) :
    ∃ T' h' L', Stand p l e R s m args below meth c T' L' cells slots ∧ Fr n0 L' ∧ T'.heap = h' ∧ Wr h h' a i (.int x) ∧ Arv Z h' a k .int n (vs.set i (.int x)) d ∧ ∀ t, Steps p.tables e below (T'.setTop { g with pc := g.pc + 1, stack := rest }) t → Steps p.tables e below (T.setTop g) t := by
  obtain ⟨cl, Ar, q, S, M, H, G⟩ := V
  obtain ⟨T', h', X', e', W, st⟩ := stI X hx hZ eT Ar (inb_of S hj) hg hs hd
  have V' := Arv.set Ar q S M H G rfl W i hi hl
  rw [hi] at W
  exact ⟨T', h', _, X', Fr.snoc X' N ga, e', W, V', st⟩
theorem own_stJ (X : Stand p l e R s m args below meth c T locs cells slots) (hx : p.tables.exec = Jvm.exec) (hZ : Z.Warmed39 s.vm) (eT : T.heap = h) {a : Addr} {k : ClassId} {n : Int32} {vs : List Value} {d : Value} (V : Arv Z h a k .long n vs d) {j : Int32} (hj : ¬ j < 0 ∧ j < n) (i : Nat) (hi : j.toNatClampNeg = i) (hl : i < vs.length) {x : Int64}
    (N : Fr n0 locs) (ga : n0 ≤ a) {g : JFrame} (hg : g.method = m) {rest : List Value} (hs : g.stack = (.long x) :: .int j :: .ref a :: rest) (hd : decode c.code g.pc = .ok (.lastore, 1)) :
    ∃ T' h' L', Stand p l e R s m args below meth c T' L' cells slots ∧ Fr n0 L' ∧ T'.heap = h' ∧ Wr h h' a i (.long x) ∧ Arv Z h' a k .long n (vs.set i (.long x)) d ∧ ∀ t, Steps p.tables e below (T'.setTop { g with pc := g.pc + 1, stack := rest }) t → Steps p.tables e below (T.setTop g) t := by
  obtain ⟨cl, Ar, q, S, M, H, G⟩ := V
  obtain ⟨T', h', X', e', W, st⟩ := stJ X hx hZ eT Ar (inb_of S hj) hg hs hd
  have V' := Arv.set Ar q S M H G rfl W i hi hl
  rw [hi] at W
  exact ⟨T', h', _, X', Fr.snoc X' N ga, e', W, V', st⟩
theorem own_stC (X : Stand p l e R s m args below meth c T locs cells slots) (hx : p.tables.exec = Jvm.exec) (hZ : Z.Warmed39 s.vm) (eT : T.heap = h) {a : Addr} {k : ClassId} {n : Int32} {vs : List Value} {d : Value} (V : Arv Z h a k .char n vs d) {j : Int32} (hj : ¬ j < 0 ∧ j < n) (i : Nat) (hi : j.toNatClampNeg = i) (hl : i < vs.length) {x : Int32}
    (N : Fr n0 locs) (ga : n0 ≤ a) {g : JFrame} (hg : g.method = m) {rest : List Value} (hs : g.stack = (.int x) :: .int j :: .ref a :: rest) (hd : decode c.code g.pc = .ok (.castore, 1)) :
    ∃ T' h' L', Stand p l e R s m args below meth c T' L' cells slots ∧ Fr n0 L' ∧ T'.heap = h' ∧ Wr h h' a i (.int (nar .char x)) ∧ Arv Z h' a k .char n (vs.set i (.int (nar .char x))) d ∧ ∀ t, Steps p.tables e below (T'.setTop { g with pc := g.pc + 1, stack := rest }) t → Steps p.tables e below (T.setTop g) t := by
  obtain ⟨cl, Ar, q, S, M, H, G⟩ := V
  obtain ⟨T', h', X', e', W, st⟩ := stC X hx hZ eT Ar (inb_of S hj) hg hs hd
  have V' := Arv.set Ar q S M H G (fits_nar_char _) W i hi hl
  rw [hi] at W
  exact ⟨T', h', _, X', Fr.snoc X' N ga, e', W, V', st⟩
theorem own_stB (X : Stand p l e R s m args below meth c T locs cells slots) (hx : p.tables.exec = Jvm.exec) (hZ : Z.Warmed39 s.vm) (eT : T.heap = h) {a : Addr} {k : ClassId} {n : Int32} {vs : List Value} {d : Value} (V : Arv Z h a k .byte n vs d) {j : Int32} (hj : ¬ j < 0 ∧ j < n) (i : Nat) (hi : j.toNatClampNeg = i) (hl : i < vs.length) {x : Int32}
    (N : Fr n0 locs) (ga : n0 ≤ a) {g : JFrame} (hg : g.method = m) {rest : List Value} (hs : g.stack = (.int x) :: .int j :: .ref a :: rest) (hd : decode c.code g.pc = .ok (.bastore, 1)) :
    ∃ T' h' L', Stand p l e R s m args below meth c T' L' cells slots ∧ Fr n0 L' ∧ T'.heap = h' ∧ Wr h h' a i (.int (nar .byte x)) ∧ Arv Z h' a k .byte n (vs.set i (.int (nar .byte x))) d ∧ ∀ t, Steps p.tables e below (T'.setTop { g with pc := g.pc + 1, stack := rest }) t → Steps p.tables e below (T.setTop g) t := by
  obtain ⟨cl, Ar, q, S, M, H, G⟩ := V
  obtain ⟨T', h', X', e', W, st⟩ := stB X hx hZ eT Ar (inb_of S hj) hg hs hd
  have V' := Arv.set Ar q S M H G (fits_nar_byte _) W i hi hl
  rw [hi] at W
  exact ⟨T', h', _, X', Fr.snoc X' N ga, e', W, V', st⟩
theorem own_new (X : Stand p l e R s m args below meth c T locs cells slots) (hx : p.tables.exec = Jvm.exec) (hZ : Z.Warmed39 s.vm) {aty : ArrayType} (w : (Jvm.Cond.arrayClass (newarray.typeOf aty)).before a0 Z = true) (eT : T.heap = h) {g : JFrame} (hg : g.method = m) (hd : decode c.code g.pc = .ok (.newarray aty, 2)) {n : Int32} {rest : List Value} (hs : g.stack = .int n :: rest)
    (hn : ¬ n < 0) {cap : Nat} (hcap : n.toNatClampNeg ≤ cap) (hb : cap * 8 ≤ 536870912) (hc : cells + 1 ≤ R.cells) (hl : slots + cap ≤ R.slots) :
    ∃ T' h' k a, a = h.size ∧ Stand p l e R s m args below meth c T' locs (cells + 1) (slots + cap) ∧ T'.heap = h' ∧ Ext h h' ∧ Arv Z h' a k (newarray.typeOf aty) n [] (defaultValue (newarray.typeOf aty)) ∧
      ∀ t, Steps p.tables e below (T'.setTop { g with pc := g.pc + 2, stack := .ref a :: rest }) t → Steps p.tables e below (T.setTop g) t := by
  obtain ⟨T', h', k, X', e', E, A, st⟩ := newP X hx hZ w eT hg hd hs hn hcap hb hc hl
  exact ⟨T', h', k, _, rfl, X', e', E, Arv.new A hn, st⟩
/-- what a method that only reads leaves -/
def own_P (z : Value) (h0 : Heap) : Option Value → Heap → Prop := fun v h => v = some z ∧ h = h0
end Own
def f1_0 (q0 : Int64) (q1 : Int64) : Int64 := (if q1 < q0 then q1 else q0)
abbrev own_r1 : Room := { frames := 0, cells := 0, slots := 0, locals := 0 }
theorem d1_0 : decode jdk_29_method_70_code 0 = .ok (.lload_n 0, 1) := by decide +kernel
theorem d1_1 : decode jdk_29_method_70_code 1 = .ok (.lload_n 2, 1) := by decide +kernel
theorem d1_2 : decode jdk_29_method_70_code 2 = .ok (.lcmp, 1) := by decide +kernel
theorem d1_3 : decode jdk_29_method_70_code 3 = .ok (.ifCond .gt 7, 3) := by decide +kernel
theorem d1_10 : decode jdk_29_method_70_code 10 = .ok (.lload_n 2, 1) := by decide +kernel
theorem d1_11 : decode jdk_29_method_70_code 11 = .ok (.lreturn, 1) := by decide +kernel
theorem d1_6 : decode jdk_29_method_70_code 6 = .ok (.lload_n 0, 1) := by decide +kernel
theorem d1_7 : decode jdk_29_method_70_code 7 = .ok (.goto 4, 3) := by decide +kernel
theorem ef_1 (m : MethodId) (q0 : Int64) (q1 : Int64) : entryFrame m #[(.long q0), (.long q1)] 4 = mkF m 0 #[.val (.long q0), .second, .val (.long q1), .second] [] := by first | (simp [entryFrame, mkF, argsToLocals, Value.category]; done) | rfl
set_option maxRecDepth 65536 in
set_option maxHeartbeats 40000000 in
theorem rm1 (l : Launch) (Z : State) (a0 : Array Value) (hw : ∀ d ∈ tables_1, d.before a0 Z = true) (q0 : Int64) (q1 : Int64) (h0 : Heap) (n0 : Nat) : own_Con [] l Z (⟨"java/lang/Math", "min", "(JJ)J"⟩ : MethodName) jdk_29_method_70_code 4 (some .long) own_r1 n0 #[(.long q0), (.long q1)] h0 (own_P (.long (f1_0 q0 q1)) h0) := by
  refine own_body (Jvm.Free.JP.mathPlain rfl (by decide +kernel)) (fun m => mkF m 0 #[.val (.long q0), .second, .val (.long q1), .second] []) (fun m => ef_1 m q0 q1) ?_
  intro p e s m below meth c s₁ hx hby hml hown hnm hZ hret hlk X0 e0 N0
  show own_Ends p e below s n0 _ _ _ _ (own_P (.long (if q1 < q0 then q1 else q0)) h0)
  refine own_go (T' := s₁) (g' := (mkF m 3 #[.val (.long q0), .second, .val (.long q1), .second] [(.int (lcmpW q0 q1))])) (fun t k => ?_) ?_
  · show Steps p.tables e below (s₁.setTop (mkF m 0 #[.val (.long q0), .second, .val (.long q1), .second] [])) t
    refine XS.lloadN X0.here hx rfl (hb hby d1_0) rfl ?_
    show Steps p.tables e below (s₁.setTop (mkF m 1 #[.val (.long q0), .second, .val (.long q1), .second] [(.long q0)])) _
    refine XS.lloadN X0.here hx rfl (hb hby d1_1) rfl ?_
    show Steps p.tables e below (s₁.setTop (mkF m 2 #[.val (.long q0), .second, .val (.long q1), .second] [(.long q1), (.long q0)])) _
    refine XS.lcmp X0.here hx rfl (hb hby d1_2) rfl ?_
    show Steps p.tables e below (s₁.setTop (mkF m 3 #[.val (.long q0), .second, .val (.long q1), .second] [(.int (lcmpW q0 q1))])) _
    exact k
  by_cases hc3_1 : q1 < q0
  · rw [if_pos hc3_1]
    refine own_go (T' := s₁) (g' := (mkF m 10 #[.val (.long q0), .second, .val (.long q1), .second] [])) (fun t k => ?_) ?_
    · refine XS.ifYes X0.here hx rfl (pc0 := 3) (pc' := 10) rfl (hb hby d1_3) rfl ((if0 _ _).trans (tlt ((lw_gt _ _).mpr hc3_1)).2.2.1) (by decide) (by decide) ?_
      exact k
    refine own_go (T' := s₁) (g' := (mkF m 11 #[.val (.long q0), .second, .val (.long q1), .second] [(.long q1)])) (fun t k => ?_) ?_
    · show Steps p.tables e below (s₁.setTop (mkF m 10 #[.val (.long q0), .second, .val (.long q1), .second] [])) t
      refine XS.lloadN X0.here hx rfl (hb hby d1_10) rfl ?_
      show Steps p.tables e below (s₁.setTop (mkF m 11 #[.val (.long q0), .second, .val (.long q1), .second] [(.long q1)])) _
      exact k
    exact own_retJ X0 hx hlk hret (hb hby d1_11) (by decide) (by decide) N0 ⟨rfl, e0⟩
  · rw [if_neg hc3_1]
    refine own_go (T' := s₁) (g' := (mkF m 6 #[.val (.long q0), .second, .val (.long q1), .second] [])) (fun t k => ?_) ?_
    · refine XS.ifNo X0.here hx rfl (hb hby d1_3) rfl ((if0 _ _).trans (flt (mt (lw_gt _ _).mp hc3_1)).2.2.1) ?_
      exact k
    refine own_go (T' := s₁) (g' := (mkF m 11 #[.val (.long q0), .second, .val (.long q1), .second] [(.long q0)])) (fun t k => ?_) ?_
    · show Steps p.tables e below (s₁.setTop (mkF m 6 #[.val (.long q0), .second, .val (.long q1), .second] [])) t
      refine XS.lloadN X0.here hx rfl (hb hby d1_6) rfl ?_
      show Steps p.tables e below (s₁.setTop (mkF m 7 #[.val (.long q0), .second, .val (.long q1), .second] [(.long q0)])) _
      refine XS.goto X0.here hx rfl (pc0 := 7) (pc' := 11) rfl (hb hby d1_7) (by decide) (by decide) ?_
      show Steps p.tables e below (s₁.setTop (mkF m 11 #[.val (.long q0), .second, .val (.long q1), .second] [(.long q0)])) _
      exact k
    exact own_retJ X0 hx hlk hret (hb hby d1_11) (by decide) (by decide) N0 ⟨rfl, e0⟩
def f2_0 (q0 : Int64) : Int32 := (if q0 < (2 : Int64) then (0 : Int32) else (if ((q0 - (2 : Int64)) - ((q0 - (2 : Int64)) / (32640 : Int64)) * (32640 : Int64)) < (2 : Int64) then (1 : Int32) else (0 : Int32)))
abbrev own_r2 : Room := { frames := 0, cells := 0, slots := 0, locals := 0 }
theorem d2_0 : decode prog_159_method_4_code 0 = .ok (.lload_n 0, 1) := by decide +kernel
theorem d2_1 : decode prog_159_method_4_code 1 = .ok (.ldc2_w 20, 3) := by decide +kernel
theorem d2_4 : decode prog_159_method_4_code 4 = .ok (.lcmp, 1) := by decide +kernel
theorem d2_5 : decode prog_159_method_4_code 5 = .ok (.ifCond .lt 23, 3) := by decide +kernel
theorem d2_28 : decode prog_159_method_4_code 28 = .ok (.iconst 0, 1) := by decide +kernel
theorem d2_29 : decode prog_159_method_4_code 29 = .ok (.ireturn, 1) := by decide +kernel
theorem d2_8 : decode prog_159_method_4_code 8 = .ok (.lload_n 0, 1) := by decide +kernel
theorem d2_9 : decode prog_159_method_4_code 9 = .ok (.ldc2_w 20, 3) := by decide +kernel
theorem d2_12 : decode prog_159_method_4_code 12 = .ok (.lsub, 1) := by decide +kernel
theorem d2_13 : decode prog_159_method_4_code 13 = .ok (.ldc2_w 22, 3) := by decide +kernel
theorem d2_16 : decode prog_159_method_4_code 16 = .ok (.lrem, 1) := by decide +kernel
theorem d2_17 : decode prog_159_method_4_code 17 = .ok (.ldc2_w 20, 3) := by decide +kernel
theorem d2_20 : decode prog_159_method_4_code 20 = .ok (.lcmp, 1) := by decide +kernel
theorem d2_21 : decode prog_159_method_4_code 21 = .ok (.ifCond .ge 7, 3) := by decide +kernel
theorem d2_24 : decode prog_159_method_4_code 24 = .ok (.iconst 1, 1) := by decide +kernel
theorem d2_25 : decode prog_159_method_4_code 25 = .ok (.goto 4, 3) := by decide +kernel
theorem ef_2 (m : MethodId) (q0 : Int64) : entryFrame m #[(.long q0)] 2 = mkF m 0 #[.val (.long q0), .second] [] := by first | (simp [entryFrame, mkF, argsToLocals, Value.category]; done) | rfl
set_option maxRecDepth 65536 in
set_option maxHeartbeats 40000000 in
theorem rm2 (l : Launch) (Z : State) (a0 : Array Value) (hw : ∀ d ∈ tables_1, d.before a0 Z = true) (q0 : Int64) (h0 : Heap) (n0 : Nat) : own_Con [] l Z (⟨"org/tarndb/store/FreeMap", "isMapPage", "(J)Z"⟩ : MethodName) prog_159_method_4_code 2 (some .boolean) own_r2 n0 #[(.long q0)] h0 (own_P (.int (f2_0 q0)) h0) := by
  refine own_body (plainFor_of_name (by first | (simp [plainName, overriddenIn]; done) | decide +kernel)) (fun m => mkF m 0 #[.val (.long q0), .second] []) (fun m => ef_2 m q0) ?_
  intro p e s m below meth c s₁ hx hby hml hown hnm hZ hret hlk X0 e0 N0
  show own_Ends p e below s n0 _ _ _ _ (own_P (.int (if q0 < (2 : Int64) then (0 : Int32) else (if ((q0 - (2 : Int64)) - ((q0 - (2 : Int64)) / (32640 : Int64)) * (32640 : Int64)) < (2 : Int64) then (1 : Int32) else (0 : Int32)))) h0)
  refine own_go (T' := s₁) (g' := (mkF m 5 #[.val (.long q0), .second] [(.int (lcmpW q0 (2 : Int64)))])) (fun t k => ?_) ?_
  · show Steps p.tables e below (s₁.setTop (mkF m 0 #[.val (.long q0), .second] [])) t
    refine XS.lloadN X0.here hx rfl (hb hby d2_0) rfl ?_
    show Steps p.tables e below (s₁.setTop (mkF m 1 #[.val (.long q0), .second] [(.long q0)])) _
    refine X0.ldc2Long hx hown (mvT hZ (hw _ (List.mem_of_getElem? (i := 12) rfl))) (g := (mkF m 1 #[.val (.long q0), .second] [(.long q0)])) rfl (hb hby d2_1) _ ?_
    show Steps p.tables e below (s₁.setTop (mkF m 4 #[.val (.long q0), .second] [(.long (2 : Int64)), (.long q0)])) _
    refine XS.lcmp X0.here hx rfl (hb hby d2_4) rfl ?_
    show Steps p.tables e below (s₁.setTop (mkF m 5 #[.val (.long q0), .second] [(.int (lcmpW q0 (2 : Int64)))])) _
    exact k
  by_cases hc5_1 : q0 < (2 : Int64)
  · rw [if_pos hc5_1]
    refine own_go (T' := s₁) (g' := (mkF m 28 #[.val (.long q0), .second] [])) (fun t k => ?_) ?_
    · refine XS.ifYes X0.here hx rfl (pc0 := 5) (pc' := 28) rfl (hb hby d2_5) rfl ((if0 _ _).trans (tlt ((lw_lt _ _).mpr hc5_1)).1) (by decide) (by decide) ?_
      exact k
    refine own_go (T' := s₁) (g' := (mkF m 29 #[.val (.long q0), .second] [(.int (0 : Int32))])) (fun t k => ?_) ?_
    · show Steps p.tables e below (s₁.setTop (mkF m 28 #[.val (.long q0), .second] [])) t
      refine XS.iconst X0.here hx rfl (hb hby d2_28) ?_
      show Steps p.tables e below (s₁.setTop (mkF m 29 #[.val (.long q0), .second] [(.int (0 : Int32))])) _
      exact k
    exact own_retN X0 hx hlk hret (by simp) (hb hby d2_29) (by decide) (by decide) N0 ⟨rfl, e0⟩
  · rw [if_neg hc5_1]
    refine own_go (T' := s₁) (g' := (mkF m 8 #[.val (.long q0), .second] [])) (fun t k => ?_) ?_
    · refine XS.ifNo X0.here hx rfl (hb hby d2_5) rfl ((if0 _ _).trans (flt (mt (lw_lt _ _).mp hc5_1)).1) ?_
      exact k
    refine own_go (T' := s₁) (g' := (mkF m 21 #[.val (.long q0), .second] [(.int (lcmpW ((q0 - (2 : Int64)) - ((q0 - (2 : Int64)) / (32640 : Int64)) * (32640 : Int64)) (2 : Int64)))])) (fun t k => ?_) ?_
    · show Steps p.tables e below (s₁.setTop (mkF m 8 #[.val (.long q0), .second] [])) t
      refine XS.lloadN X0.here hx rfl (hb hby d2_8) rfl ?_
      show Steps p.tables e below (s₁.setTop (mkF m 9 #[.val (.long q0), .second] [(.long q0)])) _
      refine X0.ldc2Long hx hown (mvT hZ (hw _ (List.mem_of_getElem? (i := 12) rfl))) (g := (mkF m 9 #[.val (.long q0), .second] [(.long q0)])) rfl (hb hby d2_9) _ ?_
      show Steps p.tables e below (s₁.setTop (mkF m 12 #[.val (.long q0), .second] [(.long (2 : Int64)), (.long q0)])) _
      refine XS.lsub X0.here hx rfl (hb hby d2_12) rfl ?_
      show Steps p.tables e below (s₁.setTop (mkF m 13 #[.val (.long q0), .second] [(.long (q0 - (2 : Int64)))])) _
      refine X0.ldc2Long hx hown (mvT hZ (hw _ (List.mem_of_getElem? (i := 13) rfl))) (g := (mkF m 13 #[.val (.long q0), .second] [(.long (q0 - (2 : Int64)))])) rfl (hb hby d2_13) _ ?_
      show Steps p.tables e below (s₁.setTop (mkF m 16 #[.val (.long q0), .second] [(.long (32640 : Int64)), (.long (q0 - (2 : Int64)))])) _
      refine XS.lrem X0.here hx rfl (hb hby d2_16) rfl (by decide) ?_
      show Steps p.tables e below (s₁.setTop (mkF m 17 #[.val (.long q0), .second] [(.long ((q0 - (2 : Int64)) - ((q0 - (2 : Int64)) / (32640 : Int64)) * (32640 : Int64)))])) _
      refine X0.ldc2Long hx hown (mvT hZ (hw _ (List.mem_of_getElem? (i := 12) rfl))) (g := (mkF m 17 #[.val (.long q0), .second] [(.long ((q0 - (2 : Int64)) - ((q0 - (2 : Int64)) / (32640 : Int64)) * (32640 : Int64)))])) rfl (hb hby d2_17) _ ?_
      show Steps p.tables e below (s₁.setTop (mkF m 20 #[.val (.long q0), .second] [(.long (2 : Int64)), (.long ((q0 - (2 : Int64)) - ((q0 - (2 : Int64)) / (32640 : Int64)) * (32640 : Int64)))])) _
      refine XS.lcmp X0.here hx rfl (hb hby d2_20) rfl ?_
      show Steps p.tables e below (s₁.setTop (mkF m 21 #[.val (.long q0), .second] [(.int (lcmpW ((q0 - (2 : Int64)) - ((q0 - (2 : Int64)) / (32640 : Int64)) * (32640 : Int64)) (2 : Int64)))])) _
      exact k
    by_cases hc21_2 : ((q0 - (2 : Int64)) - ((q0 - (2 : Int64)) / (32640 : Int64)) * (32640 : Int64)) < (2 : Int64)
    · rw [if_pos hc21_2]
      refine own_go (T' := s₁) (g' := (mkF m 24 #[.val (.long q0), .second] [])) (fun t k => ?_) ?_
      · refine XS.ifNo X0.here hx rfl (hb hby d2_21) rfl ((if0 _ _).trans (tlt ((lw_lt _ _).mpr hc21_2)).2.1) ?_
        exact k
      refine own_go (T' := s₁) (g' := (mkF m 29 #[.val (.long q0), .second] [(.int (1 : Int32))])) (fun t k => ?_) ?_
      · show Steps p.tables e below (s₁.setTop (mkF m 24 #[.val (.long q0), .second] [])) t
        refine XS.iconst X0.here hx rfl (hb hby d2_24) ?_
        show Steps p.tables e below (s₁.setTop (mkF m 25 #[.val (.long q0), .second] [(.int (1 : Int32))])) _
        refine XS.goto X0.here hx rfl (pc0 := 25) (pc' := 29) rfl (hb hby d2_25) (by decide) (by decide) ?_
        show Steps p.tables e below (s₁.setTop (mkF m 29 #[.val (.long q0), .second] [(.int (1 : Int32))])) _
        exact k
      exact own_retN X0 hx hlk hret (by simp) (hb hby d2_29) (by decide) (by decide) N0 ⟨rfl, e0⟩
    · rw [if_neg hc21_2]
      refine own_go (T' := s₁) (g' := (mkF m 28 #[.val (.long q0), .second] [])) (fun t k => ?_) ?_
      · refine XS.ifYes X0.here hx rfl (pc0 := 21) (pc' := 28) rfl (hb hby d2_21) rfl ((if0 _ _).trans (flt (mt (lw_lt _ _).mp hc21_2)).2.1) (by decide) (by decide) ?_
        exact k
      refine own_go (T' := s₁) (g' := (mkF m 29 #[.val (.long q0), .second] [(.int (0 : Int32))])) (fun t k => ?_) ?_
      · show Steps p.tables e below (s₁.setTop (mkF m 28 #[.val (.long q0), .second] [])) t
        refine XS.iconst X0.here hx rfl (hb hby d2_28) ?_
        show Steps p.tables e below (s₁.setTop (mkF m 29 #[.val (.long q0), .second] [(.int (0 : Int32))])) _
        exact k
      exact own_retN X0 hx hlk hret (by simp) (hb hby d2_29) (by decide) (by decide) N0 ⟨rfl, e0⟩
def f0_149 (q0 : Int64) (p1 : Int32) (p2 : Int32) (v6 : Int64) (v8 : Int64) (v10 : Int64) (v12 : Int32) (v13 : Int64) (v15 : Int64) (u0 : Int32) (u1 : Int32) : Int32 := (if u1 = u0 then (1 : Int32) else (0 : Int32))
def f0_110 (q0 : Int64) (p1 : Int32) (p2 : Int32) (v6 : Int64) (v8 : Int64) (v10 : Int64) (v12 : Int32) (v13 : Int64) : Int32 := (if (f1_0 v13 ((9223372036854775807 : Int64) - v10)) < (2 : Int64) then (f0_149 q0 p1 p2 v6 v8 v10 v12 (f1_0 v13 ((9223372036854775807 : Int64) - v10)) (v10 + (f1_0 v13 ((9223372036854775807 : Int64) - v10))) (1 : Int32) (f2_0 (v10 + (f1_0 v13 ((9223372036854775807 : Int64) - v10))))) else (f0_149 q0 p1 p2 v6 v8 v10 v12 (f1_0 v13 ((9223372036854775807 : Int64) - v10)) (v10 + (f1_0 v13 ((9223372036854775807 : Int64) - v10))) (0 : Int32) (f2_0 (v10 + (f1_0 v13 ((9223372036854775807 : Int64) - v10))))))
def f0_61 (q0 : Int64) (p1 : Int32) (p2 : Int32) (v6 : Int64) (v8 : Int64) (v10 : Int64) : Int32 := (if (p2 &&& (3 : Int32)) = (0 : Int32) then (f0_110 q0 p1 p2 v6 v8 v10 (p2 &&& (3 : Int32)) ((p1 &&& (3 : Int32)).toInt64)) else (if (p2 &&& (3 : Int32)) = (1 : Int32) then (f0_110 q0 p1 p2 v6 v8 v10 (p2 &&& (3 : Int32)) (((32640 : Int64) - (1 : Int64)) - ((p1 &&& (3 : Int32)).toInt64))) else (f0_110 q0 p1 p2 v6 v8 v10 (p2 &&& (3 : Int32)) (((p1 &&& (2147483647 : Int32)).toInt64) - (((p1 &&& (2147483647 : Int32)).toInt64) / (32640 : Int64)) * (32640 : Int64)))))
def f0_0 (q0 : Int64) (p1 : Int32) (p2 : Int32) : Int32 := (if (p2 &&& (4 : Int32)) = (0 : Int32) then (f0_61 q0 p1 p2 ((9223372036854775805 : Int64) / (32640 : Int64)) (((q0.toUInt64 >>> ((1 : Int32) &&& 0x3f).toInt64.toUInt64).toInt64) - (((q0.toUInt64 >>> ((1 : Int32) &&& 0x3f).toInt64.toUInt64).toInt64) / (((9223372036854775805 : Int64) / (32640 : Int64)) + (1 : Int64))) * (((9223372036854775805 : Int64) / (32640 : Int64)) + (1 : Int64))) ((2 : Int64) + ((((q0.toUInt64 >>> ((1 : Int32) &&& 0x3f).toInt64.toUInt64).toInt64) - (((q0.toUInt64 >>> ((1 : Int32) &&& 0x3f).toInt64.toUInt64).toInt64) / (((9223372036854775805 : Int64) / (32640 : Int64)) + (1 : Int64))) * (((9223372036854775805 : Int64) / (32640 : Int64)) + (1 : Int64))) * (32640 : Int64)))) else (if (f2_0 (f1_0 q0 (1 : Int64))) = (0 : Int32) then (1 : Int32) else (0 : Int32)))
theorem pd_0 : parseMethodDescriptor "(JJ)J" = some ⟨[.long, .long], some .long⟩ := by decide +kernel
theorem pd_1 : parseMethodDescriptor "(J)Z" = some ⟨[.long], some .boolean⟩ := by decide +kernel
theorem ef_0 (m : MethodId) (q0 : Int64) (p1 : Int32) (p2 : Int32) : entryFrame m #[(.long q0), (.int p1), (.int p2)] maxLocals = mkF m 0 #[.val (.long q0), .second, .val (.int p1), .val (.int p2), .unset, .unset, .unset, .unset, .unset, .unset, .unset, .unset, .unset, .unset, .unset, .unset, .unset] [] := by first | (simp [entryFrame, mkF, argsToLocals, Value.category, maxLocals]; done) | rfl
set_option maxRecDepth 65536 in
set_option maxHeartbeats 40000000 in
theorem rm0 (l : Launch) (Z : State) (a0 : Array Value) (hw : ∀ d ∈ tables_1, d.before a0 Z = true) (q0 : Int64) (p1 : Int32) (p2 : Int32) (h0 : Heap) (n0 : Nat) : own_Con tables_1 l Z x code maxLocals ret room_1 n0 #[(.long q0), (.int p1), (.int p2)] h0 (own_P (.int (f0_0 q0 p1 p2)) h0) := by
  refine own_body (plainFor_of_name (by first | (simp [plainName, overriddenIn]; done) | decide +kernel)) (fun m => mkF m 0 #[.val (.long q0), .second, .val (.int p1), .val (.int p2), .unset, .unset, .unset, .unset, .unset, .unset, .unset, .unset, .unset, .unset, .unset, .unset, .unset] []) (fun m => ef_0 m q0 p1 p2) ?_
  intro p e s m below meth c s₁ hx hby hml hown hnm hZ hret hlk X0 e0 N0
  have hml : c.maxLocals = 17 := hml
  have hown : s.vm.findClass "org/tarndb/store/FreeMapIsMapPagePinLaw" = some m.cls := hown
  have hret : meth.sig.returnType = some .boolean := hret
  have w_f0_149 : ∀ {T : State} {locs : List Loc} (X : Stand p l e room_1 s m #[(.long q0), (.int p1), (.int p2)] below meth c T locs 0 0) (eT : T.heap = h0) (N : Fr n0 locs) (v6 : Int64) (v8 : Int64) (v10 : Int64) (v12 : Int32) (v13 : Int64) (v15 : Int64) (u0 : Int32) (u1 : Int32), own_Ends p e below s n0 room_1.cells room_1.slots T (mkF m 149 #[.val (.long q0), .second, .val (.int p1), .val (.int p2), .val (.long (32640 : Int64)), .second, .val (.long v6), .second, .val (.long v8), .second, .val (.long v10), .second, .val (.int v12), .val (.long v13), .second, .val (.long v15), .second] [(.int u0), (.int u1)]) (own_P (.int (f0_149 q0 p1 p2 v6 v8 v10 v12 v13 v15 u0 u1)) h0) := by
    intro T locs X eT N v6 v8 v10 v12 v13 v15 u0 u1
    show own_Ends p e below s n0 _ _ _ _ (own_P (.int (if u1 = u0 then (1 : Int32) else (0 : Int32))) h0)
    by_cases hc149_6 : u1 = u0
    · rw [if_pos hc149_6]
      refine own_go (T' := T) (g' := (mkF m 152 #[.val (.long q0), .second, .val (.int p1), .val (.int p2), .val (.long (32640 : Int64)), .second, .val (.long v6), .second, .val (.long v8), .second, .val (.long v10), .second, .val (.int v12), .val (.long v13), .second, .val (.long v15), .second] [])) (fun t k => ?_) ?_
      · refine XS.icmpNo X.here hx rfl (hb hby at_149) rfl (teq hc149_6).2 ?_
        exact k
      refine own_go (T' := T) (g' := (mkF m 157 #[.val (.long q0), .second, .val (.int p1), .val (.int p2), .val (.long (32640 : Int64)), .second, .val (.long v6), .second, .val (.long v8), .second, .val (.long v10), .second, .val (.int v12), .val (.long v13), .second, .val (.long v15), .second] [(.int (1 : Int32))])) (fun t k => ?_) ?_
      · show Steps p.tables e below (T.setTop (mkF m 152 #[.val (.long q0), .second, .val (.int p1), .val (.int p2), .val (.long (32640 : Int64)), .second, .val (.long v6), .second, .val (.long v8), .second, .val (.long v10), .second, .val (.int v12), .val (.long v13), .second, .val (.long v15), .second] [])) t
        refine XS.iconst X.here hx rfl (hb hby at_152) ?_
        show Steps p.tables e below (T.setTop (mkF m 153 #[.val (.long q0), .second, .val (.int p1), .val (.int p2), .val (.long (32640 : Int64)), .second, .val (.long v6), .second, .val (.long v8), .second, .val (.long v10), .second, .val (.int v12), .val (.long v13), .second, .val (.long v15), .second] [(.int (1 : Int32))])) _
        refine XS.goto X.here hx rfl (pc0 := 153) (pc' := 157) rfl (hb hby at_153) (by decide) (by decide) ?_
        show Steps p.tables e below (T.setTop (mkF m 157 #[.val (.long q0), .second, .val (.int p1), .val (.int p2), .val (.long (32640 : Int64)), .second, .val (.long v6), .second, .val (.long v8), .second, .val (.long v10), .second, .val (.int v12), .val (.long v13), .second, .val (.long v15), .second] [(.int (1 : Int32))])) _
        exact k
      exact own_retN X hx hlk hret (by simp) (hb hby at_157) (by decide) (by decide) N ⟨rfl, eT⟩
    · rw [if_neg hc149_6]
      refine own_go (T' := T) (g' := (mkF m 156 #[.val (.long q0), .second, .val (.int p1), .val (.int p2), .val (.long (32640 : Int64)), .second, .val (.long v6), .second, .val (.long v8), .second, .val (.long v10), .second, .val (.int v12), .val (.long v13), .second, .val (.long v15), .second] [])) (fun t k => ?_) ?_
      · refine XS.icmpYes X.here hx rfl (pc0 := 149) (pc' := 156) rfl (hb hby at_149) rfl (feq hc149_6).2 (by decide) (by decide) ?_
        exact k
      refine own_go (T' := T) (g' := (mkF m 157 #[.val (.long q0), .second, .val (.int p1), .val (.int p2), .val (.long (32640 : Int64)), .second, .val (.long v6), .second, .val (.long v8), .second, .val (.long v10), .second, .val (.int v12), .val (.long v13), .second, .val (.long v15), .second] [(.int (0 : Int32))])) (fun t k => ?_) ?_
      · show Steps p.tables e below (T.setTop (mkF m 156 #[.val (.long q0), .second, .val (.int p1), .val (.int p2), .val (.long (32640 : Int64)), .second, .val (.long v6), .second, .val (.long v8), .second, .val (.long v10), .second, .val (.int v12), .val (.long v13), .second, .val (.long v15), .second] [])) t
        refine XS.iconst X.here hx rfl (hb hby at_156) ?_
        show Steps p.tables e below (T.setTop (mkF m 157 #[.val (.long q0), .second, .val (.int p1), .val (.int p2), .val (.long (32640 : Int64)), .second, .val (.long v6), .second, .val (.long v8), .second, .val (.long v10), .second, .val (.int v12), .val (.long v13), .second, .val (.long v15), .second] [(.int (0 : Int32))])) _
        exact k
      exact own_retN X hx hlk hret (by simp) (hb hby at_157) (by decide) (by decide) N ⟨rfl, eT⟩
  have w_f0_110 : ∀ {T : State} {locs : List Loc} (X : Stand p l e room_1 s m #[(.long q0), (.int p1), (.int p2)] below meth c T locs 0 0) (eT : T.heap = h0) (N : Fr n0 locs) (v6 : Int64) (v8 : Int64) (v10 : Int64) (v12 : Int32) (v13 : Int64), own_Ends p e below s n0 room_1.cells room_1.slots T (mkF m 110 #[.val (.long q0), .second, .val (.int p1), .val (.int p2), .val (.long (32640 : Int64)), .second, .val (.long v6), .second, .val (.long v8), .second, .val (.long v10), .second, .val (.int v12), .val (.long v13), .second, .unset, .unset] []) (own_P (.int (f0_110 q0 p1 p2 v6 v8 v10 v12 v13)) h0) := by
    intro T locs X eT N v6 v8 v10 v12 v13
    show own_Ends p e below s n0 _ _ _ _ (own_P (.int (if (f1_0 v13 ((9223372036854775807 : Int64) - v10)) < (2 : Int64) then (f0_149 q0 p1 p2 v6 v8 v10 v12 (f1_0 v13 ((9223372036854775807 : Int64) - v10)) (v10 + (f1_0 v13 ((9223372036854775807 : Int64) - v10))) (1 : Int32) (f2_0 (v10 + (f1_0 v13 ((9223372036854775807 : Int64) - v10))))) else (f0_149 q0 p1 p2 v6 v8 v10 v12 (f1_0 v13 ((9223372036854775807 : Int64) - v10)) (v10 + (f1_0 v13 ((9223372036854775807 : Int64) - v10))) (0 : Int32) (f2_0 (v10 + (f1_0 v13 ((9223372036854775807 : Int64) - v10))))))) h0)
    refine own_go (T' := T) (g' := (mkF m 118 #[.val (.long q0), .second, .val (.int p1), .val (.int p2), .val (.long (32640 : Int64)), .second, .val (.long v6), .second, .val (.long v8), .second, .val (.long v10), .second, .val (.int v12), .val (.long v13), .second, .unset, .unset] [(.long ((9223372036854775807 : Int64) - v10)), (.long v13)])) (fun t k => ?_) ?_
    · show Steps p.tables e below (T.setTop (mkF m 110 #[.val (.long q0), .second, .val (.int p1), .val (.int p2), .val (.long (32640 : Int64)), .second, .val (.long v6), .second, .val (.long v8), .second, .val (.long v10), .second, .val (.int v12), .val (.long v13), .second, .unset, .unset] [])) t
      refine XS.lload X.here hx rfl (hb hby at_110) rfl ?_
      show Steps p.tables e below (T.setTop (mkF m 112 #[.val (.long q0), .second, .val (.int p1), .val (.int p2), .val (.long (32640 : Int64)), .second, .val (.long v6), .second, .val (.long v8), .second, .val (.long v10), .second, .val (.int v12), .val (.long v13), .second, .unset, .unset] [(.long v13)])) _
      refine X.ldc2Long hx hown (mvT hZ (hw _ (List.mem_of_getElem? (i := 3) rfl))) (g := (mkF m 112 #[.val (.long q0), .second, .val (.int p1), .val (.int p2), .val (.long (32640 : Int64)), .second, .val (.long v6), .second, .val (.long v8), .second, .val (.long v10), .second, .val (.int v12), .val (.long v13), .second, .unset, .unset] [(.long v13)])) rfl (hb hby at_112) _ ?_
      show Steps p.tables e below (T.setTop (mkF m 115 #[.val (.long q0), .second, .val (.int p1), .val (.int p2), .val (.long (32640 : Int64)), .second, .val (.long v6), .second, .val (.long v8), .second, .val (.long v10), .second, .val (.int v12), .val (.long v13), .second, .unset, .unset] [(.long (9223372036854775807 : Int64)), (.long v13)])) _
      refine XS.lload X.here hx rfl (hb hby at_115) rfl ?_
      show Steps p.tables e below (T.setTop (mkF m 117 #[.val (.long q0), .second, .val (.int p1), .val (.int p2), .val (.long (32640 : Int64)), .second, .val (.long v6), .second, .val (.long v8), .second, .val (.long v10), .second, .val (.int v12), .val (.long v13), .second, .unset, .unset] [(.long v10), (.long (9223372036854775807 : Int64)), (.long v13)])) _
      refine XS.lsub X.here hx rfl (hb hby at_117) rfl ?_
      show Steps p.tables e below (T.setTop (mkF m 118 #[.val (.long q0), .second, .val (.int p1), .val (.int p2), .val (.long (32640 : Int64)), .second, .val (.long v6), .second, .val (.long v8), .second, .val (.long v10), .second, .val (.int v12), .val (.long v13), .second, .unset, .unset] [(.long ((9223372036854775807 : Int64) - v10)), (.long v13)])) _
      exact k
    obtain ⟨_, T3, L3, X3, N3, ⟨rfl, e3⟩, st3⟩ := own_callS X hx hZ hown (hw _ (List.mem_of_getElem? (i := 4) rfl)) (hw _ (List.mem_of_getElem? (i := 5) rfl)) (hw _ (List.mem_of_getElem? (i := 6) rfl)) (hw _ (List.mem_of_getElem? (i := 7) rfl)) (by decide) (argsL := [(.long v13), (.long ((9223372036854775807 : Int64) - v10))]) (rest := []) (rm1 l Z a0 hw v13 ((9223372036854775807 : Int64) - v10) h0 n0) (W := 0) (by decide) (by decide) (g := (mkF m 118 #[.val (.long q0), .second, .val (.int p1), .val (.int p2), .val (.long (32640 : Int64)), .second, .val (.long v6), .second, .val (.long v8), .second, .val (.long v10), .second, .val (.int v12), .val (.long v13), .second, .unset, .unset] [(.long ((9223372036854775807 : Int64) - v10)), (.long v13)])) rfl (by rw [hml]; rfl) pd_0 rfl rfl (by show 2 * 0 + _ ≤ _; exact Nat.le_of_eq rfl) (hb hby at_118) eT (by decide) (by decide) N
    refine own_go (T' := T3) (g' := (mkF m 121 #[.val (.long q0), .second, .val (.int p1), .val (.int p2), .val (.long (32640 : Int64)), .second, .val (.long v6), .second, .val (.long v8), .second, .val (.long v10), .second, .val (.int v12), .val (.long v13), .second, .unset, .unset] [(.long (f1_0 v13 ((9223372036854775807 : Int64) - v10)))])) st3 ?_
    refine own_go (T' := T3) (g' := (mkF m 132 #[.val (.long q0), .second, .val (.int p1), .val (.int p2), .val (.long (32640 : Int64)), .second, .val (.long v6), .second, .val (.long v8), .second, .val (.long v10), .second, .val (.int v12), .val (.long (f1_0 v13 ((9223372036854775807 : Int64) - v10))), .second, .val (.long (v10 + (f1_0 v13 ((9223372036854775807 : Int64) - v10)))), .second] [(.long (v10 + (f1_0 v13 ((9223372036854775807 : Int64) - v10))))])) (fun t k => ?_) ?_
    · show Steps p.tables e below (T3.setTop (mkF m 121 #[.val (.long q0), .second, .val (.int p1), .val (.int p2), .val (.long (32640 : Int64)), .second, .val (.long v6), .second, .val (.long v8), .second, .val (.long v10), .second, .val (.int v12), .val (.long v13), .second, .unset, .unset] [(.long (f1_0 v13 ((9223372036854775807 : Int64) - v10)))])) t
      refine XS.lstore X3.here hx rfl (hb hby at_121) rfl (l' := #[.val (.long q0), .second, .val (.int p1), .val (.int p2), .val (.long (32640 : Int64)), .second, .val (.long v6), .second, .val (.long v8), .second, .val (.long v10), .second, .val (.int v12), .val (.long (f1_0 v13 ((9223372036854775807 : Int64) - v10))), .second, .unset, .unset]) rfl ?_
      show Steps p.tables e below (T3.setTop (mkF m 123 #[.val (.long q0), .second, .val (.int p1), .val (.int p2), .val (.long (32640 : Int64)), .second, .val (.long v6), .second, .val (.long v8), .second, .val (.long v10), .second, .val (.int v12), .val (.long (f1_0 v13 ((9223372036854775807 : Int64) - v10))), .second, .unset, .unset] [])) _
      refine XS.lload X3.here hx rfl (hb hby at_123) rfl ?_
      show Steps p.tables e below (T3.setTop (mkF m 125 #[.val (.long q0), .second, .val (.int p1), .val (.int p2), .val (.long (32640 : Int64)), .second, .val (.long v6), .second, .val (.long v8), .second, .val (.long v10), .second, .val (.int v12), .val (.long (f1_0 v13 ((9223372036854775807 : Int64) - v10))), .second, .unset, .unset] [(.long v10)])) _
      refine XS.lload X3.here hx rfl (hb hby at_125) rfl ?_
      show Steps p.tables e below (T3.setTop (mkF m 127 #[.val (.long q0), .second, .val (.int p1), .val (.int p2), .val (.long (32640 : Int64)), .second, .val (.long v6), .second, .val (.long v8), .second, .val (.long v10), .second, .val (.int v12), .val (.long (f1_0 v13 ((9223372036854775807 : Int64) - v10))), .second, .unset, .unset] [(.long (f1_0 v13 ((9223372036854775807 : Int64) - v10))), (.long v10)])) _
      refine XS.ladd X3.here hx rfl (hb hby at_127) rfl ?_
      show Steps p.tables e below (T3.setTop (mkF m 128 #[.val (.long q0), .second, .val (.int p1), .val (.int p2), .val (.long (32640 : Int64)), .second, .val (.long v6), .second, .val (.long v8), .second, .val (.long v10), .second, .val (.int v12), .val (.long (f1_0 v13 ((9223372036854775807 : Int64) - v10))), .second, .unset, .unset] [(.long (v10 + (f1_0 v13 ((9223372036854775807 : Int64) - v10))))])) _
      refine XS.lstore X3.here hx rfl (hb hby at_128) rfl (l' := #[.val (.long q0), .second, .val (.int p1), .val (.int p2), .val (.long (32640 : Int64)), .second, .val (.long v6), .second, .val (.long v8), .second, .val (.long v10), .second, .val (.int v12), .val (.long (f1_0 v13 ((9223372036854775807 : Int64) - v10))), .second, .val (.long (v10 + (f1_0 v13 ((9223372036854775807 : Int64) - v10)))), .second]) rfl ?_
      show Steps p.tables e below (T3.setTop (mkF m 130 #[.val (.long q0), .second, .val (.int p1), .val (.int p2), .val (.long (32640 : Int64)), .second, .val (.long v6), .second, .val (.long v8), .second, .val (.long v10), .second, .val (.int v12), .val (.long (f1_0 v13 ((9223372036854775807 : Int64) - v10))), .second, .val (.long (v10 + (f1_0 v13 ((9223372036854775807 : Int64) - v10)))), .second] [])) _
      refine XS.lload X3.here hx rfl (hb hby at_130) rfl ?_
      show Steps p.tables e below (T3.setTop (mkF m 132 #[.val (.long q0), .second, .val (.int p1), .val (.int p2), .val (.long (32640 : Int64)), .second, .val (.long v6), .second, .val (.long v8), .second, .val (.long v10), .second, .val (.int v12), .val (.long (f1_0 v13 ((9223372036854775807 : Int64) - v10))), .second, .val (.long (v10 + (f1_0 v13 ((9223372036854775807 : Int64) - v10)))), .second] [(.long (v10 + (f1_0 v13 ((9223372036854775807 : Int64) - v10))))])) _
      exact k
    obtain ⟨_, T4, L4, X4, N4, ⟨rfl, e4⟩, st4⟩ := own_callS X3 hx hZ hown (hw _ (List.mem_of_getElem? (i := 8) rfl)) (hw _ (List.mem_of_getElem? (i := 9) rfl)) (hw _ (List.mem_of_getElem? (i := 10) rfl)) (hw _ (List.mem_of_getElem? (i := 11) rfl)) (by decide) (argsL := [(.long (v10 + (f1_0 v13 ((9223372036854775807 : Int64) - v10))))]) (rest := []) (rm2 l Z a0 hw (v10 + (f1_0 v13 ((9223372036854775807 : Int64) - v10))) h0 n0) (W := 0) (by decide) (by decide) (g := (mkF m 132 #[.val (.long q0), .second, .val (.int p1), .val (.int p2), .val (.long (32640 : Int64)), .second, .val (.long v6), .second, .val (.long v8), .second, .val (.long v10), .second, .val (.int v12), .val (.long (f1_0 v13 ((9223372036854775807 : Int64) - v10))), .second, .val (.long (v10 + (f1_0 v13 ((9223372036854775807 : Int64) - v10)))), .second] [(.long (v10 + (f1_0 v13 ((9223372036854775807 : Int64) - v10))))])) rfl (by rw [hml]; rfl) pd_1 rfl rfl (by show 2 * 0 + _ ≤ _; exact Nat.le_of_eq rfl) (hb hby at_132) e3 (by decide) (by decide) N3
    refine own_go (T' := T4) (g' := (mkF m 135 #[.val (.long q0), .second, .val (.int p1), .val (.int p2), .val (.long (32640 : Int64)), .second, .val (.long v6), .second, .val (.long v8), .second, .val (.long v10), .second, .val (.int v12), .val (.long (f1_0 v13 ((9223372036854775807 : Int64) - v10))), .second, .val (.long (v10 + (f1_0 v13 ((9223372036854775807 : Int64) - v10)))), .second] [(.int (f2_0 (v10 + (f1_0 v13 ((9223372036854775807 : Int64) - v10)))))])) st4 ?_
    refine own_go (T' := T4) (g' := (mkF m 141 #[.val (.long q0), .second, .val (.int p1), .val (.int p2), .val (.long (32640 : Int64)), .second, .val (.long v6), .second, .val (.long v8), .second, .val (.long v10), .second, .val (.int v12), .val (.long (f1_0 v13 ((9223372036854775807 : Int64) - v10))), .second, .val (.long (v10 + (f1_0 v13 ((9223372036854775807 : Int64) - v10)))), .second] [(.int (lcmpW (f1_0 v13 ((9223372036854775807 : Int64) - v10)) (2 : Int64))), (.int (f2_0 (v10 + (f1_0 v13 ((9223372036854775807 : Int64) - v10)))))])) (fun t k => ?_) ?_
    · show Steps p.tables e below (T4.setTop (mkF m 135 #[.val (.long q0), .second, .val (.int p1), .val (.int p2), .val (.long (32640 : Int64)), .second, .val (.long v6), .second, .val (.long v8), .second, .val (.long v10), .second, .val (.int v12), .val (.long (f1_0 v13 ((9223372036854775807 : Int64) - v10))), .second, .val (.long (v10 + (f1_0 v13 ((9223372036854775807 : Int64) - v10)))), .second] [(.int (f2_0 (v10 + (f1_0 v13 ((9223372036854775807 : Int64) - v10)))))])) t
      refine XS.lload X4.here hx rfl (hb hby at_135) rfl ?_
      show Steps p.tables e below (T4.setTop (mkF m 137 #[.val (.long q0), .second, .val (.int p1), .val (.int p2), .val (.long (32640 : Int64)), .second, .val (.long v6), .second, .val (.long v8), .second, .val (.long v10), .second, .val (.int v12), .val (.long (f1_0 v13 ((9223372036854775807 : Int64) - v10))), .second, .val (.long (v10 + (f1_0 v13 ((9223372036854775807 : Int64) - v10)))), .second] [(.long (f1_0 v13 ((9223372036854775807 : Int64) - v10))), (.int (f2_0 (v10 + (f1_0 v13 ((9223372036854775807 : Int64) - v10)))))])) _
      refine X4.ldc2Long hx hown (mvT hZ (hw _ (List.mem_of_getElem? (i := 2) rfl))) (g := (mkF m 137 #[.val (.long q0), .second, .val (.int p1), .val (.int p2), .val (.long (32640 : Int64)), .second, .val (.long v6), .second, .val (.long v8), .second, .val (.long v10), .second, .val (.int v12), .val (.long (f1_0 v13 ((9223372036854775807 : Int64) - v10))), .second, .val (.long (v10 + (f1_0 v13 ((9223372036854775807 : Int64) - v10)))), .second] [(.long (f1_0 v13 ((9223372036854775807 : Int64) - v10))), (.int (f2_0 (v10 + (f1_0 v13 ((9223372036854775807 : Int64) - v10)))))])) rfl (hb hby at_137) _ ?_
      show Steps p.tables e below (T4.setTop (mkF m 140 #[.val (.long q0), .second, .val (.int p1), .val (.int p2), .val (.long (32640 : Int64)), .second, .val (.long v6), .second, .val (.long v8), .second, .val (.long v10), .second, .val (.int v12), .val (.long (f1_0 v13 ((9223372036854775807 : Int64) - v10))), .second, .val (.long (v10 + (f1_0 v13 ((9223372036854775807 : Int64) - v10)))), .second] [(.long (2 : Int64)), (.long (f1_0 v13 ((9223372036854775807 : Int64) - v10))), (.int (f2_0 (v10 + (f1_0 v13 ((9223372036854775807 : Int64) - v10)))))])) _
      refine XS.lcmp X4.here hx rfl (hb hby at_140) rfl ?_
      show Steps p.tables e below (T4.setTop (mkF m 141 #[.val (.long q0), .second, .val (.int p1), .val (.int p2), .val (.long (32640 : Int64)), .second, .val (.long v6), .second, .val (.long v8), .second, .val (.long v10), .second, .val (.int v12), .val (.long (f1_0 v13 ((9223372036854775807 : Int64) - v10))), .second, .val (.long (v10 + (f1_0 v13 ((9223372036854775807 : Int64) - v10)))), .second] [(.int (lcmpW (f1_0 v13 ((9223372036854775807 : Int64) - v10)) (2 : Int64))), (.int (f2_0 (v10 + (f1_0 v13 ((9223372036854775807 : Int64) - v10)))))])) _
      exact k
    by_cases hc141_5 : (f1_0 v13 ((9223372036854775807 : Int64) - v10)) < (2 : Int64)
    · rw [if_pos hc141_5]
      refine own_go (T' := T4) (g' := (mkF m 144 #[.val (.long q0), .second, .val (.int p1), .val (.int p2), .val (.long (32640 : Int64)), .second, .val (.long v6), .second, .val (.long v8), .second, .val (.long v10), .second, .val (.int v12), .val (.long (f1_0 v13 ((9223372036854775807 : Int64) - v10))), .second, .val (.long (v10 + (f1_0 v13 ((9223372036854775807 : Int64) - v10)))), .second] [(.int (f2_0 (v10 + (f1_0 v13 ((9223372036854775807 : Int64) - v10)))))])) (fun t k => ?_) ?_
      · refine XS.ifNo X4.here hx rfl (hb hby at_141) rfl ((if0 _ _).trans (tlt ((lw_lt _ _).mpr hc141_5)).2.1) ?_
        exact k
      refine own_go (T' := T4) (g' := (mkF m 149 #[.val (.long q0), .second, .val (.int p1), .val (.int p2), .val (.long (32640 : Int64)), .second, .val (.long v6), .second, .val (.long v8), .second, .val (.long v10), .second, .val (.int v12), .val (.long (f1_0 v13 ((9223372036854775807 : Int64) - v10))), .second, .val (.long (v10 + (f1_0 v13 ((9223372036854775807 : Int64) - v10)))), .second] [(.int (1 : Int32)), (.int (f2_0 (v10 + (f1_0 v13 ((9223372036854775807 : Int64) - v10)))))])) (fun t k => ?_) ?_
      · show Steps p.tables e below (T4.setTop (mkF m 144 #[.val (.long q0), .second, .val (.int p1), .val (.int p2), .val (.long (32640 : Int64)), .second, .val (.long v6), .second, .val (.long v8), .second, .val (.long v10), .second, .val (.int v12), .val (.long (f1_0 v13 ((9223372036854775807 : Int64) - v10))), .second, .val (.long (v10 + (f1_0 v13 ((9223372036854775807 : Int64) - v10)))), .second] [(.int (f2_0 (v10 + (f1_0 v13 ((9223372036854775807 : Int64) - v10)))))])) t
        refine XS.iconst X4.here hx rfl (hb hby at_144) ?_
        show Steps p.tables e below (T4.setTop (mkF m 145 #[.val (.long q0), .second, .val (.int p1), .val (.int p2), .val (.long (32640 : Int64)), .second, .val (.long v6), .second, .val (.long v8), .second, .val (.long v10), .second, .val (.int v12), .val (.long (f1_0 v13 ((9223372036854775807 : Int64) - v10))), .second, .val (.long (v10 + (f1_0 v13 ((9223372036854775807 : Int64) - v10)))), .second] [(.int (1 : Int32)), (.int (f2_0 (v10 + (f1_0 v13 ((9223372036854775807 : Int64) - v10)))))])) _
        refine XS.goto X4.here hx rfl (pc0 := 145) (pc' := 149) rfl (hb hby at_145) (by decide) (by decide) ?_
        show Steps p.tables e below (T4.setTop (mkF m 149 #[.val (.long q0), .second, .val (.int p1), .val (.int p2), .val (.long (32640 : Int64)), .second, .val (.long v6), .second, .val (.long v8), .second, .val (.long v10), .second, .val (.int v12), .val (.long (f1_0 v13 ((9223372036854775807 : Int64) - v10))), .second, .val (.long (v10 + (f1_0 v13 ((9223372036854775807 : Int64) - v10)))), .second] [(.int (1 : Int32)), (.int (f2_0 (v10 + (f1_0 v13 ((9223372036854775807 : Int64) - v10)))))])) _
        exact k
      exact w_f0_149 X4 e4 N4 v6 v8 v10 v12 (f1_0 v13 ((9223372036854775807 : Int64) - v10)) (v10 + (f1_0 v13 ((9223372036854775807 : Int64) - v10))) (1 : Int32) (f2_0 (v10 + (f1_0 v13 ((9223372036854775807 : Int64) - v10))))
    · rw [if_neg hc141_5]
      refine own_go (T' := T4) (g' := (mkF m 148 #[.val (.long q0), .second, .val (.int p1), .val (.int p2), .val (.long (32640 : Int64)), .second, .val (.long v6), .second, .val (.long v8), .second, .val (.long v10), .second, .val (.int v12), .val (.long (f1_0 v13 ((9223372036854775807 : Int64) - v10))), .second, .val (.long (v10 + (f1_0 v13 ((9223372036854775807 : Int64) - v10)))), .second] [(.int (f2_0 (v10 + (f1_0 v13 ((9223372036854775807 : Int64) - v10)))))])) (fun t k => ?_) ?_
      · refine XS.ifYes X4.here hx rfl (pc0 := 141) (pc' := 148) rfl (hb hby at_141) rfl ((if0 _ _).trans (flt (mt (lw_lt _ _).mp hc141_5)).2.1) (by decide) (by decide) ?_
        exact k
      refine own_go (T' := T4) (g' := (mkF m 149 #[.val (.long q0), .second, .val (.int p1), .val (.int p2), .val (.long (32640 : Int64)), .second, .val (.long v6), .second, .val (.long v8), .second, .val (.long v10), .second, .val (.int v12), .val (.long (f1_0 v13 ((9223372036854775807 : Int64) - v10))), .second, .val (.long (v10 + (f1_0 v13 ((9223372036854775807 : Int64) - v10)))), .second] [(.int (0 : Int32)), (.int (f2_0 (v10 + (f1_0 v13 ((9223372036854775807 : Int64) - v10)))))])) (fun t k => ?_) ?_
      · show Steps p.tables e below (T4.setTop (mkF m 148 #[.val (.long q0), .second, .val (.int p1), .val (.int p2), .val (.long (32640 : Int64)), .second, .val (.long v6), .second, .val (.long v8), .second, .val (.long v10), .second, .val (.int v12), .val (.long (f1_0 v13 ((9223372036854775807 : Int64) - v10))), .second, .val (.long (v10 + (f1_0 v13 ((9223372036854775807 : Int64) - v10)))), .second] [(.int (f2_0 (v10 + (f1_0 v13 ((9223372036854775807 : Int64) - v10)))))])) t
        refine XS.iconst X4.here hx rfl (hb hby at_148) ?_
        show Steps p.tables e below (T4.setTop (mkF m 149 #[.val (.long q0), .second, .val (.int p1), .val (.int p2), .val (.long (32640 : Int64)), .second, .val (.long v6), .second, .val (.long v8), .second, .val (.long v10), .second, .val (.int v12), .val (.long (f1_0 v13 ((9223372036854775807 : Int64) - v10))), .second, .val (.long (v10 + (f1_0 v13 ((9223372036854775807 : Int64) - v10)))), .second] [(.int (0 : Int32)), (.int (f2_0 (v10 + (f1_0 v13 ((9223372036854775807 : Int64) - v10)))))])) _
        exact k
      exact w_f0_149 X4 e4 N4 v6 v8 v10 v12 (f1_0 v13 ((9223372036854775807 : Int64) - v10)) (v10 + (f1_0 v13 ((9223372036854775807 : Int64) - v10))) (0 : Int32) (f2_0 (v10 + (f1_0 v13 ((9223372036854775807 : Int64) - v10))))
  have w_f0_61 : ∀ {T : State} {locs : List Loc} (X : Stand p l e room_1 s m #[(.long q0), (.int p1), (.int p2)] below meth c T locs 0 0) (eT : T.heap = h0) (N : Fr n0 locs) (v6 : Int64) (v8 : Int64) (v10 : Int64), own_Ends p e below s n0 room_1.cells room_1.slots T (mkF m 61 #[.val (.long q0), .second, .val (.int p1), .val (.int p2), .val (.long (32640 : Int64)), .second, .val (.long v6), .second, .val (.long v8), .second, .val (.long v10), .second, .unset, .unset, .unset, .unset, .unset] []) (own_P (.int (f0_61 q0 p1 p2 v6 v8 v10)) h0) := by
    intro T locs X eT N v6 v8 v10
    show own_Ends p e below s n0 _ _ _ _ (own_P (.int (if (p2 &&& (3 : Int32)) = (0 : Int32) then (f0_110 q0 p1 p2 v6 v8 v10 (p2 &&& (3 : Int32)) ((p1 &&& (3 : Int32)).toInt64)) else (if (p2 &&& (3 : Int32)) = (1 : Int32) then (f0_110 q0 p1 p2 v6 v8 v10 (p2 &&& (3 : Int32)) (((32640 : Int64) - (1 : Int64)) - ((p1 &&& (3 : Int32)).toInt64))) else (f0_110 q0 p1 p2 v6 v8 v10 (p2 &&& (3 : Int32)) (((p1 &&& (2147483647 : Int32)).toInt64) - (((p1 &&& (2147483647 : Int32)).toInt64) / (32640 : Int64)) * (32640 : Int64)))))) h0)
    refine own_go (T' := T) (g' := (mkF m 68 #[.val (.long q0), .second, .val (.int p1), .val (.int p2), .val (.long (32640 : Int64)), .second, .val (.long v6), .second, .val (.long v8), .second, .val (.long v10), .second, .val (.int (p2 &&& (3 : Int32))), .unset, .unset, .unset, .unset] [(.int (p2 &&& (3 : Int32)))])) (fun t k => ?_) ?_
    · show Steps p.tables e below (T.setTop (mkF m 61 #[.val (.long q0), .second, .val (.int p1), .val (.int p2), .val (.long (32640 : Int64)), .second, .val (.long v6), .second, .val (.long v8), .second, .val (.long v10), .second, .unset, .unset, .unset, .unset, .unset] [])) t
      refine XS.iloadN X.here hx rfl (hb hby at_61) rfl ?_
      show Steps p.tables e below (T.setTop (mkF m 62 #[.val (.long q0), .second, .val (.int p1), .val (.int p2), .val (.long (32640 : Int64)), .second, .val (.long v6), .second, .val (.long v8), .second, .val (.long v10), .second, .unset, .unset, .unset, .unset, .unset] [(.int p2)])) _
      refine XS.iconst X.here hx rfl (hb hby at_62) ?_
      show Steps p.tables e below (T.setTop (mkF m 63 #[.val (.long q0), .second, .val (.int p1), .val (.int p2), .val (.long (32640 : Int64)), .second, .val (.long v6), .second, .val (.long v8), .second, .val (.long v10), .second, .unset, .unset, .unset, .unset, .unset] [(.int (3 : Int32)), (.int p2)])) _
      refine XS.iand X.here hx rfl (hb hby at_63) rfl ?_
      show Steps p.tables e below (T.setTop (mkF m 64 #[.val (.long q0), .second, .val (.int p1), .val (.int p2), .val (.long (32640 : Int64)), .second, .val (.long v6), .second, .val (.long v8), .second, .val (.long v10), .second, .unset, .unset, .unset, .unset, .unset] [(.int (p2 &&& (3 : Int32)))])) _
      refine XS.istore X.here hx rfl (hb hby at_64) rfl (l' := #[.val (.long q0), .second, .val (.int p1), .val (.int p2), .val (.long (32640 : Int64)), .second, .val (.long v6), .second, .val (.long v8), .second, .val (.long v10), .second, .val (.int (p2 &&& (3 : Int32))), .unset, .unset, .unset, .unset]) rfl ?_
      show Steps p.tables e below (T.setTop (mkF m 66 #[.val (.long q0), .second, .val (.int p1), .val (.int p2), .val (.long (32640 : Int64)), .second, .val (.long v6), .second, .val (.long v8), .second, .val (.long v10), .second, .val (.int (p2 &&& (3 : Int32))), .unset, .unset, .unset, .unset] [])) _
      refine XS.iload X.here hx rfl (hb hby at_66) rfl ?_
      show Steps p.tables e below (T.setTop (mkF m 68 #[.val (.long q0), .second, .val (.int p1), .val (.int p2), .val (.long (32640 : Int64)), .second, .val (.long v6), .second, .val (.long v8), .second, .val (.long v10), .second, .val (.int (p2 &&& (3 : Int32))), .unset, .unset, .unset, .unset] [(.int (p2 &&& (3 : Int32)))])) _
      exact k
    by_cases hc68_2 : (p2 &&& (3 : Int32)) = (0 : Int32)
    · rw [if_pos hc68_2]
      refine own_go (T' := T) (g' := (mkF m 71 #[.val (.long q0), .second, .val (.int p1), .val (.int p2), .val (.long (32640 : Int64)), .second, .val (.long v6), .second, .val (.long v8), .second, .val (.long v10), .second, .val (.int (p2 &&& (3 : Int32))), .unset, .unset, .unset, .unset] [])) (fun t k => ?_) ?_
      · refine XS.ifNo X.here hx rfl (hb hby at_68) rfl ((if0 _ _).trans (teq hc68_2).2) ?_
        exact k
      refine own_go (T' := T) (g' := (mkF m 110 #[.val (.long q0), .second, .val (.int p1), .val (.int p2), .val (.long (32640 : Int64)), .second, .val (.long v6), .second, .val (.long v8), .second, .val (.long v10), .second, .val (.int (p2 &&& (3 : Int32))), .val (.long ((p1 &&& (3 : Int32)).toInt64)), .second, .unset, .unset] [])) (fun t k => ?_) ?_
      · show Steps p.tables e below (T.setTop (mkF m 71 #[.val (.long q0), .second, .val (.int p1), .val (.int p2), .val (.long (32640 : Int64)), .second, .val (.long v6), .second, .val (.long v8), .second, .val (.long v10), .second, .val (.int (p2 &&& (3 : Int32))), .unset, .unset, .unset, .unset] [])) t
        refine XS.iloadN X.here hx rfl (hb hby at_71) rfl ?_
        show Steps p.tables e below (T.setTop (mkF m 72 #[.val (.long q0), .second, .val (.int p1), .val (.int p2), .val (.long (32640 : Int64)), .second, .val (.long v6), .second, .val (.long v8), .second, .val (.long v10), .second, .val (.int (p2 &&& (3 : Int32))), .unset, .unset, .unset, .unset] [(.int p1)])) _
        refine XS.iconst X.here hx rfl (hb hby at_72) ?_
        show Steps p.tables e below (T.setTop (mkF m 73 #[.val (.long q0), .second, .val (.int p1), .val (.int p2), .val (.long (32640 : Int64)), .second, .val (.long v6), .second, .val (.long v8), .second, .val (.long v10), .second, .val (.int (p2 &&& (3 : Int32))), .unset, .unset, .unset, .unset] [(.int (3 : Int32)), (.int p1)])) _
        refine XS.iand X.here hx rfl (hb hby at_73) rfl ?_
        show Steps p.tables e below (T.setTop (mkF m 74 #[.val (.long q0), .second, .val (.int p1), .val (.int p2), .val (.long (32640 : Int64)), .second, .val (.long v6), .second, .val (.long v8), .second, .val (.long v10), .second, .val (.int (p2 &&& (3 : Int32))), .unset, .unset, .unset, .unset] [(.int (p1 &&& (3 : Int32)))])) _
        refine XS.i2l X.here hx rfl (hb hby at_74) rfl ?_
        show Steps p.tables e below (T.setTop (mkF m 75 #[.val (.long q0), .second, .val (.int p1), .val (.int p2), .val (.long (32640 : Int64)), .second, .val (.long v6), .second, .val (.long v8), .second, .val (.long v10), .second, .val (.int (p2 &&& (3 : Int32))), .unset, .unset, .unset, .unset] [(.long ((p1 &&& (3 : Int32)).toInt64))])) _
        refine XS.lstore X.here hx rfl (hb hby at_75) rfl (l' := #[.val (.long q0), .second, .val (.int p1), .val (.int p2), .val (.long (32640 : Int64)), .second, .val (.long v6), .second, .val (.long v8), .second, .val (.long v10), .second, .val (.int (p2 &&& (3 : Int32))), .val (.long ((p1 &&& (3 : Int32)).toInt64)), .second, .unset, .unset]) rfl ?_
        show Steps p.tables e below (T.setTop (mkF m 77 #[.val (.long q0), .second, .val (.int p1), .val (.int p2), .val (.long (32640 : Int64)), .second, .val (.long v6), .second, .val (.long v8), .second, .val (.long v10), .second, .val (.int (p2 &&& (3 : Int32))), .val (.long ((p1 &&& (3 : Int32)).toInt64)), .second, .unset, .unset] [])) _
        refine XS.goto X.here hx rfl (pc0 := 77) (pc' := 110) rfl (hb hby at_77) (by decide) (by decide) ?_
        show Steps p.tables e below (T.setTop (mkF m 110 #[.val (.long q0), .second, .val (.int p1), .val (.int p2), .val (.long (32640 : Int64)), .second, .val (.long v6), .second, .val (.long v8), .second, .val (.long v10), .second, .val (.int (p2 &&& (3 : Int32))), .val (.long ((p1 &&& (3 : Int32)).toInt64)), .second, .unset, .unset] [])) _
        exact k
      exact w_f0_110 X eT N v6 v8 v10 (p2 &&& (3 : Int32)) ((p1 &&& (3 : Int32)).toInt64)
    · rw [if_neg hc68_2]
      refine own_go (T' := T) (g' := (mkF m 80 #[.val (.long q0), .second, .val (.int p1), .val (.int p2), .val (.long (32640 : Int64)), .second, .val (.long v6), .second, .val (.long v8), .second, .val (.long v10), .second, .val (.int (p2 &&& (3 : Int32))), .unset, .unset, .unset, .unset] [])) (fun t k => ?_) ?_
      · refine XS.ifYes X.here hx rfl (pc0 := 68) (pc' := 80) rfl (hb hby at_68) rfl ((if0 _ _).trans (feq hc68_2).2) (by decide) (by decide) ?_
        exact k
      refine own_go (T' := T) (g' := (mkF m 83 #[.val (.long q0), .second, .val (.int p1), .val (.int p2), .val (.long (32640 : Int64)), .second, .val (.long v6), .second, .val (.long v8), .second, .val (.long v10), .second, .val (.int (p2 &&& (3 : Int32))), .unset, .unset, .unset, .unset] [(.int (1 : Int32)), (.int (p2 &&& (3 : Int32)))])) (fun t k => ?_) ?_
      · show Steps p.tables e below (T.setTop (mkF m 80 #[.val (.long q0), .second, .val (.int p1), .val (.int p2), .val (.long (32640 : Int64)), .second, .val (.long v6), .second, .val (.long v8), .second, .val (.long v10), .second, .val (.int (p2 &&& (3 : Int32))), .unset, .unset, .unset, .unset] [])) t
        refine XS.iload X.here hx rfl (hb hby at_80) rfl ?_
        show Steps p.tables e below (T.setTop (mkF m 82 #[.val (.long q0), .second, .val (.int p1), .val (.int p2), .val (.long (32640 : Int64)), .second, .val (.long v6), .second, .val (.long v8), .second, .val (.long v10), .second, .val (.int (p2 &&& (3 : Int32))), .unset, .unset, .unset, .unset] [(.int (p2 &&& (3 : Int32)))])) _
        refine XS.iconst X.here hx rfl (hb hby at_82) ?_
        show Steps p.tables e below (T.setTop (mkF m 83 #[.val (.long q0), .second, .val (.int p1), .val (.int p2), .val (.long (32640 : Int64)), .second, .val (.long v6), .second, .val (.long v8), .second, .val (.long v10), .second, .val (.int (p2 &&& (3 : Int32))), .unset, .unset, .unset, .unset] [(.int (1 : Int32)), (.int (p2 &&& (3 : Int32)))])) _
        exact k
      by_cases hc83_7 : (p2 &&& (3 : Int32)) = (1 : Int32)
      · rw [if_pos hc83_7]
        refine own_go (T' := T) (g' := (mkF m 86 #[.val (.long q0), .second, .val (.int p1), .val (.int p2), .val (.long (32640 : Int64)), .second, .val (.long v6), .second, .val (.long v8), .second, .val (.long v10), .second, .val (.int (p2 &&& (3 : Int32))), .unset, .unset, .unset, .unset] [])) (fun t k => ?_) ?_
        · refine XS.icmpNo X.here hx rfl (hb hby at_83) rfl (teq hc83_7).2 ?_
          exact k
        refine own_go (T' := T) (g' := (mkF m 110 #[.val (.long q0), .second, .val (.int p1), .val (.int p2), .val (.long (32640 : Int64)), .second, .val (.long v6), .second, .val (.long v8), .second, .val (.long v10), .second, .val (.int (p2 &&& (3 : Int32))), .val (.long (((32640 : Int64) - (1 : Int64)) - ((p1 &&& (3 : Int32)).toInt64))), .second, .unset, .unset] [])) (fun t k => ?_) ?_
        · show Steps p.tables e below (T.setTop (mkF m 86 #[.val (.long q0), .second, .val (.int p1), .val (.int p2), .val (.long (32640 : Int64)), .second, .val (.long v6), .second, .val (.long v8), .second, .val (.long v10), .second, .val (.int (p2 &&& (3 : Int32))), .unset, .unset, .unset, .unset] [])) t
          refine XS.lload X.here hx rfl (hb hby at_86) rfl ?_
          show Steps p.tables e below (T.setTop (mkF m 88 #[.val (.long q0), .second, .val (.int p1), .val (.int p2), .val (.long (32640 : Int64)), .second, .val (.long v6), .second, .val (.long v8), .second, .val (.long v10), .second, .val (.int (p2 &&& (3 : Int32))), .unset, .unset, .unset, .unset] [(.long (32640 : Int64))])) _
          refine XS.lconst X.here hx rfl (hb hby at_88) ?_
          show Steps p.tables e below (T.setTop (mkF m 89 #[.val (.long q0), .second, .val (.int p1), .val (.int p2), .val (.long (32640 : Int64)), .second, .val (.long v6), .second, .val (.long v8), .second, .val (.long v10), .second, .val (.int (p2 &&& (3 : Int32))), .unset, .unset, .unset, .unset] [(.long (1 : Int64)), (.long (32640 : Int64))])) _
          refine XS.lsub X.here hx rfl (hb hby at_89) rfl ?_
          show Steps p.tables e below (T.setTop (mkF m 90 #[.val (.long q0), .second, .val (.int p1), .val (.int p2), .val (.long (32640 : Int64)), .second, .val (.long v6), .second, .val (.long v8), .second, .val (.long v10), .second, .val (.int (p2 &&& (3 : Int32))), .unset, .unset, .unset, .unset] [(.long ((32640 : Int64) - (1 : Int64)))])) _
          refine XS.iloadN X.here hx rfl (hb hby at_90) rfl ?_
          show Steps p.tables e below (T.setTop (mkF m 91 #[.val (.long q0), .second, .val (.int p1), .val (.int p2), .val (.long (32640 : Int64)), .second, .val (.long v6), .second, .val (.long v8), .second, .val (.long v10), .second, .val (.int (p2 &&& (3 : Int32))), .unset, .unset, .unset, .unset] [(.int p1), (.long ((32640 : Int64) - (1 : Int64)))])) _
          refine XS.iconst X.here hx rfl (hb hby at_91) ?_
          show Steps p.tables e below (T.setTop (mkF m 92 #[.val (.long q0), .second, .val (.int p1), .val (.int p2), .val (.long (32640 : Int64)), .second, .val (.long v6), .second, .val (.long v8), .second, .val (.long v10), .second, .val (.int (p2 &&& (3 : Int32))), .unset, .unset, .unset, .unset] [(.int (3 : Int32)), (.int p1), (.long ((32640 : Int64) - (1 : Int64)))])) _
          refine XS.iand X.here hx rfl (hb hby at_92) rfl ?_
          show Steps p.tables e below (T.setTop (mkF m 93 #[.val (.long q0), .second, .val (.int p1), .val (.int p2), .val (.long (32640 : Int64)), .second, .val (.long v6), .second, .val (.long v8), .second, .val (.long v10), .second, .val (.int (p2 &&& (3 : Int32))), .unset, .unset, .unset, .unset] [(.int (p1 &&& (3 : Int32))), (.long ((32640 : Int64) - (1 : Int64)))])) _
          refine XS.i2l X.here hx rfl (hb hby at_93) rfl ?_
          show Steps p.tables e below (T.setTop (mkF m 94 #[.val (.long q0), .second, .val (.int p1), .val (.int p2), .val (.long (32640 : Int64)), .second, .val (.long v6), .second, .val (.long v8), .second, .val (.long v10), .second, .val (.int (p2 &&& (3 : Int32))), .unset, .unset, .unset, .unset] [(.long ((p1 &&& (3 : Int32)).toInt64)), (.long ((32640 : Int64) - (1 : Int64)))])) _
          refine XS.lsub X.here hx rfl (hb hby at_94) rfl ?_
          show Steps p.tables e below (T.setTop (mkF m 95 #[.val (.long q0), .second, .val (.int p1), .val (.int p2), .val (.long (32640 : Int64)), .second, .val (.long v6), .second, .val (.long v8), .second, .val (.long v10), .second, .val (.int (p2 &&& (3 : Int32))), .unset, .unset, .unset, .unset] [(.long (((32640 : Int64) - (1 : Int64)) - ((p1 &&& (3 : Int32)).toInt64)))])) _
          refine XS.lstore X.here hx rfl (hb hby at_95) rfl (l' := #[.val (.long q0), .second, .val (.int p1), .val (.int p2), .val (.long (32640 : Int64)), .second, .val (.long v6), .second, .val (.long v8), .second, .val (.long v10), .second, .val (.int (p2 &&& (3 : Int32))), .val (.long (((32640 : Int64) - (1 : Int64)) - ((p1 &&& (3 : Int32)).toInt64))), .second, .unset, .unset]) rfl ?_
          show Steps p.tables e below (T.setTop (mkF m 97 #[.val (.long q0), .second, .val (.int p1), .val (.int p2), .val (.long (32640 : Int64)), .second, .val (.long v6), .second, .val (.long v8), .second, .val (.long v10), .second, .val (.int (p2 &&& (3 : Int32))), .val (.long (((32640 : Int64) - (1 : Int64)) - ((p1 &&& (3 : Int32)).toInt64))), .second, .unset, .unset] [])) _
          refine XS.goto X.here hx rfl (pc0 := 97) (pc' := 110) rfl (hb hby at_97) (by decide) (by decide) ?_
          show Steps p.tables e below (T.setTop (mkF m 110 #[.val (.long q0), .second, .val (.int p1), .val (.int p2), .val (.long (32640 : Int64)), .second, .val (.long v6), .second, .val (.long v8), .second, .val (.long v10), .second, .val (.int (p2 &&& (3 : Int32))), .val (.long (((32640 : Int64) - (1 : Int64)) - ((p1 &&& (3 : Int32)).toInt64))), .second, .unset, .unset] [])) _
          exact k
        exact w_f0_110 X eT N v6 v8 v10 (p2 &&& (3 : Int32)) (((32640 : Int64) - (1 : Int64)) - ((p1 &&& (3 : Int32)).toInt64))
      · rw [if_neg hc83_7]
        refine own_go (T' := T) (g' := (mkF m 100 #[.val (.long q0), .second, .val (.int p1), .val (.int p2), .val (.long (32640 : Int64)), .second, .val (.long v6), .second, .val (.long v8), .second, .val (.long v10), .second, .val (.int (p2 &&& (3 : Int32))), .unset, .unset, .unset, .unset] [])) (fun t k => ?_) ?_
        · refine XS.icmpYes X.here hx rfl (pc0 := 83) (pc' := 100) rfl (hb hby at_83) rfl (feq hc83_7).2 (by decide) (by decide) ?_
          exact k
        refine own_go (T' := T) (g' := (mkF m 110 #[.val (.long q0), .second, .val (.int p1), .val (.int p2), .val (.long (32640 : Int64)), .second, .val (.long v6), .second, .val (.long v8), .second, .val (.long v10), .second, .val (.int (p2 &&& (3 : Int32))), .val (.long (((p1 &&& (2147483647 : Int32)).toInt64) - (((p1 &&& (2147483647 : Int32)).toInt64) / (32640 : Int64)) * (32640 : Int64))), .second, .unset, .unset] [])) (fun t k => ?_) ?_
        · show Steps p.tables e below (T.setTop (mkF m 100 #[.val (.long q0), .second, .val (.int p1), .val (.int p2), .val (.long (32640 : Int64)), .second, .val (.long v6), .second, .val (.long v8), .second, .val (.long v10), .second, .val (.int (p2 &&& (3 : Int32))), .unset, .unset, .unset, .unset] [])) t
          refine XS.iloadN X.here hx rfl (hb hby at_100) rfl ?_
          show Steps p.tables e below (T.setTop (mkF m 101 #[.val (.long q0), .second, .val (.int p1), .val (.int p2), .val (.long (32640 : Int64)), .second, .val (.long v6), .second, .val (.long v8), .second, .val (.long v10), .second, .val (.int (p2 &&& (3 : Int32))), .unset, .unset, .unset, .unset] [(.int p1)])) _
          refine X.ldcInt hx hown (mvT hZ (hw _ (List.mem_of_getElem? (i := 14) rfl))) (g := (mkF m 101 #[.val (.long q0), .second, .val (.int p1), .val (.int p2), .val (.long (32640 : Int64)), .second, .val (.long v6), .second, .val (.long v8), .second, .val (.long v10), .second, .val (.int (p2 &&& (3 : Int32))), .unset, .unset, .unset, .unset] [(.int p1)])) rfl (hb hby at_101) _ ?_
          show Steps p.tables e below (T.setTop (mkF m 103 #[.val (.long q0), .second, .val (.int p1), .val (.int p2), .val (.long (32640 : Int64)), .second, .val (.long v6), .second, .val (.long v8), .second, .val (.long v10), .second, .val (.int (p2 &&& (3 : Int32))), .unset, .unset, .unset, .unset] [(.int (2147483647 : Int32)), (.int p1)])) _
          refine XS.iand X.here hx rfl (hb hby at_103) rfl ?_
          show Steps p.tables e below (T.setTop (mkF m 104 #[.val (.long q0), .second, .val (.int p1), .val (.int p2), .val (.long (32640 : Int64)), .second, .val (.long v6), .second, .val (.long v8), .second, .val (.long v10), .second, .val (.int (p2 &&& (3 : Int32))), .unset, .unset, .unset, .unset] [(.int (p1 &&& (2147483647 : Int32)))])) _
          refine XS.i2l X.here hx rfl (hb hby at_104) rfl ?_
          show Steps p.tables e below (T.setTop (mkF m 105 #[.val (.long q0), .second, .val (.int p1), .val (.int p2), .val (.long (32640 : Int64)), .second, .val (.long v6), .second, .val (.long v8), .second, .val (.long v10), .second, .val (.int (p2 &&& (3 : Int32))), .unset, .unset, .unset, .unset] [(.long ((p1 &&& (2147483647 : Int32)).toInt64))])) _
          refine XS.lload X.here hx rfl (hb hby at_105) rfl ?_
          show Steps p.tables e below (T.setTop (mkF m 107 #[.val (.long q0), .second, .val (.int p1), .val (.int p2), .val (.long (32640 : Int64)), .second, .val (.long v6), .second, .val (.long v8), .second, .val (.long v10), .second, .val (.int (p2 &&& (3 : Int32))), .unset, .unset, .unset, .unset] [(.long (32640 : Int64)), (.long ((p1 &&& (2147483647 : Int32)).toInt64))])) _
          refine XS.lrem X.here hx rfl (hb hby at_107) rfl (by decide) ?_
          show Steps p.tables e below (T.setTop (mkF m 108 #[.val (.long q0), .second, .val (.int p1), .val (.int p2), .val (.long (32640 : Int64)), .second, .val (.long v6), .second, .val (.long v8), .second, .val (.long v10), .second, .val (.int (p2 &&& (3 : Int32))), .unset, .unset, .unset, .unset] [(.long (((p1 &&& (2147483647 : Int32)).toInt64) - (((p1 &&& (2147483647 : Int32)).toInt64) / (32640 : Int64)) * (32640 : Int64)))])) _
          refine XS.lstore X.here hx rfl (hb hby at_108) rfl (l' := #[.val (.long q0), .second, .val (.int p1), .val (.int p2), .val (.long (32640 : Int64)), .second, .val (.long v6), .second, .val (.long v8), .second, .val (.long v10), .second, .val (.int (p2 &&& (3 : Int32))), .val (.long (((p1 &&& (2147483647 : Int32)).toInt64) - (((p1 &&& (2147483647 : Int32)).toInt64) / (32640 : Int64)) * (32640 : Int64))), .second, .unset, .unset]) rfl ?_
          show Steps p.tables e below (T.setTop (mkF m 110 #[.val (.long q0), .second, .val (.int p1), .val (.int p2), .val (.long (32640 : Int64)), .second, .val (.long v6), .second, .val (.long v8), .second, .val (.long v10), .second, .val (.int (p2 &&& (3 : Int32))), .val (.long (((p1 &&& (2147483647 : Int32)).toInt64) - (((p1 &&& (2147483647 : Int32)).toInt64) / (32640 : Int64)) * (32640 : Int64))), .second, .unset, .unset] [])) _
          exact k
        exact w_f0_110 X eT N v6 v8 v10 (p2 &&& (3 : Int32)) (((p1 &&& (2147483647 : Int32)).toInt64) - (((p1 &&& (2147483647 : Int32)).toInt64) / (32640 : Int64)) * (32640 : Int64))
  show own_Ends p e below s n0 _ _ _ _ (own_P (.int (if (p2 &&& (4 : Int32)) = (0 : Int32) then (f0_61 q0 p1 p2 ((9223372036854775805 : Int64) / (32640 : Int64)) (((q0.toUInt64 >>> ((1 : Int32) &&& 0x3f).toInt64.toUInt64).toInt64) - (((q0.toUInt64 >>> ((1 : Int32) &&& 0x3f).toInt64.toUInt64).toInt64) / (((9223372036854775805 : Int64) / (32640 : Int64)) + (1 : Int64))) * (((9223372036854775805 : Int64) / (32640 : Int64)) + (1 : Int64))) ((2 : Int64) + ((((q0.toUInt64 >>> ((1 : Int32) &&& 0x3f).toInt64.toUInt64).toInt64) - (((q0.toUInt64 >>> ((1 : Int32) &&& 0x3f).toInt64.toUInt64).toInt64) / (((9223372036854775805 : Int64) / (32640 : Int64)) + (1 : Int64))) * (((9223372036854775805 : Int64) / (32640 : Int64)) + (1 : Int64))) * (32640 : Int64)))) else (if (f2_0 (f1_0 q0 (1 : Int64))) = (0 : Int32) then (1 : Int32) else (0 : Int32)))) h0)
  refine own_go (T' := s₁) (g' := (mkF m 8 #[.val (.long q0), .second, .val (.int p1), .val (.int p2), .val (.long (32640 : Int64)), .second, .unset, .unset, .unset, .unset, .unset, .unset, .unset, .unset, .unset, .unset, .unset] [(.int (p2 &&& (4 : Int32)))])) (fun t k => ?_) ?_
  · show Steps p.tables e below (s₁.setTop (mkF m 0 #[.val (.long q0), .second, .val (.int p1), .val (.int p2), .unset, .unset, .unset, .unset, .unset, .unset, .unset, .unset, .unset, .unset, .unset, .unset, .unset] [])) t
    refine X0.ldc2Long hx hown (mvT hZ (hw _ (List.mem_of_getElem? (i := 0) rfl))) (g := (mkF m 0 #[.val (.long q0), .second, .val (.int p1), .val (.int p2), .unset, .unset, .unset, .unset, .unset, .unset, .unset, .unset, .unset, .unset, .unset, .unset, .unset] [])) rfl (hb hby at_0) _ ?_
    show Steps p.tables e below (s₁.setTop (mkF m 3 #[.val (.long q0), .second, .val (.int p1), .val (.int p2), .unset, .unset, .unset, .unset, .unset, .unset, .unset, .unset, .unset, .unset, .unset, .unset, .unset] [(.long (32640 : Int64))])) _
    refine XS.lstore X0.here hx rfl (hb hby at_3) rfl (l' := #[.val (.long q0), .second, .val (.int p1), .val (.int p2), .val (.long (32640 : Int64)), .second, .unset, .unset, .unset, .unset, .unset, .unset, .unset, .unset, .unset, .unset, .unset]) rfl ?_
    show Steps p.tables e below (s₁.setTop (mkF m 5 #[.val (.long q0), .second, .val (.int p1), .val (.int p2), .val (.long (32640 : Int64)), .second, .unset, .unset, .unset, .unset, .unset, .unset, .unset, .unset, .unset, .unset, .unset] [])) _
    refine XS.iloadN X0.here hx rfl (hb hby at_5) rfl ?_
    show Steps p.tables e below (s₁.setTop (mkF m 6 #[.val (.long q0), .second, .val (.int p1), .val (.int p2), .val (.long (32640 : Int64)), .second, .unset, .unset, .unset, .unset, .unset, .unset, .unset, .unset, .unset, .unset, .unset] [(.int p2)])) _
    refine XS.iconst X0.here hx rfl (hb hby at_6) ?_
    show Steps p.tables e below (s₁.setTop (mkF m 7 #[.val (.long q0), .second, .val (.int p1), .val (.int p2), .val (.long (32640 : Int64)), .second, .unset, .unset, .unset, .unset, .unset, .unset, .unset, .unset, .unset, .unset, .unset] [(.int (4 : Int32)), (.int p2)])) _
    refine XS.iand X0.here hx rfl (hb hby at_7) rfl ?_
    show Steps p.tables e below (s₁.setTop (mkF m 8 #[.val (.long q0), .second, .val (.int p1), .val (.int p2), .val (.long (32640 : Int64)), .second, .unset, .unset, .unset, .unset, .unset, .unset, .unset, .unset, .unset, .unset, .unset] [(.int (p2 &&& (4 : Int32)))])) _
    exact k
  by_cases hc8_1 : (p2 &&& (4 : Int32)) = (0 : Int32)
  · rw [if_pos hc8_1]
    refine own_go (T' := s₁) (g' := (mkF m 32 #[.val (.long q0), .second, .val (.int p1), .val (.int p2), .val (.long (32640 : Int64)), .second, .unset, .unset, .unset, .unset, .unset, .unset, .unset, .unset, .unset, .unset, .unset] [])) (fun t k => ?_) ?_
    · refine XS.ifYes X0.here hx rfl (pc0 := 8) (pc' := 32) rfl (hb hby at_8) rfl ((if0 _ _).trans (teq hc8_1).1) (by decide) (by decide) ?_
      exact k
    refine own_go (T' := s₁) (g' := (mkF m 61 #[.val (.long q0), .second, .val (.int p1), .val (.int p2), .val (.long (32640 : Int64)), .second, .val (.long ((9223372036854775805 : Int64) / (32640 : Int64))), .second, .val (.long (((q0.toUInt64 >>> ((1 : Int32) &&& 0x3f).toInt64.toUInt64).toInt64) - (((q0.toUInt64 >>> ((1 : Int32) &&& 0x3f).toInt64.toUInt64).toInt64) / (((9223372036854775805 : Int64) / (32640 : Int64)) + (1 : Int64))) * (((9223372036854775805 : Int64) / (32640 : Int64)) + (1 : Int64)))), .second, .val (.long ((2 : Int64) + ((((q0.toUInt64 >>> ((1 : Int32) &&& 0x3f).toInt64.toUInt64).toInt64) - (((q0.toUInt64 >>> ((1 : Int32) &&& 0x3f).toInt64.toUInt64).toInt64) / (((9223372036854775805 : Int64) / (32640 : Int64)) + (1 : Int64))) * (((9223372036854775805 : Int64) / (32640 : Int64)) + (1 : Int64))) * (32640 : Int64)))), .second, .unset, .unset, .unset, .unset, .unset] [])) (fun t k => ?_) ?_
    · show Steps p.tables e below (s₁.setTop (mkF m 32 #[.val (.long q0), .second, .val (.int p1), .val (.int p2), .val (.long (32640 : Int64)), .second, .unset, .unset, .unset, .unset, .unset, .unset, .unset, .unset, .unset, .unset, .unset] [])) t
      refine X0.ldc2Long hx hown (mvT hZ (hw _ (List.mem_of_getElem? (i := 1) rfl))) (g := (mkF m 32 #[.val (.long q0), .second, .val (.int p1), .val (.int p2), .val (.long (32640 : Int64)), .second, .unset, .unset, .unset, .unset, .unset, .unset, .unset, .unset, .unset, .unset, .unset] [])) rfl (hb hby at_32) _ ?_
      show Steps p.tables e below (s₁.setTop (mkF m 35 #[.val (.long q0), .second, .val (.int p1), .val (.int p2), .val (.long (32640 : Int64)), .second, .unset, .unset, .unset, .unset, .unset, .unset, .unset, .unset, .unset, .unset, .unset] [(.long (9223372036854775805 : Int64))])) _
      refine XS.lload X0.here hx rfl (hb hby at_35) rfl ?_
      show Steps p.tables e below (s₁.setTop (mkF m 37 #[.val (.long q0), .second, .val (.int p1), .val (.int p2), .val (.long (32640 : Int64)), .second, .unset, .unset, .unset, .unset, .unset, .unset, .unset, .unset, .unset, .unset, .unset] [(.long (32640 : Int64)), (.long (9223372036854775805 : Int64))])) _
      refine XS.ldiv X0.here hx rfl (hb hby at_37) rfl (by decide) ?_
      show Steps p.tables e below (s₁.setTop (mkF m 38 #[.val (.long q0), .second, .val (.int p1), .val (.int p2), .val (.long (32640 : Int64)), .second, .unset, .unset, .unset, .unset, .unset, .unset, .unset, .unset, .unset, .unset, .unset] [(.long ((9223372036854775805 : Int64) / (32640 : Int64)))])) _
      refine XS.lstore X0.here hx rfl (hb hby at_38) rfl (l' := #[.val (.long q0), .second, .val (.int p1), .val (.int p2), .val (.long (32640 : Int64)), .second, .val (.long ((9223372036854775805 : Int64) / (32640 : Int64))), .second, .unset, .unset, .unset, .unset, .unset, .unset, .unset, .unset, .unset]) rfl ?_
      show Steps p.tables e below (s₁.setTop (mkF m 40 #[.val (.long q0), .second, .val (.int p1), .val (.int p2), .val (.long (32640 : Int64)), .second, .val (.long ((9223372036854775805 : Int64) / (32640 : Int64))), .second, .unset, .unset, .unset, .unset, .unset, .unset, .unset, .unset, .unset] [])) _
      refine XS.lloadN X0.here hx rfl (hb hby at_40) rfl ?_
      show Steps p.tables e below (s₁.setTop (mkF m 41 #[.val (.long q0), .second, .val (.int p1), .val (.int p2), .val (.long (32640 : Int64)), .second, .val (.long ((9223372036854775805 : Int64) / (32640 : Int64))), .second, .unset, .unset, .unset, .unset, .unset, .unset, .unset, .unset, .unset] [(.long q0)])) _
      refine XS.iconst X0.here hx rfl (hb hby at_41) ?_
      show Steps p.tables e below (s₁.setTop (mkF m 42 #[.val (.long q0), .second, .val (.int p1), .val (.int p2), .val (.long (32640 : Int64)), .second, .val (.long ((9223372036854775805 : Int64) / (32640 : Int64))), .second, .unset, .unset, .unset, .unset, .unset, .unset, .unset, .unset, .unset] [(.int (1 : Int32)), (.long q0)])) _
      refine XS.lushr X0.here hx rfl (hb hby at_42) rfl ?_
      show Steps p.tables e below (s₁.setTop (mkF m 43 #[.val (.long q0), .second, .val (.int p1), .val (.int p2), .val (.long (32640 : Int64)), .second, .val (.long ((9223372036854775805 : Int64) / (32640 : Int64))), .second, .unset, .unset, .unset, .unset, .unset, .unset, .unset, .unset, .unset] [(.long ((q0.toUInt64 >>> ((1 : Int32) &&& 0x3f).toInt64.toUInt64).toInt64))])) _
      refine XS.lload X0.here hx rfl (hb hby at_43) rfl ?_
      show Steps p.tables e below (s₁.setTop (mkF m 45 #[.val (.long q0), .second, .val (.int p1), .val (.int p2), .val (.long (32640 : Int64)), .second, .val (.long ((9223372036854775805 : Int64) / (32640 : Int64))), .second, .unset, .unset, .unset, .unset, .unset, .unset, .unset, .unset, .unset] [(.long ((9223372036854775805 : Int64) / (32640 : Int64))), (.long ((q0.toUInt64 >>> ((1 : Int32) &&& 0x3f).toInt64.toUInt64).toInt64))])) _
      refine XS.lconst X0.here hx rfl (hb hby at_45) ?_
      show Steps p.tables e below (s₁.setTop (mkF m 46 #[.val (.long q0), .second, .val (.int p1), .val (.int p2), .val (.long (32640 : Int64)), .second, .val (.long ((9223372036854775805 : Int64) / (32640 : Int64))), .second, .unset, .unset, .unset, .unset, .unset, .unset, .unset, .unset, .unset] [(.long (1 : Int64)), (.long ((9223372036854775805 : Int64) / (32640 : Int64))), (.long ((q0.toUInt64 >>> ((1 : Int32) &&& 0x3f).toInt64.toUInt64).toInt64))])) _
      refine XS.ladd X0.here hx rfl (hb hby at_46) rfl ?_
      show Steps p.tables e below (s₁.setTop (mkF m 47 #[.val (.long q0), .second, .val (.int p1), .val (.int p2), .val (.long (32640 : Int64)), .second, .val (.long ((9223372036854775805 : Int64) / (32640 : Int64))), .second, .unset, .unset, .unset, .unset, .unset, .unset, .unset, .unset, .unset] [(.long (((9223372036854775805 : Int64) / (32640 : Int64)) + (1 : Int64))), (.long ((q0.toUInt64 >>> ((1 : Int32) &&& 0x3f).toInt64.toUInt64).toInt64))])) _
      refine XS.lrem X0.here hx rfl (hb hby at_47) rfl (by decide) ?_
      show Steps p.tables e below (s₁.setTop (mkF m 48 #[.val (.long q0), .second, .val (.int p1), .val (.int p2), .val (.long (32640 : Int64)), .second, .val (.long ((9223372036854775805 : Int64) / (32640 : Int64))), .second, .unset, .unset, .unset, .unset, .unset, .unset, .unset, .unset, .unset] [(.long (((q0.toUInt64 >>> ((1 : Int32) &&& 0x3f).toInt64.toUInt64).toInt64) - (((q0.toUInt64 >>> ((1 : Int32) &&& 0x3f).toInt64.toUInt64).toInt64) / (((9223372036854775805 : Int64) / (32640 : Int64)) + (1 : Int64))) * (((9223372036854775805 : Int64) / (32640 : Int64)) + (1 : Int64))))])) _
      refine XS.lstore X0.here hx rfl (hb hby at_48) rfl (l' := #[.val (.long q0), .second, .val (.int p1), .val (.int p2), .val (.long (32640 : Int64)), .second, .val (.long ((9223372036854775805 : Int64) / (32640 : Int64))), .second, .val (.long (((q0.toUInt64 >>> ((1 : Int32) &&& 0x3f).toInt64.toUInt64).toInt64) - (((q0.toUInt64 >>> ((1 : Int32) &&& 0x3f).toInt64.toUInt64).toInt64) / (((9223372036854775805 : Int64) / (32640 : Int64)) + (1 : Int64))) * (((9223372036854775805 : Int64) / (32640 : Int64)) + (1 : Int64)))), .second, .unset, .unset, .unset, .unset, .unset, .unset, .unset]) rfl ?_
      show Steps p.tables e below (s₁.setTop (mkF m 50 #[.val (.long q0), .second, .val (.int p1), .val (.int p2), .val (.long (32640 : Int64)), .second, .val (.long ((9223372036854775805 : Int64) / (32640 : Int64))), .second, .val (.long (((q0.toUInt64 >>> ((1 : Int32) &&& 0x3f).toInt64.toUInt64).toInt64) - (((q0.toUInt64 >>> ((1 : Int32) &&& 0x3f).toInt64.toUInt64).toInt64) / (((9223372036854775805 : Int64) / (32640 : Int64)) + (1 : Int64))) * (((9223372036854775805 : Int64) / (32640 : Int64)) + (1 : Int64)))), .second, .unset, .unset, .unset, .unset, .unset, .unset, .unset] [])) _
      refine X0.ldc2Long hx hown (mvT hZ (hw _ (List.mem_of_getElem? (i := 2) rfl))) (g := (mkF m 50 #[.val (.long q0), .second, .val (.int p1), .val (.int p2), .val (.long (32640 : Int64)), .second, .val (.long ((9223372036854775805 : Int64) / (32640 : Int64))), .second, .val (.long (((q0.toUInt64 >>> ((1 : Int32) &&& 0x3f).toInt64.toUInt64).toInt64) - (((q0.toUInt64 >>> ((1 : Int32) &&& 0x3f).toInt64.toUInt64).toInt64) / (((9223372036854775805 : Int64) / (32640 : Int64)) + (1 : Int64))) * (((9223372036854775805 : Int64) / (32640 : Int64)) + (1 : Int64)))), .second, .unset, .unset, .unset, .unset, .unset, .unset, .unset] [])) rfl (hb hby at_50) _ ?_
      show Steps p.tables e below (s₁.setTop (mkF m 53 #[.val (.long q0), .second, .val (.int p1), .val (.int p2), .val (.long (32640 : Int64)), .second, .val (.long ((9223372036854775805 : Int64) / (32640 : Int64))), .second, .val (.long (((q0.toUInt64 >>> ((1 : Int32) &&& 0x3f).toInt64.toUInt64).toInt64) - (((q0.toUInt64 >>> ((1 : Int32) &&& 0x3f).toInt64.toUInt64).toInt64) / (((9223372036854775805 : Int64) / (32640 : Int64)) + (1 : Int64))) * (((9223372036854775805 : Int64) / (32640 : Int64)) + (1 : Int64)))), .second, .unset, .unset, .unset, .unset, .unset, .unset, .unset] [(.long (2 : Int64))])) _
      refine XS.lload X0.here hx rfl (hb hby at_53) rfl ?_
      show Steps p.tables e below (s₁.setTop (mkF m 55 #[.val (.long q0), .second, .val (.int p1), .val (.int p2), .val (.long (32640 : Int64)), .second, .val (.long ((9223372036854775805 : Int64) / (32640 : Int64))), .second, .val (.long (((q0.toUInt64 >>> ((1 : Int32) &&& 0x3f).toInt64.toUInt64).toInt64) - (((q0.toUInt64 >>> ((1 : Int32) &&& 0x3f).toInt64.toUInt64).toInt64) / (((9223372036854775805 : Int64) / (32640 : Int64)) + (1 : Int64))) * (((9223372036854775805 : Int64) / (32640 : Int64)) + (1 : Int64)))), .second, .unset, .unset, .unset, .unset, .unset, .unset, .unset] [(.long (((q0.toUInt64 >>> ((1 : Int32) &&& 0x3f).toInt64.toUInt64).toInt64) - (((q0.toUInt64 >>> ((1 : Int32) &&& 0x3f).toInt64.toUInt64).toInt64) / (((9223372036854775805 : Int64) / (32640 : Int64)) + (1 : Int64))) * (((9223372036854775805 : Int64) / (32640 : Int64)) + (1 : Int64)))), (.long (2 : Int64))])) _
      refine XS.lload X0.here hx rfl (hb hby at_55) rfl ?_
      show Steps p.tables e below (s₁.setTop (mkF m 57 #[.val (.long q0), .second, .val (.int p1), .val (.int p2), .val (.long (32640 : Int64)), .second, .val (.long ((9223372036854775805 : Int64) / (32640 : Int64))), .second, .val (.long (((q0.toUInt64 >>> ((1 : Int32) &&& 0x3f).toInt64.toUInt64).toInt64) - (((q0.toUInt64 >>> ((1 : Int32) &&& 0x3f).toInt64.toUInt64).toInt64) / (((9223372036854775805 : Int64) / (32640 : Int64)) + (1 : Int64))) * (((9223372036854775805 : Int64) / (32640 : Int64)) + (1 : Int64)))), .second, .unset, .unset, .unset, .unset, .unset, .unset, .unset] [(.long (32640 : Int64)), (.long (((q0.toUInt64 >>> ((1 : Int32) &&& 0x3f).toInt64.toUInt64).toInt64) - (((q0.toUInt64 >>> ((1 : Int32) &&& 0x3f).toInt64.toUInt64).toInt64) / (((9223372036854775805 : Int64) / (32640 : Int64)) + (1 : Int64))) * (((9223372036854775805 : Int64) / (32640 : Int64)) + (1 : Int64)))), (.long (2 : Int64))])) _
      refine XS.lmul X0.here hx rfl (hb hby at_57) rfl ?_
      show Steps p.tables e below (s₁.setTop (mkF m 58 #[.val (.long q0), .second, .val (.int p1), .val (.int p2), .val (.long (32640 : Int64)), .second, .val (.long ((9223372036854775805 : Int64) / (32640 : Int64))), .second, .val (.long (((q0.toUInt64 >>> ((1 : Int32) &&& 0x3f).toInt64.toUInt64).toInt64) - (((q0.toUInt64 >>> ((1 : Int32) &&& 0x3f).toInt64.toUInt64).toInt64) / (((9223372036854775805 : Int64) / (32640 : Int64)) + (1 : Int64))) * (((9223372036854775805 : Int64) / (32640 : Int64)) + (1 : Int64)))), .second, .unset, .unset, .unset, .unset, .unset, .unset, .unset] [(.long ((((q0.toUInt64 >>> ((1 : Int32) &&& 0x3f).toInt64.toUInt64).toInt64) - (((q0.toUInt64 >>> ((1 : Int32) &&& 0x3f).toInt64.toUInt64).toInt64) / (((9223372036854775805 : Int64) / (32640 : Int64)) + (1 : Int64))) * (((9223372036854775805 : Int64) / (32640 : Int64)) + (1 : Int64))) * (32640 : Int64))), (.long (2 : Int64))])) _
      refine XS.ladd X0.here hx rfl (hb hby at_58) rfl ?_
      show Steps p.tables e below (s₁.setTop (mkF m 59 #[.val (.long q0), .second, .val (.int p1), .val (.int p2), .val (.long (32640 : Int64)), .second, .val (.long ((9223372036854775805 : Int64) / (32640 : Int64))), .second, .val (.long (((q0.toUInt64 >>> ((1 : Int32) &&& 0x3f).toInt64.toUInt64).toInt64) - (((q0.toUInt64 >>> ((1 : Int32) &&& 0x3f).toInt64.toUInt64).toInt64) / (((9223372036854775805 : Int64) / (32640 : Int64)) + (1 : Int64))) * (((9223372036854775805 : Int64) / (32640 : Int64)) + (1 : Int64)))), .second, .unset, .unset, .unset, .unset, .unset, .unset, .unset] [(.long ((2 : Int64) + ((((q0.toUInt64 >>> ((1 : Int32) &&& 0x3f).toInt64.toUInt64).toInt64) - (((q0.toUInt64 >>> ((1 : Int32) &&& 0x3f).toInt64.toUInt64).toInt64) / (((9223372036854775805 : Int64) / (32640 : Int64)) + (1 : Int64))) * (((9223372036854775805 : Int64) / (32640 : Int64)) + (1 : Int64))) * (32640 : Int64))))])) _
      refine XS.lstore X0.here hx rfl (hb hby at_59) rfl (l' := #[.val (.long q0), .second, .val (.int p1), .val (.int p2), .val (.long (32640 : Int64)), .second, .val (.long ((9223372036854775805 : Int64) / (32640 : Int64))), .second, .val (.long (((q0.toUInt64 >>> ((1 : Int32) &&& 0x3f).toInt64.toUInt64).toInt64) - (((q0.toUInt64 >>> ((1 : Int32) &&& 0x3f).toInt64.toUInt64).toInt64) / (((9223372036854775805 : Int64) / (32640 : Int64)) + (1 : Int64))) * (((9223372036854775805 : Int64) / (32640 : Int64)) + (1 : Int64)))), .second, .val (.long ((2 : Int64) + ((((q0.toUInt64 >>> ((1 : Int32) &&& 0x3f).toInt64.toUInt64).toInt64) - (((q0.toUInt64 >>> ((1 : Int32) &&& 0x3f).toInt64.toUInt64).toInt64) / (((9223372036854775805 : Int64) / (32640 : Int64)) + (1 : Int64))) * (((9223372036854775805 : Int64) / (32640 : Int64)) + (1 : Int64))) * (32640 : Int64)))), .second, .unset, .unset, .unset, .unset, .unset]) rfl ?_
      show Steps p.tables e below (s₁.setTop (mkF m 61 #[.val (.long q0), .second, .val (.int p1), .val (.int p2), .val (.long (32640 : Int64)), .second, .val (.long ((9223372036854775805 : Int64) / (32640 : Int64))), .second, .val (.long (((q0.toUInt64 >>> ((1 : Int32) &&& 0x3f).toInt64.toUInt64).toInt64) - (((q0.toUInt64 >>> ((1 : Int32) &&& 0x3f).toInt64.toUInt64).toInt64) / (((9223372036854775805 : Int64) / (32640 : Int64)) + (1 : Int64))) * (((9223372036854775805 : Int64) / (32640 : Int64)) + (1 : Int64)))), .second, .val (.long ((2 : Int64) + ((((q0.toUInt64 >>> ((1 : Int32) &&& 0x3f).toInt64.toUInt64).toInt64) - (((q0.toUInt64 >>> ((1 : Int32) &&& 0x3f).toInt64.toUInt64).toInt64) / (((9223372036854775805 : Int64) / (32640 : Int64)) + (1 : Int64))) * (((9223372036854775805 : Int64) / (32640 : Int64)) + (1 : Int64))) * (32640 : Int64)))), .second, .unset, .unset, .unset, .unset, .unset] [])) _
      exact k
    exact w_f0_61 X0 e0 N0 ((9223372036854775805 : Int64) / (32640 : Int64)) (((q0.toUInt64 >>> ((1 : Int32) &&& 0x3f).toInt64.toUInt64).toInt64) - (((q0.toUInt64 >>> ((1 : Int32) &&& 0x3f).toInt64.toUInt64).toInt64) / (((9223372036854775805 : Int64) / (32640 : Int64)) + (1 : Int64))) * (((9223372036854775805 : Int64) / (32640 : Int64)) + (1 : Int64))) ((2 : Int64) + ((((q0.toUInt64 >>> ((1 : Int32) &&& 0x3f).toInt64.toUInt64).toInt64) - (((q0.toUInt64 >>> ((1 : Int32) &&& 0x3f).toInt64.toUInt64).toInt64) / (((9223372036854775805 : Int64) / (32640 : Int64)) + (1 : Int64))) * (((9223372036854775805 : Int64) / (32640 : Int64)) + (1 : Int64))) * (32640 : Int64)))
  · rw [if_neg hc8_1]
    refine own_go (T' := s₁) (g' := (mkF m 11 #[.val (.long q0), .second, .val (.int p1), .val (.int p2), .val (.long (32640 : Int64)), .second, .unset, .unset, .unset, .unset, .unset, .unset, .unset, .unset, .unset, .unset, .unset] [])) (fun t k => ?_) ?_
    · refine XS.ifNo X0.here hx rfl (hb hby at_8) rfl ((if0 _ _).trans (feq hc8_1).1) ?_
      exact k
    refine own_go (T' := s₁) (g' := (mkF m 13 #[.val (.long q0), .second, .val (.int p1), .val (.int p2), .val (.long (32640 : Int64)), .second, .unset, .unset, .unset, .unset, .unset, .unset, .unset, .unset, .unset, .unset, .unset] [(.long (1 : Int64)), (.long q0)])) (fun t k => ?_) ?_
    · show Steps p.tables e below (s₁.setTop (mkF m 11 #[.val (.long q0), .second, .val (.int p1), .val (.int p2), .val (.long (32640 : Int64)), .second, .unset, .unset, .unset, .unset, .unset, .unset, .unset, .unset, .unset, .unset, .unset] [])) t
      refine XS.lloadN X0.here hx rfl (hb hby at_11) rfl ?_
      show Steps p.tables e below (s₁.setTop (mkF m 12 #[.val (.long q0), .second, .val (.int p1), .val (.int p2), .val (.long (32640 : Int64)), .second, .unset, .unset, .unset, .unset, .unset, .unset, .unset, .unset, .unset, .unset, .unset] [(.long q0)])) _
      refine XS.lconst X0.here hx rfl (hb hby at_12) ?_
      show Steps p.tables e below (s₁.setTop (mkF m 13 #[.val (.long q0), .second, .val (.int p1), .val (.int p2), .val (.long (32640 : Int64)), .second, .unset, .unset, .unset, .unset, .unset, .unset, .unset, .unset, .unset, .unset, .unset] [(.long (1 : Int64)), (.long q0)])) _
      exact k
    obtain ⟨_, T8, L8, X8, N8, ⟨rfl, e8⟩, st8⟩ := own_callS X0 hx hZ hown (hw _ (List.mem_of_getElem? (i := 4) rfl)) (hw _ (List.mem_of_getElem? (i := 5) rfl)) (hw _ (List.mem_of_getElem? (i := 6) rfl)) (hw _ (List.mem_of_getElem? (i := 7) rfl)) (by decide) (argsL := [(.long q0), (.long (1 : Int64))]) (rest := []) (rm1 l Z a0 hw q0 (1 : Int64) h0 n0) (W := 0) (by decide) (by decide) (g := (mkF m 13 #[.val (.long q0), .second, .val (.int p1), .val (.int p2), .val (.long (32640 : Int64)), .second, .unset, .unset, .unset, .unset, .unset, .unset, .unset, .unset, .unset, .unset, .unset] [(.long (1 : Int64)), (.long q0)])) rfl (by rw [hml]; rfl) pd_0 rfl rfl (by show 2 * 0 + _ ≤ _; exact Nat.le_of_eq rfl) (hb hby at_13) e0 (by decide) (by decide) N0
    refine own_go (T' := T8) (g' := (mkF m 16 #[.val (.long q0), .second, .val (.int p1), .val (.int p2), .val (.long (32640 : Int64)), .second, .unset, .unset, .unset, .unset, .unset, .unset, .unset, .unset, .unset, .unset, .unset] [(.long (f1_0 q0 (1 : Int64)))])) st8 ?_
    refine own_go (T' := T8) (g' := (mkF m 20 #[.val (.long q0), .second, .val (.int p1), .val (.int p2), .val (.long (32640 : Int64)), .second, .val (.long (f1_0 q0 (1 : Int64))), .second, .unset, .unset, .unset, .unset, .unset, .unset, .unset, .unset, .unset] [(.long (f1_0 q0 (1 : Int64)))])) (fun t k => ?_) ?_
    · show Steps p.tables e below (T8.setTop (mkF m 16 #[.val (.long q0), .second, .val (.int p1), .val (.int p2), .val (.long (32640 : Int64)), .second, .unset, .unset, .unset, .unset, .unset, .unset, .unset, .unset, .unset, .unset, .unset] [(.long (f1_0 q0 (1 : Int64)))])) t
      refine XS.lstore X8.here hx rfl (hb hby at_16) rfl (l' := #[.val (.long q0), .second, .val (.int p1), .val (.int p2), .val (.long (32640 : Int64)), .second, .val (.long (f1_0 q0 (1 : Int64))), .second, .unset, .unset, .unset, .unset, .unset, .unset, .unset, .unset, .unset]) rfl ?_
      show Steps p.tables e below (T8.setTop (mkF m 18 #[.val (.long q0), .second, .val (.int p1), .val (.int p2), .val (.long (32640 : Int64)), .second, .val (.long (f1_0 q0 (1 : Int64))), .second, .unset, .unset, .unset, .unset, .unset, .unset, .unset, .unset, .unset] [])) _
      refine XS.lload X8.here hx rfl (hb hby at_18) rfl ?_
      show Steps p.tables e below (T8.setTop (mkF m 20 #[.val (.long q0), .second, .val (.int p1), .val (.int p2), .val (.long (32640 : Int64)), .second, .val (.long (f1_0 q0 (1 : Int64))), .second, .unset, .unset, .unset, .unset, .unset, .unset, .unset, .unset, .unset] [(.long (f1_0 q0 (1 : Int64)))])) _
      exact k
    obtain ⟨_, T9, L9, X9, N9, ⟨rfl, e9⟩, st9⟩ := own_callS X8 hx hZ hown (hw _ (List.mem_of_getElem? (i := 8) rfl)) (hw _ (List.mem_of_getElem? (i := 9) rfl)) (hw _ (List.mem_of_getElem? (i := 10) rfl)) (hw _ (List.mem_of_getElem? (i := 11) rfl)) (by decide) (argsL := [(.long (f1_0 q0 (1 : Int64)))]) (rest := []) (rm2 l Z a0 hw (f1_0 q0 (1 : Int64)) h0 n0) (W := 0) (by decide) (by decide) (g := (mkF m 20 #[.val (.long q0), .second, .val (.int p1), .val (.int p2), .val (.long (32640 : Int64)), .second, .val (.long (f1_0 q0 (1 : Int64))), .second, .unset, .unset, .unset, .unset, .unset, .unset, .unset, .unset, .unset] [(.long (f1_0 q0 (1 : Int64)))])) rfl (by rw [hml]; rfl) pd_1 rfl rfl (by show 2 * 0 + _ ≤ _; exact Nat.le_of_eq rfl) (hb hby at_20) e8 (by decide) (by decide) N8
    refine own_go (T' := T9) (g' := (mkF m 23 #[.val (.long q0), .second, .val (.int p1), .val (.int p2), .val (.long (32640 : Int64)), .second, .val (.long (f1_0 q0 (1 : Int64))), .second, .unset, .unset, .unset, .unset, .unset, .unset, .unset, .unset, .unset] [(.int (f2_0 (f1_0 q0 (1 : Int64))))])) st9 ?_
    by_cases hc23_10 : (f2_0 (f1_0 q0 (1 : Int64))) = (0 : Int32)
    · rw [if_pos hc23_10]
      refine own_go (T' := T9) (g' := (mkF m 26 #[.val (.long q0), .second, .val (.int p1), .val (.int p2), .val (.long (32640 : Int64)), .second, .val (.long (f1_0 q0 (1 : Int64))), .second, .unset, .unset, .unset, .unset, .unset, .unset, .unset, .unset, .unset] [])) (fun t k => ?_) ?_
      · refine XS.ifNo X9.here hx rfl (hb hby at_23) rfl ((if0 _ _).trans (teq hc23_10).2) ?_
        exact k
      refine own_go (T' := T9) (g' := (mkF m 31 #[.val (.long q0), .second, .val (.int p1), .val (.int p2), .val (.long (32640 : Int64)), .second, .val (.long (f1_0 q0 (1 : Int64))), .second, .unset, .unset, .unset, .unset, .unset, .unset, .unset, .unset, .unset] [(.int (1 : Int32))])) (fun t k => ?_) ?_
      · show Steps p.tables e below (T9.setTop (mkF m 26 #[.val (.long q0), .second, .val (.int p1), .val (.int p2), .val (.long (32640 : Int64)), .second, .val (.long (f1_0 q0 (1 : Int64))), .second, .unset, .unset, .unset, .unset, .unset, .unset, .unset, .unset, .unset] [])) t
        refine XS.iconst X9.here hx rfl (hb hby at_26) ?_
        show Steps p.tables e below (T9.setTop (mkF m 27 #[.val (.long q0), .second, .val (.int p1), .val (.int p2), .val (.long (32640 : Int64)), .second, .val (.long (f1_0 q0 (1 : Int64))), .second, .unset, .unset, .unset, .unset, .unset, .unset, .unset, .unset, .unset] [(.int (1 : Int32))])) _
        refine XS.goto X9.here hx rfl (pc0 := 27) (pc' := 31) rfl (hb hby at_27) (by decide) (by decide) ?_
        show Steps p.tables e below (T9.setTop (mkF m 31 #[.val (.long q0), .second, .val (.int p1), .val (.int p2), .val (.long (32640 : Int64)), .second, .val (.long (f1_0 q0 (1 : Int64))), .second, .unset, .unset, .unset, .unset, .unset, .unset, .unset, .unset, .unset] [(.int (1 : Int32))])) _
        exact k
      exact own_retN X9 hx hlk hret (by simp) (hb hby at_31) (by decide) (by decide) N9 ⟨rfl, e9⟩
    · rw [if_neg hc23_10]
      refine own_go (T' := T9) (g' := (mkF m 30 #[.val (.long q0), .second, .val (.int p1), .val (.int p2), .val (.long (32640 : Int64)), .second, .val (.long (f1_0 q0 (1 : Int64))), .second, .unset, .unset, .unset, .unset, .unset, .unset, .unset, .unset, .unset] [])) (fun t k => ?_) ?_
      · refine XS.ifYes X9.here hx rfl (pc0 := 23) (pc' := 30) rfl (hb hby at_23) rfl ((if0 _ _).trans (feq hc23_10).2) (by decide) (by decide) ?_
        exact k
      refine own_go (T' := T9) (g' := (mkF m 31 #[.val (.long q0), .second, .val (.int p1), .val (.int p2), .val (.long (32640 : Int64)), .second, .val (.long (f1_0 q0 (1 : Int64))), .second, .unset, .unset, .unset, .unset, .unset, .unset, .unset, .unset, .unset] [(.int (0 : Int32))])) (fun t k => ?_) ?_
      · show Steps p.tables e below (T9.setTop (mkF m 30 #[.val (.long q0), .second, .val (.int p1), .val (.int p2), .val (.long (32640 : Int64)), .second, .val (.long (f1_0 q0 (1 : Int64))), .second, .unset, .unset, .unset, .unset, .unset, .unset, .unset, .unset, .unset] [])) t
        refine XS.iconst X9.here hx rfl (hb hby at_30) ?_
        show Steps p.tables e below (T9.setTop (mkF m 31 #[.val (.long q0), .second, .val (.int p1), .val (.int p2), .val (.long (32640 : Int64)), .second, .val (.long (f1_0 q0 (1 : Int64))), .second, .unset, .unset, .unset, .unset, .unset, .unset, .unset, .unset, .unset] [(.int (0 : Int32))])) _
        exact k
      exact own_retN X9 hx hlk hret (by simp) (hb hby at_31) (by decide) (by decide) N9 ⟨rfl, e9⟩
theorem own_max : (9223372036854775807 : Int64).toInt = 9223372036854775807 := by decide
theorem own_min (a b : Int64) : (f1_0 a b).toInt ≤ a.toInt ∧ (f1_0 a b).toInt ≤ b.toInt ∧ ((f1_0 a b).toInt = a.toInt ∨ (f1_0 a b).toInt = b.toInt) := by
  unfold f1_0
  by_cases h : b < a
  · have h' := Int64.lt_iff_toInt_lt.mp h
    rw [if_pos h]; omega
  · have h' := mt Int64.lt_iff_toInt_lt.mpr h
    rw [if_neg h]; omega
theorem own_map (q : Int64) (k i : Int) (hk : 0 ≤ k) (hi : 0 ≤ i) (hi2 : i < 32640) (hq : q.toInt = 2 + 32640 * k + i) : f2_0 q = if i < 2 then 1 else 0 := by
  have s := c_lsub q 2
  have r := rng64 (q - 2)
  have rq := rng64 q
  rw [show (2 : Int64).toInt = 2 from rfl] at s
  have e0 : (q - 2).toInt = 32640 * k + i := by
    have e1 : (q - 2).toInt = q.toInt - 2 := by omega
    omega
  have m := (c_lrem (q - 2) 32640 32640 (by decide)).1 (by omega)
  have e : ((q - (2 : Int64)) - ((q - (2 : Int64)) / (32640 : Int64)) * (32640 : Int64)).toInt = i := by rw [m, e0]; omega
  clear m s r rq
  unfold f2_0
  have g : ¬ q < (2 : Int64) := mt Int64.lt_iff_toInt_lt.mp (by rw [show (2 : Int64).toInt = 2 from rfl]; omega)
  rw [if_neg g]
  by_cases h : i < 2
  · rw [if_pos h, if_pos (Int64.lt_iff_toInt_lt.mpr (by rw [e]; exact h))]
  · rw [if_neg h, if_neg (mt Int64.lt_iff_toInt_lt.mp (by rw [e]; exact h))]
theorem own_110 (q0 : Int64) (p1 p2 : Int32) (v6 v8 v10 : Int64) (v12 : Int32) (v13 : Int64) (k : Int) (hk : 0 ≤ k) (h10 : v10.toInt = 2 + 32640 * k) (h13 : 0 ≤ v13.toInt) (h13' : v13.toInt < 32640) : f0_110 q0 p1 p2 v6 v8 v10 v12 v13 = 1 := by
  have r10 := rng64 v10
  have s := c_lsub 9223372036854775807 v10
  have r := rng64 ((9223372036854775807 : Int64) - v10)
  rw [own_max] at s
  obtain ⟨m1, m2, m3⟩ := own_min v13 ((9223372036854775807 : Int64) - v10)
  unfold f0_110 f0_149
  generalize f1_0 v13 ((9223372036854775807 : Int64) - v10) = i at *
  have a := c_ladd v10 i
  have ra := rng64 (v10 + i)
  have s' : ((9223372036854775807 : Int64) - v10).toInt = 9223372036854775807 - v10.toInt := by omega
  have a' : (v10 + i).toInt = v10.toInt + i.toInt := by omega
  have e := own_map (v10 + i) k i.toInt hk (by omega) (by omega) (by omega)
  rw [e]
  by_cases h : i < (2 : Int64)
  · have h' : i.toInt < 2 := Int64.lt_iff_toInt_lt.mp h
    rw [if_pos h, if_pos h', if_pos rfl]
  · have h' : ¬ i.toInt < 2 := fun q => h (Int64.lt_iff_toInt_lt.mpr q)
    rw [if_neg h, if_neg h', if_pos rfl]
theorem own_61 (q0 : Int64) (p1 p2 : Int32) (v6 v8 v10 : Int64) (k : Int) (hk : 0 ≤ k) (h10 : v10.toInt = 2 + 32640 * k) : f0_61 q0 p1 p2 v6 v8 v10 = 1 := by
  unfold f0_61
  have m3 := c_mask p1 3 2 (by decide) (by decide)
  have i3 := c_i2l (p1 &&& (3 : Int32))
  simp only [Nat.reducePow, Int.cast_ofNat_Int] at m3
  by_cases c1 : (p2 &&& (3 : Int32)) = (0 : Int32)
  · rw [if_pos c1]
    exact own_110 _ _ _ _ _ _ _ _ k hk h10 (by omega) (by omega)
  · rw [if_neg c1]
    by_cases c2 : (p2 &&& (3 : Int32)) = (1 : Int32)
    · rw [if_pos c2]
      have s := c_lsub ((32640 : Int64) - (1 : Int64)) ((p1 &&& (3 : Int32)).toInt64)
      have r := rng64 (((32640 : Int64) - (1 : Int64)) - ((p1 &&& (3 : Int32)).toInt64))
      rw [show ((32640 : Int64) - (1 : Int64)).toInt = 32639 from by decide] at s
      exact own_110 _ _ _ _ _ _ _ _ k hk h10 (by omega) (by omega)
    · rw [if_neg c2]
      have m := c_mask p1 2147483647 31 (by decide) (by decide)
      have i := c_i2l (p1 &&& (2147483647 : Int32))
      simp only [Nat.reducePow, Int.cast_ofNat_Int] at m
      have e := (c_lrem ((p1 &&& (2147483647 : Int32)).toInt64) 32640 32640 (by decide)).1 (by omega)
      exact own_110 _ _ _ _ _ _ _ _ k hk h10 (by rw [e]; omega) (by rw [e]; omega)
theorem own_law (q0 : Int64) (p1 p2 : Int32) : f0_0 q0 p1 p2 = 1 := by
  unfold f0_0
  by_cases c : (p2 &&& (4 : Int32)) = (0 : Int32)
  · rw [if_pos c]
    have h := c_lushr q0 1 1 (by decide) (by decide)
    have rq := rng64 q0
    simp only [Nat.reducePow, Int.cast_ofNat_Int] at h
    generalize ((q0.toUInt64 >>> ((1 : Int32) &&& 0x3f).toInt64.toUInt64).toInt64) = y at *
    rw [show ((9223372036854775805 : Int64) / (32640 : Int64)) + (1 : Int64) = 282578800148738 from by decide]
    have e := (c_lrem y 282578800148738 282578800148738 (by decide)).1 (by omega)
    generalize y - (y / (282578800148738 : Int64)) * (282578800148738 : Int64) = z at *
    have m := c_lmul z 32640
    have rm_ := rng64 (z * 32640)
    rw [show (32640 : Int64).toInt = 32640 from by decide] at m
    have a := c_ladd 2 (z * 32640)
    have ra := rng64 ((2 : Int64) + z * 32640)
    rw [show (2 : Int64).toInt = 2 from rfl] at a
    exact own_61 _ _ _ _ _ _ z.toInt (by omega) (by omega)
  · rw [if_neg c]
    obtain ⟨m1, m2, m3⟩ := own_min q0 1
    rw [show (1 : Int64).toInt = 1 from rfl] at m2
    have g : f2_0 (f1_0 q0 1) = 0 := by
      unfold f2_0
      rw [if_pos (Int64.lt_iff_toInt_lt.mpr (by rw [show (2 : Int64).toInt = 2 from rfl]; omega))]
    rw [if_pos g]

set_option maxRecDepth 65536 in
set_option maxHeartbeats 40000000 in
theorem comes_1 {Post : Tables → Env → Array Value → State → Outcome → State → Prop} (hpost : ∀ tb e args s v u, (limb_1_1.after args s (.returned v) u = true ∧ limb_1_2.after args s (.returned v) u = true ∧ True) → FrameEnd s (.returned v) u (Jvm.fieldLocs frame_1_writes args s ++ Jvm.arrayLocs frame_1_arrays args s ++ Jvm.staticLocs frame_1_statics s) 0 0 → Post tb e args s (.returned v) u) :
    ArmFor flags0 classFile x code maxLocals ret World_1 tables_1 room_1 Calls_1 rest_1 Pre_1 Post := by
  intro l hfl _ _ p e ha hc hk s m args below hf hA hF happ hP
  obtain ⟨hcalls, hrest, hpre⟩ := hP
  obtain ⟨-, -, -, hnamed, -, -, -, hat⟩ := (Spec.applies_iff hf).mp happ
  obtain ⟨hg, hn⟩ := and_e (Cond.before_iff.mp (show (Jvm.Cond.and given_1 narrow_1).before args s = true from hpre))
  obtain ⟨h1, g0⟩ := and_e hg
  obtain ⟨k0, g1⟩ := and_e g0
  obtain ⟨k1, g2⟩ := and_e g1
  have k2 := g2
  obtain ⟨w0, w1, w2, rfl⟩ : ∃ w0 w1 w2 : Value, args = #[w0, w1, w2] := by
    have hs : args.size = 3 := by simpa [Cond.value, given_1] using h1
    obtain ⟨L⟩ := args
    match L, hs with
    | [w0, w1, w2], _ => exact ⟨w0, w1, w2, rfl⟩
  have hw := fun d (hd : d ∈ tables_1) => atoms_spec (ws := Jvm.Cond.code x code maxLocals ret :: tables_1) hat d (List.mem_cons_of_mem _ hd)
  obtain ⟨i0, e0⟩ := isL_v k0
  obtain rfl : w0 = (.long i0) := Option.some.inj e0
  obtain ⟨i1, e1⟩ := is_v k1
  obtain rfl : w1 = (.int i1) := Option.some.inj e1
  obtain ⟨i2, e2⟩ := is_v k2
  obtain rfl : w2 = (.int i2) := Option.some.inj e2
  obtain ⟨n, o, h1, h2, h3, v, L, rfl, ⟨N, hv⟩, hq⟩ := rm0 l s _ hw i0 i1 i2 s.heap s.heap.size p e ha hc hk s m _ below hf ((Spec.applies_iff_loose hf).mp happ).1 ⟨rfl, State.Warmed39.refl s, rfl⟩ trivial
  obtain rfl : v = some (.int 1) := hv.1.trans (by rw [own_law])
  refine ⟨n, _, h1, h2, h3, hpost _ _ _ _ _ _ ⟨Cond.after_iff.mpr rfl, Cond.after_iff.mpr (eq_i res_at (Term.int_eval (1)) rfl), trivial⟩ ⟨hq.1, hq.2.1, (hq.2.2.sift fun y hy => Or.inr (N y hy)).mono (by decide) (by decide)⟩⟩
theorem main_1_1 : Claimed_1_1 := comes_1 fun _ _ _ _ _ _ h hF => ⟨h.1, hF⟩
theorem main_1_2 : Claimed_1_2 := comes_1 fun _ _ _ _ _ _ h hF => ⟨h.2.1, hF⟩
end Jvm.Pilot.@@N@@
namespace Jvm.Pilot.@@N@@
open Jvm Jvm.ClassFile Sem Op Lib Jvm.Free Jvm.Stand Jvm.Pilot.@@N@@.Jvm.D
/-! MADE BY PROGRAM (witnessworld.py) out of the Statement's table words and the real class files: 10 classes; the members and pool entries that the words name. The judged class is class 1, her method 1. -/
namespace start1
open Jvm.ClassFile
def u (s : String) : CpInfo := .utf8 (stringToUtf16 s)
/-- a pool by its gaps: so many unusable entries, then the entry; so many at the end -/
def gap : Nat → List CpInfo → List CpInfo
  | 0, r => r
  | n + 1, r => .unusable :: gap n r
def poolList (es : List (Nat × CpInfo)) (last : Nat) : List CpInfo := es.foldr (fun e r => gap e.1 (e.2 :: r)) (gap last [])
def pool (es : List (Nat × CpInfo)) (last : Nat) : Array CpInfo := ⟨poolList es last⟩
def fileOf (pool : Array CpInfo) (this : Nat) (attrs : Array Attribute := #[]) (ms : Array MethodInfo := #[]) (fl : Nat := 33) (sup : Nat := 0) (ifs : Array Nat := #[]) (fds : Array FieldInfo := #[]) : ClassFile where
  minorVersion := 0
  majorVersion := 65
  constantPool := pool
  accessFlags := fl
  thisClass := this
  superClass := sup
  interfaces := ifs
  fields := fds
  methods := ms
  attributes := attrs
def plain (name : String) (sup : Option ClassId) : Class where
  name := name
  kind := .ordinary
  loader := none
  accessFlags := 33
  super := sup
  interfaces := #[]
  cf := none
  fields := #[]
  methods := #[]
  instanceTypes := #[]
  staticTypes := #[]
  resolved := #[]
  callSites := []
  init := .initialized
  statics := none
  mirror := none

def pool0 : Array CpInfo := pool [(5, u "<init>"), (0, u "()V"), (1, .class_ 10), (1, u "java/lang/Object")] 113

def k0m0 : Method := { name := "<init>", desc := "()V", sig := { parameters := [], returnType := none }, accessFlags := 1, code := none }
/-- java/lang/Object -/
def k0 : Class := { plain "java/lang/Object" none with
  accessFlags := 33
  interfaces := #[]
  cf := some (fileOf pool0 8 #[] #[{ accessFlags := 1, nameIndex := 5, descriptorIndex := 6, attributes := #[] }] 33 0 #[] #[])
  fields := #[]
  methods := #[k0m0]
  instanceTypes := #[]
  staticTypes := #[]
  resolved := Array.replicate 124 none
  statics := none }

def pool1 : Array CpInfo := pool [(2, .class_ 4), (1, u "java/lang/Object"), (0, u "<init>"), (0, u "()V"), (0, .long 32640), (1, .methodref 10 11), (0, .class_ 12), (0, .nameAndType 13 14), (0, u "java/lang/Math"), (0, u "min"), (0, u "(JJ)J"), (0, .methodref 16 17), (0, .class_ 18), (0, .nameAndType 19 20), (0, u "org/tarndb/store/FreeMap"), (0, u "isMapPage"), (0, u "(J)Z"), (2, .long 9223372036854775805), (1, .long 2), (1, .integer 2147483647), (0, .long 9223372036854775807), (1, .class_ 31), (0, u "org/tarndb/store/FreeMapIsMapPagePinLaw"), (2, u "law"), (0, u "(JII)Z")] 3

def k1m0 : Method := { name := "<init>", desc := "()V", sig := { parameters := [], returnType := none }, accessFlags := 1, code := none }
def k1c1 : Code := { maxStack := 6, maxLocals := 17, code := code, exceptionTable := #[], attributes := #[] }
def k1m1 : Method := { name := "law", desc := "(JII)Z", sig := { parameters := [.long, .int, .int], returnType := some .boolean }, accessFlags := 9, code := some k1c1 }
/-- org/tarndb/store/FreeMapIsMapPagePinLaw -/
def k1 : Class := { plain "org/tarndb/store/FreeMapIsMapPagePinLaw" (some 0) with
  accessFlags := 49
  interfaces := #[]
  cf := some (fileOf pool1 30 #[] #[{ accessFlags := 1, nameIndex := 5, descriptorIndex := 6, attributes := #[] }, { accessFlags := 9, nameIndex := 34, descriptorIndex := 35, attributes := #[] }] 49 2 #[] #[])
  fields := #[]
  methods := #[k1m0, k1m1]
  instanceTypes := #[]
  staticTypes := #[]
  resolved := Array.replicate 39 none
  statics := none }

def pool2 : Array CpInfo := pool [(1, .class_ 2), (0, u "java/lang/Math"), (1, .class_ 6), (1, u "java/lang/Object"), (0, u "<init>"), (0, u "()V"), (89, .class_ 100), (1, u "java/lang/Math$RandomNumberGeneratorHolder"), (20, u "(JJ)J"), (50, u "negativeZeroFloatBits"), (0, u "J"), (2, u "negativeZeroDoubleBits"), (24, u "min"), (43, u "$assertionsDisabled"), (0, u "Z"), (91, u "twoToTheDoubleScaleDown"), (0, u "D"), (4, u "twoToTheDoubleScaleUp"), (9, u "E"), (3, u "PI"), (2, u "TAU"), (2, u "DEGREES_TO_RADIANS"), (0, u "RADIANS_TO_DEGREES")] 94

def k2m0 : Method := { name := "<init>", desc := "()V", sig := { parameters := [], returnType := none }, accessFlags := 2, code := none }
def k2c1 : Code := { maxStack := 4, maxLocals := 4, code := jdk_29_method_70_code, exceptionTable := #[], attributes := #[] }
def k2m1 : Method := { name := "min", desc := "(JJ)J", sig := { parameters := [.long, .long], returnType := some .long }, accessFlags := 9, code := some k2c1 }
/-- java/lang/Math -/
def k2 : Class := { plain "java/lang/Math" (some 0) with
  accessFlags := 49
  interfaces := #[]
  cf := some (fileOf pool2 1 #[.nestMembers #[98]] #[{ accessFlags := 2, nameIndex := 7, descriptorIndex := 8, attributes := #[] }, { accessFlags := 9, nameIndex := 201, descriptorIndex := 121, attributes := #[] }] 49 4 #[] #[{ accessFlags := 25, nameIndex := 354, descriptorIndex := 339, attributes := #[] }, { accessFlags := 25, nameIndex := 358, descriptorIndex := 339, attributes := #[] }, { accessFlags := 25, nameIndex := 361, descriptorIndex := 339, attributes := #[] }, { accessFlags := 26, nameIndex := 364, descriptorIndex := 339, attributes := #[] }, { accessFlags := 26, nameIndex := 365, descriptorIndex := 339, attributes := #[] }, { accessFlags := 26, nameIndex := 172, descriptorIndex := 173, attributes := #[] }, { accessFlags := 26, nameIndex := 176, descriptorIndex := 173, attributes := #[] }, { accessFlags := 8, nameIndex := 344, descriptorIndex := 339, attributes := #[] }, { accessFlags := 8, nameIndex := 338, descriptorIndex := 339, attributes := #[] }, { accessFlags := 4120, nameIndex := 245, descriptorIndex := 246, attributes := #[] }])
  fields := #[{ name := "E", type := .double, accessFlags := 25, slot := 0, constantValue := 0 }, { name := "PI", type := .double, accessFlags := 25, slot := 1, constantValue := 0 }, { name := "TAU", type := .double, accessFlags := 25, slot := 2, constantValue := 0 }, { name := "DEGREES_TO_RADIANS", type := .double, accessFlags := 26, slot := 3, constantValue := 0 }, { name := "RADIANS_TO_DEGREES", type := .double, accessFlags := 26, slot := 4, constantValue := 0 }, { name := "negativeZeroFloatBits", type := .long, accessFlags := 26, slot := 5, constantValue := 0 }, { name := "negativeZeroDoubleBits", type := .long, accessFlags := 26, slot := 6, constantValue := 0 }, { name := "twoToTheDoubleScaleUp", type := .double, accessFlags := 8, slot := 7, constantValue := 0 }, { name := "twoToTheDoubleScaleDown", type := .double, accessFlags := 8, slot := 8, constantValue := 0 }, { name := "$assertionsDisabled", type := .boolean, accessFlags := 4120, slot := 9, constantValue := 0 }]
  methods := #[k2m0, k2m1]
  instanceTypes := #[]
  staticTypes := #[.double, .double, .double, .double, .double, .long, .long, .double, .double, .boolean]
  resolved := Array.replicate 460 none
  statics := none }

def pool3 : Array CpInfo := pool [(1, .class_ 2), (0, u "org/tarndb/store/FreeMap"), (1, .class_ 6), (1, u "java/lang/Object"), (7, u "regions"), (0, u "Ljava/util/List;"), (2, u "store"), (0, u "Lorg/tarndb/store/Store;"), (0, .long 2), (1, .long 32640), (37, .class_ 62), (1, u "org/tarndb/store/FreeMap$Bits"), (83, u "I"), (61, .class_ 209), (0, u "org/tarndb/store/FreeMap$Update"), (94, u "MAX_PAGES"), (0, u "J"), (0, u "WORDS"), (2, u "REGION"), (6, u "isMapPage"), (0, u "(J)Z")] 62

def k3c0 : Code := { maxStack := 4, maxLocals := 2, code := prog_159_method_4_code, exceptionTable := #[], attributes := #[] }
def k3m0 : Method := { name := "isMapPage", desc := "(J)Z", sig := { parameters := [.long], returnType := some .boolean }, accessFlags := 8, code := some k3c0 }
/-- org/tarndb/store/FreeMap -/
def k3 : Class := { plain "org/tarndb/store/FreeMap" (some 0) with
  accessFlags := 48
  interfaces := #[]
  cf := some (fileOf pool3 1 #[.nestMembers #[60, 208]] #[{ accessFlags := 8, nameIndex := 316, descriptorIndex := 317, attributes := #[] }] 48 4 #[] #[{ accessFlags := 26, nameIndex := 306, descriptorIndex := 146, attributes := #[] }, { accessFlags := 24, nameIndex := 309, descriptorIndex := 146, attributes := #[] }, { accessFlags := 24, nameIndex := 304, descriptorIndex := 305, attributes := #[] }, { accessFlags := 18, nameIndex := 18, descriptorIndex := 19, attributes := #[] }, { accessFlags := 18, nameIndex := 14, descriptorIndex := 15, attributes := #[] }])
  fields := #[{ name := "WORDS", type := .int, accessFlags := 26, slot := 0, constantValue := 0 }, { name := "REGION", type := .int, accessFlags := 24, slot := 1, constantValue := 0 }, { name := "MAX_PAGES", type := .long, accessFlags := 24, slot := 2, constantValue := 0 }, { name := "store", type := (.object "org/tarndb/store/Store"), accessFlags := 18, slot := 0, constantValue := 0 }, { name := "regions", type := (.object "java/util/List"), accessFlags := 18, slot := 1, constantValue := 0 }]
  methods := #[k3m0]
  instanceTypes := #[(.object "org/tarndb/store/Store"), (.object "java/util/List")]
  staticTypes := #[.int, .int, .long]
  resolved := Array.replicate 380 none
  statics := none }

def pool4 : Array CpInfo := pool [(1, u "java/lang/Cloneable"), (0, .class_ 1), (0, u "java/lang/Object"), (0, .class_ 3)] 3

/-- java/lang/Cloneable -/
def k4 : Class := { plain "java/lang/Cloneable" (some 0) with
  accessFlags := 1537
  interfaces := #[]
  cf := some (fileOf pool4 2 #[] #[] 1537 4 #[] #[])
  fields := #[]
  methods := #[]
  instanceTypes := #[]
  staticTypes := #[]
  resolved := Array.replicate 8 none
  statics := none }

def pool5 : Array CpInfo := pool [(1, u "java/io/Serializable"), (0, .class_ 1), (0, u "java/lang/Object"), (0, .class_ 3)] 3

/-- java/io/Serializable -/
def k5 : Class := { plain "java/io/Serializable" (some 0) with
  accessFlags := 1537
  interfaces := #[]
  cf := some (fileOf pool5 2 #[] #[] 1537 4 #[] #[])
  fields := #[]
  methods := #[]
  instanceTypes := #[]
  staticTypes := #[]
  resolved := Array.replicate 8 none
  statics := none }

/-- the primitive byte -/
def k6 : Class := { plain "byte" none with kind := .primitive 'B', accessFlags := 0x411 }
/-- [B -/
def k7 : Class := { plain "[B" (some 0) with kind := .array 6 .byte, interfaces := #[4, 5], accessFlags := 1041 }

/-- the primitive int -/
def k8 : Class := { plain "int" none with kind := .primitive 'I', accessFlags := 0x411 }
/-- [I -/
def k9 : Class := { plain "[I" (some 0) with kind := .array 8 .int, interfaces := #[4, 5], accessFlags := 1041 }

def heap : Heap := #[]
def classes : Array Class := #[k0, k1, k2, k3, k4, k5, k6, k7, k8, k9]
def interned : List (Array UInt16 × Addr) := []
def slotsUsed : Nat := 0
def theMethod : MethodId := ⟨1, 1⟩
def args0 : Array Value := #[.long 5, .int 7, .int 1]
def aboutOver (below : List Frame) : State where
  vm := { classes := classes, interned := interned.toArray }
  heap := heap
  slotsUsed := slotsUsed
  threads := #[{ frames := .invoking theMethod args0 :: below }]
def below0 : List Frame := [.native { method := ⟨0, 0⟩, args := #[] }]
def about1 : State := aboutOver below0
def p0 : Program := .bare "" "" ""
def e0 : Env := launch0.env 0 0 0
theorem w_frames : about1.frames = Frame.invoking theMethod args0 :: below0 := rfl
set_option maxRecDepth 65536 in
theorem w_args : argsFit about1.vm theMethod args0 = true := by decide +kernel
set_option maxRecDepth 65536 in
theorem w_heap : heapFits about1 = true := by decide +kernel
set_option maxRecDepth 65536 in
theorem w_runnable : about1.curStatus? = some .runnable := by decide +kernel
set_option maxRecDepth 65536 in
theorem w_alone : about1.alone = true := by decide +kernel
set_option maxRecDepth 65536 in
theorem w_named : about1.methodNamed? x = some theMethod := by decide +kernel
set_option maxRecDepth 65536 in
theorem w_hears : about1.hears theMethod below0 = true := by decide +kernel
set_option maxRecDepth 65536 in
theorem w_ripe : about1.ripe theMethod args0 below0 = true := by decide +kernel
theorem w_running : about1.status = .running := rfl
set_option maxRecDepth 65536 in
theorem w_room : about1.hasRoom e0.platform room_1 = true :=
  launch0.hasRoom_least _ room_1 (by decide +kernel) (by decide +kernel) (by decide +kernel) (by decide +kernel) (by decide +kernel) (by decide +kernel)
theorem allAtoms_all (ts : List Jvm.Cond) (a : Array Jvm.Value) (st : Jvm.State) : (allAtoms ts).before a st = ts.all (fun c => c.before a st) := by
  induction ts with
  | nil => rfl
  | cons c t ih =>
    show (Jvm.Cond.and c (allAtoms t)).before a st = _
    rw [Jvm.Cond.before_and, ih, List.all_cons]
def words1 : List Jvm.Cond := Jvm.Cond.code x code maxLocals ret :: tables_1
/-- a 'code' word, met by the world's own term for the bytes: nothing is compared byte by byte -/
theorem code_word {y : MethodName} {bytes : ByteArray} {mx : Nat} {rt : Option FieldType} {a : Array Value} {s : State} {m : MethodId} {meth : Method} {c : Code} (h1 : s.methodNamed? y = some m) (h2 : s.vm.method? m = some meth) (h3 : meth.code = some c) (h4 : c.code = bytes)
    (h5 : (c.maxLocals == mx && c.exceptionTable.isEmpty && decide (c.maxStack ≤ mostOperands) && decide (meth.sig.returnType = rt) && !meth.locks && decide (parseMethodDescriptor y.desc = some meth.sig)) = true) : (Jvm.Cond.code y bytes mx rt).before a s = true := by
  simp only [Bool.and_eq_true, beq_iff_eq, Bool.not_eq_true', decide_eq_true_eq] at h5
  obtain ⟨⟨⟨⟨⟨g1, g2⟩, g3⟩, g4⟩, g5⟩, g6⟩ := h5
  simp [Cond.before, Cond.holds, Cond.value, h1, h2, h3, h4, g1, g2, g3, g4, g5, g6]
def isCode : Jvm.Cond → Bool
  | .code _ _ _ _ => true
  | _ => false
theorem all_split {L : List Jvm.Cond} {P : Jvm.Cond → Bool} (h1 : L.all (fun c => isCode c || P c) = true) (h2 : ∀ c ∈ L.filter isCode, P c = true) : L.all P = true := by
  refine List.all_eq_true.mpr fun c hc => ?_
  have h := List.all_eq_true.mp h1 c hc
  rcases Bool.eq_false_or_eq_true (isCode c) with hi | hi
  · exact h2 c (List.mem_filter.mpr ⟨hc, hi⟩)
  · simpa [hi] using h
set_option maxRecDepth 65536 in
theorem w_c0 : (Jvm.Cond.code x code maxLocals ret).before args0 about1 = true := code_word (m := ⟨1, 1⟩) (meth := k1m1) (c := k1c1) (by decide +kernel) rfl rfl rfl (by decide +kernel)
set_option maxRecDepth 65536 in
theorem w_c1 : (Jvm.Cond.code ({ cls := "java/lang/Math", name := "min", desc := "(JJ)J" } : Jvm.MethodName) jdk_29_method_70_code (4 : Nat) (Option.some Jvm.ClassFile.FieldType.long)).before args0 about1 = true := code_word (m := ⟨2, 1⟩) (meth := k2m1) (c := k2c1) (by decide +kernel) rfl rfl rfl (by decide +kernel)
set_option maxRecDepth 65536 in
theorem w_c2 : (Jvm.Cond.code ({ cls := "org/tarndb/store/FreeMap", name := "isMapPage", desc := "(J)Z" } : Jvm.MethodName) prog_159_method_4_code (2 : Nat) (Option.some Jvm.ClassFile.FieldType.boolean)).before args0 about1 = true := code_word (m := ⟨3, 0⟩) (meth := k3m0) (c := k3c0) (by decide +kernel) rfl rfl rfl (by decide +kernel)
def codes1 : List Jvm.Cond := [Jvm.Cond.code x code maxLocals ret, Jvm.Cond.code ({ cls := "java/lang/Math", name := "min", desc := "(JJ)J" } : Jvm.MethodName) jdk_29_method_70_code (4 : Nat) (Option.some Jvm.ClassFile.FieldType.long), Jvm.Cond.code ({ cls := "org/tarndb/store/FreeMap", name := "isMapPage", desc := "(J)Z" } : Jvm.MethodName) prog_159_method_4_code (2 : Nat) (Option.some Jvm.ClassFile.FieldType.boolean)]
set_option maxRecDepth 65536 in
theorem codes_eq : words1.filter isCode = codes1 := rfl
theorem w_codes : ∀ c ∈ words1.filter isCode, c.before args0 about1 = true := by
  rw [codes_eq]
  intro c hc
  simp only [codes1, List.mem_cons, List.not_mem_nil, or_false] at hc
  rcases hc with rfl | rfl | rfl
  · exact w_c0
  · exact w_c1
  · exact w_c2
set_option maxRecDepth 65536 in
theorem w_t1 : words1.all (fun c => isCode c || c.before args0 about1) = true := by decide +kernel
theorem w_tables : (allAtoms (Jvm.Cond.code x code maxLocals ret :: tables_1)).before args0 about1 = true := by
  rw [allAtoms_all]
  show words1.all (fun c => c.before args0 about1) = true
  refine all_split ?_ w_codes
  rw [w_t1]
set_option maxRecDepth 65536 in
theorem w_case : (Jvm.Cond.and given_1 narrow_1).before args0 about1 = true := by decide +kernel
theorem w_applies : (headSpec (Jvm.Cond.code x code maxLocals ret :: tables_1) room_1).applies x e0.platform about1 = true :=
  (Spec.applies_iff w_frames).mpr ⟨w_running, w_runnable, w_alone, w_named, w_hears, w_ripe, w_room, w_tables⟩
theorem atStart : AtStart classFile x code maxLocals ret World_1 tables_1 room_1 Calls_1 rest_1 Pre_1 launch0 p0 e0 about1 theMethod args0 below0 :=
  ⟨lists_1, trivial, launch0.admits_env _ _ _, launch0.least_env, fairChoices_fair.cas, fairChoices_fair.clock, w_frames, w_args, w_heap, w_applies, trivial, trivial, w_case⟩
end start1
theorem witness_1 : WitnessClaimed_1 := ⟨start1.p0, start1.e0, start1.about1, start1.theMethod, start1.args0, start1.below0, start1.atStart⟩
end Jvm.Pilot.@@N@@
