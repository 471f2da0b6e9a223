import JvmDerived
import JvmDerived.Pilot.@@N@@Statement
import JvmDerived.Pilot.@@N@@Code
set_option linter.unusedVariables false
set_option linter.unusedSimpArgs false
namespace Jvm.Pilot.@@N@@
open Jvm Jvm.ClassFile Sem Op Lib Jvm.Free Jvm.Stand Jvm.LawKit Jvm.RoadKit Bundle Jvm.Pilot.@@N@@.Jvm.D
/-! the walk's own small kit: a run that ends in a return (own_Ends), a method's contract (own_Con), one step (own_go), the returns, the calls -/
section Own
variable {p : Program} {l : Launch} {e : Env} {R : Room} {s : State} {m : MethodId} {args : Array Value} {below : List Frame} {meth : Method} {c : Code} {T : State} {locs : List Loc} {cells slots : Nat} {Z : State} {a0 : Array Value} {h : Heap} {n0 kc ks : Nat}
/-- from the frame g at T the run comes to a return; what was written lies at or above n0; Q says what is returned and what the heap is then -/
def own_Ends (p : Program) (e : Env) (below : List Frame) (s : State) (n0 kc ks : Nat) (T : State) (g : JFrame) (Q : Option Value → Heap → Prop) : Prop :=
  ∃ s₂ o, Steps p.tables e below (T.setTop g) s₂ ∧ s₂.status = .running ∧ Ended s₂ below o ∧ ∃ v L, o = .returned v ∧ (Fr n0 L ∧ Q v s₂.heap) ∧ FrameEnd s o s₂ L kc ks
theorem own_go {T' : State} {g g' : JFrame} {Q : Option Value → Heap → Prop} (k : ∀ t, Steps p.tables e below (T'.setTop g') t → Steps p.tables e below (T.setTop g) t) (q : own_Ends p e below s n0 kc ks T' g' Q) : own_Ends p e below s n0 kc ks T g Q := by
  obtain ⟨s₂, o, h1, r⟩ := q
  exact ⟨s₂, o, k _ h1, r⟩
theorem own_mono {g : JFrame} {Q Q' : Option Value → Heap → Prop} (q : own_Ends p e below s n0 kc ks T g Q) (i : ∀ v h, Q v h → Q' v h) : own_Ends p e below s n0 kc ks T g Q' := by
  obtain ⟨s₂, o, h1, h2, h3, v, L, h4, ⟨h5, h6⟩, h7⟩ := q
  exact ⟨s₂, o, h1, h2, h3, v, L, h4, ⟨h5, i _ _ h6⟩, h7⟩
theorem own_retW (X : Stand p l e R s m args below meth c T locs cells slots) (hx : p.tables.exec = Jvm.exec) (hlk : meth.locks = false) {pc : Nat} {Ls : Array Slot} {w : Value} {t : FieldType} {i : Instr} {rest : List Value} (hret : meth.sig.returnType = some t) (hn : narrow t w = w)
    (hi : (i = .ireturn ∧ (t = .int ∨ t = .boolean ∨ t = .byte ∨ t = .char ∨ t = .short) ∧ ∃ z, w = .int z) ∨ (i = .lreturn ∧ t = .long ∧ ∃ z, w = .long z) ∨ (i = .dreturn ∧ t = .double ∧ ∃ z, w = .double z) ∨ (i = .freturn ∧ t = .float ∧ ∃ z, w = .float z) ∨ (i = .areturn ∧ t.isReference = true ∧ w.isRef = true))
    (hd : decode c.code pc = .ok (i, 1)) {Q : Option Value → Heap → Prop} (hc : cells ≤ kc) (hs : slots ≤ ks) (N : Fr n0 locs) (q : Q (some w) T.heap) : own_Ends p e below s n0 kc ks T (mkF m pc Ls (w :: rest)) Q := by
  obtain ⟨fs, hr, hrun, hended, hW, hsame⟩ := X.leave (v := some w) (fun h => by rw [hret] at h; cases h) hlk
  exact ⟨_, _, retOut X hx hret hn hi hd hr, hrun, hended, _, _, rfl, ⟨N, q⟩, ⟨_, rfl⟩, hW, hsame.mono hc hs⟩
theorem own_retI (X : Stand p l e R s m args below meth c T locs cells slots) (hx : p.tables.exec = Jvm.exec) (hlk : meth.locks = false) {pc : Nat} {Ls : Array Slot} {z : Int32} {rest : List Value} (hret : meth.sig.returnType = some .int)
    (hd : decode c.code pc = .ok (.ireturn, 1)) {Q : Option Value → Heap → Prop} (hc : cells ≤ kc) (hs : slots ≤ ks) (N : Fr n0 locs) (q : Q (some (.int z)) T.heap) : own_Ends p e below s n0 kc ks T (mkF m pc Ls (.int z :: rest)) Q :=
  own_retW X hx hlk hret rfl (Or.inl ⟨rfl, Or.inl rfl, z, rfl⟩) hd hc hs N q
theorem own_retJ (X : Stand p l e R s m args below meth c T locs cells slots) (hx : p.tables.exec = Jvm.exec) (hlk : meth.locks = false) {pc : Nat} {Ls : Array Slot} {z : Int64} {rest : List Value} (hret : meth.sig.returnType = some .long)
    (hd : decode c.code pc = .ok (.lreturn, 1)) {Q : Option Value → Heap → Prop} (hc : cells ≤ kc) (hs : slots ≤ ks) (N : Fr n0 locs) (q : Q (some (.long z)) T.heap) : own_Ends p e below s n0 kc ks T (mkF m pc Ls (.long z :: rest)) Q :=
  own_retW X hx hlk hret rfl (Or.inr (Or.inl ⟨rfl, rfl, z, rfl⟩)) hd hc hs N q
theorem own_retA (X : Stand p l e R s m args below meth c T locs cells slots) (hx : p.tables.exec = Jvm.exec) (hlk : meth.locks = false) {pc : Nat} {Ls : Array Slot} {a : Addr} {t : FieldType} {rest : List Value} (hret : meth.sig.returnType = some t) (ht : t.isReference = true) (hn : narrow t (.ref a) = .ref a)
    (hd : decode c.code pc = .ok (.areturn, 1)) {Q : Option Value → Heap → Prop} (hc : cells ≤ kc) (hs : slots ≤ ks) (N : Fr n0 locs) (q : Q (some (.ref a)) T.heap) : own_Ends p e below s n0 kc ks T (mkF m pc Ls (.ref a :: rest)) Q :=
  own_retW X hx hlk hret hn (Or.inr (Or.inr (Or.inr (Or.inr ⟨rfl, ht, rfl⟩)))) hd hc hs N q
theorem own_retN (X : Stand p l e R s m args below meth c T locs cells slots) (hx : p.tables.exec = Jvm.exec) (hlk : meth.locks = false) {pc : Nat} {Ls : Array Slot} {z : Int32} {t : FieldType} {rest : List Value} (hret : meth.sig.returnType = some t) (ht : t = .boolean ∨ t = .byte ∨ t = .char ∨ t = .short)
    (hd : decode c.code pc = .ok (.ireturn, 1)) {Q : Option Value → Heap → Prop} (hc : cells ≤ kc) (hs : slots ≤ ks) (N : Fr n0 locs) (q : Q (some (.int (nar t z))) T.heap) : own_Ends p e below s n0 kc ks T (mkF m pc Ls (.int z :: rest)) Q := by
  obtain ⟨fs, hr, hrun, hended, hW, hsame⟩ := X.leave (v := some (.int (nar t z))) (fun h => by rw [hret] at h; cases h) hlk
  exact ⟨_, _, retN X hx hret ht hd hr, hrun, hended, _, _, rfl, ⟨N, q⟩, ⟨_, rfl⟩, hW, hsame.mono hc hs⟩
theorem own_retV (X : Stand p l e R s m args below meth c T locs cells slots) (hx : p.tables.exec = Jvm.exec) (hlk : meth.locks = false) {pc : Nat} {Ls : Array Slot} (hret : meth.sig.returnType = none)
    (hd : decode c.code pc = .ok (.return_, 1)) {Q : Option Value → Heap → Prop} (hc : cells ≤ kc) (hs : slots ≤ ks) (N : Fr n0 locs) (q : Q none T.heap) : own_Ends p e below s n0 kc ks T (mkF m pc Ls []) Q := by
  obtain ⟨fs, hr, hrun, hended, hW, hsame⟩ := X.leave (v := none) (fun _ => rfl) hlk
  exact ⟨_, _, X.returnOut hx hret hd hr, hrun, hended, _, _, rfl, ⟨N, q⟩, ⟨_, rfl⟩, hW, hsame.mono hc hs⟩
/-- a method's contract: called with as' at the heap h it returns, and Q says what; nothing below n0 is written -/
def own_Con (ws : List Jvm.Cond) (l : Launch) (Z : State) (y : MethodName) (bytes : ByteArray) (maxL : Nat) (ret : Option FieldType) (rm : Room) (n0 : Nat) (as' : Array Value) (h : Heap) (Q : Option Value → Heap → Prop) : Prop :=
  MetFree l y (head1 (Jvm.Cond.code y bytes maxL ret :: ws) rm) (fun a U => a = as' ∧ Z.Warmed39 U.vm ∧ U.heap = h) (fun _ _ _ _ _ => True) (fun _ U o U' => ∃ v L, o = .returned v ∧ (Fr n0 L ∧ Q v U'.heap) ∧ FrameEnd U o U' L rm.cells rm.slots)
theorem own_body {ws : List Jvm.Cond} {y : MethodName} {bytes : ByteArray} {maxL : Nat} {ret : Option FieldType} {rm : Room} {as' : Array Value} {Q : Option Value → Heap → Prop} (hy : plainFor y = true) (fr : MethodId → JFrame) (hfr : ∀ m, entryFrame m as' maxL = fr m)
    (H : ∀ (p : Program) (e : Env) (s : State) (m : MethodId) (below : List Frame) (meth : Method) (c : Code) (s₁ : State), p.tables.exec = Jvm.exec → c.code = bytes → c.maxLocals = maxL → s.vm.findClass y.cls = some m.cls → meth.name = y.name → Z.Warmed39 s.vm → meth.sig.returnType = ret → meth.locks = false →
      Stand p l e rm s m as' below meth c s₁ [] 0 0 → s₁.heap = h → Fr n0 [] → own_Ends p e below s n0 rm.cells rm.slots s₁ (fr m) Q) : own_Con ws l Z y bytes maxL ret rm n0 as' h Q := by
  refine MetFree.of_bodySF hy hisR ?_
  intro p e s m args below meth c s₁ Bd hml0 hP hK
  obtain ⟨rfl, hZ, hh⟩ := hP
  have E := H p e s m below meth c s₁ Bd.exec Bd.bytes hml0 (findClass_of_methodNamed Bd.named) (name_of_methodNamed Bd.named Bd.method).1 hZ Bd.returns Bd.notSynchronized (Stand.of_body Bd) (by rw [← hh, Bd.state]; rfl) (Fr.nil n0)
  rw [← hfr m] at E
  exact E
/-- invokestatic by the callee's contract -/
theorem own_callS (X : Stand p l e R s m args below meth c T locs cells slots) (hx : p.tables.exec = Jvm.exec) (hZ : Z.Warmed39 s.vm) {own : String} {index : Nat} {y : MethodName} {bytes : ByteArray} {maxL : Nat} {ret : Option FieldType}
    (hown : s.vm.findClass own = some m.cls) (w1 : (Jvm.Cond.methodLink own index y).before a0 Z = true) (w2 : (Jvm.Cond.static y).before a0 Z = true) (w3 : (Jvm.Cond.initialized y.cls).before a0 Z = true) (w4 : (Jvm.Cond.code y bytes maxL ret).before a0 Z = true)
    (hy : y.cls ≠ "java/lang/invoke/MethodHandle" ∧ y.cls ≠ "java/lang/invoke/VarHandle") {argsL rest : List Value} {Q : Option Value → Heap → Prop} {rm : Room} (hM : own_Con [] l Z y bytes maxL ret rm n0 argsL.toArray h Q) {W : Nat} (hf : rm.frames + 1 ≤ R.frames) (hl : W + (maxL + 11) + rm.locals ≤ R.locals)
    {g : JFrame} (hg : g.method = m) (hsize : g.locals.size = c.maxLocals) {ps : List FieldType} {r : Option FieldType} (hpd : parseMethodDescriptor y.desc = some ⟨ps, r⟩) (hlen : argsL.length = ps.length) (hstack : g.stack = argsL.reverse ++ rest) (hW : 2 * g.monitorRoom + (rest.map fun v => v.category).sum ≤ W)
    (hd : decode c.code g.pc = .ok (.invokestatic index, 3)) (eT : T.heap = h) (hc : cells + rm.cells ≤ R.cells) (hs : slots + rm.slots ≤ R.slots) (N : Fr n0 locs) :
    ∃ v T' L', Stand p l e R s m args below meth c T' L' (cells + rm.cells) (slots + rm.slots) ∧ Fr n0 L' ∧ Q v T'.heap ∧ ∀ t, Steps p.tables e below (T'.setTop { g with pc := g.pc + 3, stack := v.toList ++ rest }) t → Steps p.tables e below (T.setTop g) t := by
  obtain ⟨v, _, ⟨T', L', k', n'⟩, -, X', ⟨Lc, ⟨hN, hQ⟩, l', y', z'⟩, st⟩ := Jvm.LawKit.callS X hx hown (mvT hZ w1) (mvT hZ w2) (mvT hZ w3) (mvT hZ w4) hy (backOf (Q := fun v h L => Fr n0 L ∧ Q v h) (W := W) hM hZ w4 w3 hf hl) hg hsize (lenOf hpd hlen) hstack hW hd (fun _ _ => ⟨rfl, eT, hc, hs⟩)
  dsimp only [Pt.U, Pt.locs, Pt.cells, Pt.slots] at X' l' y' z' st hQ
  subst l' y' z'
  exact ⟨v, T', _, X', Fr.app N hN, hQ, st⟩
/-- a constructor by its contract -/
theorem own_callI (X : Stand p l e R s m args below meth c T locs cells slots) (hx : p.tables.exec = Jvm.exec) (hZ : Z.Warmed39 s.vm) {own : String} {index : Nat} {y : MethodName} {bytes : ByteArray} {maxL : Nat}
    (hy1 : y.name = "<init>") (hown : s.vm.findClass own = some m.cls) (w1 : (Jvm.Cond.methodLink own index y).before a0 Z = true) (w2 : (Jvm.Cond.instanceMethod y).before a0 Z = true) (w3 : (Jvm.Cond.initialized y.cls).before a0 Z = true) (w4 : (Jvm.Cond.code y bytes maxL none).before a0 Z = true)
    (hy : y.cls ≠ "java/lang/invoke/MethodHandle" ∧ y.cls ≠ "java/lang/invoke/VarHandle") {a : Addr} {argsL rest : List Value} {Q : Option Value → Heap → Prop} {rm : Room} (hM : own_Con [] l Z y bytes maxL none rm n0 (.ref a :: argsL).toArray h Q) {W : Nat} (hf : rm.frames + 1 ≤ R.frames) (hl : W + (maxL + 11) + rm.locals ≤ R.locals)
    {g : JFrame} (hg : g.method = m) (hsize : g.locals.size = c.maxLocals) {ps : List FieldType} {r : Option FieldType} (hpd : parseMethodDescriptor y.desc = some ⟨ps, r⟩) (hlen : argsL.length = ps.length) (hstack : g.stack = argsL.reverse ++ .ref a :: rest) (hW : 2 * g.monitorRoom + (rest.map fun v => v.category).sum ≤ W)
    (hd : decode c.code g.pc = .ok (.invokespecial index, 3)) (eT : T.heap = h) (hc : cells + rm.cells ≤ R.cells) (hs : slots + rm.slots ≤ R.slots) (N : Fr n0 locs) :
    ∃ v T' L', Stand p l e R s m args below meth c T' L' (cells + rm.cells) (slots + rm.slots) ∧ Fr n0 L' ∧ Q v T'.heap ∧ ∀ t, Steps p.tables e below (T'.setTop { g with pc := g.pc + 3, stack := v.toList ++ rest }) t → Steps p.tables e below (T.setTop g) t := by
  obtain ⟨v, _, ⟨T', L', k', n'⟩, -, X', ⟨Lc, ⟨hN, hQ⟩, l', y', z'⟩, st⟩ := X.specialBack hx hy1 hown (mvT hZ w1) (mvT hZ w2) (mvT hZ w4) hy (backOf (Q := fun v h L => Fr n0 L ∧ Q v h) (W := W) hM hZ w4 w3 hf hl) hg hsize (Steps.refl _) (lenOf hpd hlen) hstack hW hd (fun _ _ => ⟨rfl, eT, hc, hs⟩)
  dsimp only [Pt.U, Pt.locs, Pt.cells, Pt.slots] at X' l' y' z' st hQ
  subst l' y' z'
  exact ⟨v, T', _, X', Fr.app N hN, hQ, fun t k => st.trans k⟩
/-- an instance method that its own class declares, by its contract -/
theorem own_callV (X : Stand p l e R s m args below meth c T locs cells slots) (hx : p.tables.exec = Jvm.exec) (hZ : Z.Warmed39 s.vm) {own C : String} {index : Nat} {y : MethodName} {bytes : ByteArray} {maxL : Nat} {ret : Option FieldType}
    (hown : s.vm.findClass own = some m.cls) (w1 : (Jvm.Cond.methodLink own index y).before a0 Z = true) (wd : (Jvm.Cond.declares y).before a0 Z = true) (ws : (Jvm.Cond.selects C y y).before a0 Z = true) (w2 : (Jvm.Cond.instanceMethod y).before a0 Z = true) (w3 : (Jvm.Cond.initialized y.cls).before a0 Z = true) (w4 : (Jvm.Cond.code y bytes maxL ret).before a0 Z = true)
    (hy : y.cls ≠ "java/lang/invoke/MethodHandle" ∧ y.cls ≠ "java/lang/invoke/VarHandle") {a : Addr} {argsL rest : List Value} {Q : Option Value → Heap → Prop} {rm : Room} (hM : own_Con [] l Z y bytes maxL ret rm n0 (.ref a :: argsL).toArray h Q) {W : Nat} (hf : rm.frames + 1 ≤ R.frames) (hl : W + (maxL + 11) + rm.locals ≤ R.locals)
    (E : Exa Z h a C) {g : JFrame} (hg : g.method = m) (hsize : g.locals.size = c.maxLocals) {ps : List FieldType} {r : Option FieldType} (hpd : parseMethodDescriptor y.desc = some ⟨ps, r⟩) (hlen : argsL.length = ps.length) (hstack : g.stack = argsL.reverse ++ .ref a :: rest) (hW : 2 * g.monitorRoom + (rest.map fun v => v.category).sum ≤ W)
    (hd : decode c.code g.pc = .ok (.invokevirtual index, 3)) (eT : T.heap = h) (hc : cells + rm.cells ≤ R.cells) (hs : slots + rm.slots ≤ R.slots) (N : Fr n0 locs) :
    ∃ v T' L', Stand p l e R s m args below meth c T' L' (cells + rm.cells) (slots + rm.slots) ∧ Fr n0 L' ∧ Q v T'.heap ∧ ∀ t, Steps p.tables e below (T'.setTop { g with pc := g.pc + 3, stack := v.toList ++ rest }) t → Steps p.tables e below (T.setTop g) t := by
  obtain ⟨cq, kq, qa, qb, qc⟩ := isOf hZ eT E
  obtain ⟨v, _, ⟨T', L', k', n'⟩, -, X', ⟨Lc, ⟨hN, hQ⟩, l', y', z'⟩, st⟩ := X.virtualBack hx (z := y) hown (mvT hZ w1) (mvT hZ wd) (notFace_of_selects (args := #[]) (mvT hZ ws)) (mvT hZ ws) (mvT hZ w2) hy (backOf (Q := fun v h L => Fr n0 L ∧ Q v h) (W := W) hM hZ w4 w3 hf hl) qa qc hg hsize (Steps.refl _) (lenOf hpd hlen) hstack hW hd (fun _ _ => ⟨rfl, eT, hc, hs⟩)
  dsimp only [Pt.U, Pt.locs, Pt.cells, Pt.slots] at X' l' y' z' st hQ
  subst l' y' z'
  exact ⟨v, T', _, X', Fr.app N hN, hQ, fun t k => st.trans k⟩
/-! arrays by their values -/
theorem own_ldI (X : Stand p l e R s m args below meth c T locs cells slots) (hx : p.tables.exec = Jvm.exec) (hZ : Z.Warmed39 s.vm) (eT : T.heap = h) {a : Addr} {k : ClassId} {n : Int32} {vs : List Value} {d : Value} (V : Arv Z h a k .int n vs d) {j : Int32} (hj : ¬ j < 0 ∧ j < n) {v : Value} (hv : vs.getD j.toNatClampNeg d = v)
    {g : JFrame} (hg : g.method = m) {rest : List Value} (hs : g.stack = .int j :: .ref a :: rest) (hd : decode c.code g.pc = .ok (.iaload, 1)) : ∀ t, Steps p.tables e below (T.setTop { g with pc := g.pc + 1, stack := v :: rest }) t → Steps p.tables e below (T.setTop g) t := by
  obtain ⟨cl, Ar, -, S, M, H, G⟩ := V
  have hin := inb_of S hj
  exact fun t k => X.iaload hx (by rw [eT]; exact Ar.1) (State.isArrayOf_alike hZ.alike Ar.2.1) Ar.2.2 hin (H.at hin hv) hg hs hd t k
theorem own_ldJ (X : Stand p l e R s m args below meth c T locs cells slots) (hx : p.tables.exec = Jvm.exec) (hZ : Z.Warmed39 s.vm) (eT : T.heap = h) {a : Addr} {k : ClassId} {n : Int32} {vs : List Value} {d : Value} (V : Arv Z h a k .long n vs d) {j : Int32} (hj : ¬ j < 0 ∧ j < n) {v : Value} (hv : vs.getD j.toNatClampNeg d = v)
    {g : JFrame} (hg : g.method = m) {rest : List Value} (hs : g.stack = .int j :: .ref a :: rest) (hd : decode c.code g.pc = .ok (.laload, 1)) : ∀ t, Steps p.tables e below (T.setTop { g with pc := g.pc + 1, stack := v :: rest }) t → Steps p.tables e below (T.setTop g) t := by
  obtain ⟨cl, Ar, -, S, M, H, G⟩ := V
  have hin := inb_of S hj
  exact fun t k => X.laload hx (by rw [eT]; exact Ar.1) (State.isArrayOf_alike hZ.alike Ar.2.1) Ar.2.2 hin (H.at hin hv) hg hs hd t k
theorem own_ldC (X : Stand p l e R s m args below meth c T locs cells slots) (hx : p.tables.exec = Jvm.exec) (hZ : Z.Warmed39 s.vm) (eT : T.heap = h) {a : Addr} {k : ClassId} {n : Int32} {vs : List Value} {d : Value} (V : Arv Z h a k .char n vs d) {j : Int32} (hj : ¬ j < 0 ∧ j < n) {v : Value} (hv : vs.getD j.toNatClampNeg d = v)
    {g : JFrame} (hg : g.method = m) {rest : List Value} (hs : g.stack = .int j :: .ref a :: rest) (hd : decode c.code g.pc = .ok (.caload, 1)) : ∀ t, Steps p.tables e below (T.setTop { g with pc := g.pc + 1, stack := v :: rest }) t → Steps p.tables e below (T.setTop g) t := by
  obtain ⟨cl, Ar, -, S, M, H, G⟩ := V
  have hin := inb_of S hj
  exact fun t k => X.caload hx (by rw [eT]; exact Ar.1) (State.isArrayOf_alike hZ.alike Ar.2.1) Ar.2.2 hin (H.at hin hv) hg hs hd t k
theorem own_ldB (X : Stand p l e R s m args below meth c T locs cells slots) (hx : p.tables.exec = Jvm.exec) (hZ : Z.Warmed39 s.vm) (eT : T.heap = h) {a : Addr} {k : ClassId} {n : Int32} {vs : List Value} {d : Value} (V : Arv Z h a k .byte n vs d) {j : Int32} (hj : ¬ j < 0 ∧ j < n) {v : Value} (hv : vs.getD j.toNatClampNeg d = v)
    {g : JFrame} (hg : g.method = m) {rest : List Value} (hs : g.stack = .int j :: .ref a :: rest) (hd : decode c.code g.pc = .ok (.baload, 1)) : ∀ t, Steps p.tables e below (T.setTop { g with pc := g.pc + 1, stack := v :: rest }) t → Steps p.tables e below (T.setTop g) t := by
  obtain ⟨cl, Ar, -, S, M, H, G⟩ := V
  have hin := inb_of S hj
  exact fun t k => X.baloadBytes hx (by rw [eT]; exact Ar.1) (State.isArrayOf_alike hZ.alike Ar.2.1) Ar.2.2 hin (H.at hin hv) hg hs hd t k
theorem own_len (X : Stand p l e R s m args below meth c T locs cells slots) (hx : p.tables.exec = Jvm.exec) (hZ : Z.Warmed39 s.vm) (eT : T.heap = h) {a : Addr} {k : ClassId} {ty : FieldType} {n : Int32} {vs : List Value} {d : Value} (V : Arv Z h a k ty n vs d)
    {g : JFrame} (hg : g.method = m) {rest : List Value} (hs : g.stack = .ref a :: rest) (hd : decode c.code g.pc = .ok (.arraylength, 1)) : ∀ t, Steps p.tables e below (T.setTop { g with pc := g.pc + 1, stack := .int n :: rest }) t → Steps p.tables e below (T.setTop g) t := by
  obtain ⟨cl, Ar, -, S, M, H, G⟩ := V
  intro t k
  refine X.arraylength hx (by rw [eT]; exact Ar.1) (State.isArrayOf_alike hZ.alike Ar.2.1) hg hs hd _ ?_
  rw [len_of S M]
  exact k
theorem own_stI (X : Stand p l e R s m args below meth c T locs cells slots) (hx : p.tables.exec = Jvm.exec) (hZ : Z.Warmed39 s.vm) (eT : T.heap = h) {a : Addr} {k : ClassId} {n : Int32} {vs : List Value} {d : Value} (V : Arv Z h a k .int n vs d) {j : Int32} (hj : ¬ j < 0 ∧ j < n) (i : Nat) (hi : j.toNatClampNeg = i) (hl : i < vs.length) {x : Int32}
    (N : Fr n0 locs) (ga : n0 ≤ a) {g : JFrame} (hg : g.method = m) {rest : List Value} (hs : g.stack = (.int x) :: .int j :: .ref a :: rest) (hd : decode c.code g.pc = .ok (.iastore, 1)) :
    ∃ T' h' L', Stand p l e R s m args below meth c T' L' cells slots ∧ Fr n0 L' ∧ T'.heap = h' ∧ Wr h h' a i (.int x) ∧ Arv Z h' a k .int n (vs.set i (.int x)) d ∧ ∀ t, Steps p.tables e below (T'.setTop { g with pc := g.pc + 1, stack := rest }) t → Steps p.tables e below (T.setTop g) t := by
  obtain ⟨cl, Ar, q, S, M, H, G⟩ := V
  obtain ⟨T', h', X', e', W, st⟩ := stI X hx hZ eT Ar (inb_of S hj) hg hs hd
  have V' := Arv.set Ar q S M H G rfl W i hi hl
  rw [hi] at W
  exact ⟨T', h', _, X', Fr.snoc X' N ga, e', W, V', st⟩
theorem own_stJ (X : Stand p l e R s m args below meth c T locs cells slots) (hx : p.tables.exec = Jvm.exec) (hZ : Z.Warmed39 s.vm) (eT : T.heap = h) {a : Addr} {k : ClassId} {n : Int32} {vs : List Value} {d : Value} (V : Arv Z h a k .long n vs d) {j : Int32} (hj : ¬ j < 0 ∧ j < n) (i : Nat) (hi : j.toNatClampNeg = i) (hl : i < vs.length) {x : Int64}
    (N : Fr n0 locs) (ga : n0 ≤ a) {g : JFrame} (hg : g.method = m) {rest : List Value} (hs : g.stack = (.long x) :: .int j :: .ref a :: rest) (hd : decode c.code g.pc = .ok (.lastore, 1)) :
    ∃ T' h' L', Stand p l e R s m args below meth c T' L' cells slots ∧ Fr n0 L' ∧ T'.heap = h' ∧ Wr h h' a i (.long x) ∧ Arv Z h' a k .long n (vs.set i (.long x)) d ∧ ∀ t, Steps p.tables e below (T'.setTop { g with pc := g.pc + 1, stack := rest }) t → Steps p.tables e below (T.setTop g) t := by
  obtain ⟨cl, Ar, q, S, M, H, G⟩ := V
  obtain ⟨T', h', X', e', W, st⟩ := stJ X hx hZ eT Ar (inb_of S hj) hg hs hd
  have V' := Arv.set Ar q S M H G rfl W i hi hl
  rw [hi] at W
  exact ⟨T', h', _, X', Fr.snoc X' N ga, e', W, V', st⟩
theorem own_stC (X : Stand p l e R s m args below meth c T locs cells slots) (hx : p.tables.exec = Jvm.exec) (hZ : Z.Warmed39 s.vm) (eT : T.heap = h) {a : Addr} {k : ClassId} {n : Int32} {vs : List Value} {d : Value} (V : Arv Z h a k .char n vs d) {j : Int32} (hj : ¬ j < 0 ∧ j < n) (i : Nat) (hi : j.toNatClampNeg = i) (hl : i < vs.length) {x : Int32}
    (N : Fr n0 locs) (ga : n0 ≤ a) {g : JFrame} (hg : g.method = m) {rest : List Value} (hs : g.stack = (.int x) :: .int j :: .ref a :: rest) (hd : decode c.code g.pc = .ok (.castore, 1)) :
    ∃ T' h' L', Stand p l e R s m args below meth c T' L' cells slots ∧ Fr n0 L' ∧ T'.heap = h' ∧ Wr h h' a i (.int (nar .char x)) ∧ Arv Z h' a k .char n (vs.set i (.int (nar .char x))) d ∧ ∀ t, Steps p.tables e below (T'.setTop { g with pc := g.pc + 1, stack := rest }) t → Steps p.tables e below (T.setTop g) t := by
  obtain ⟨cl, Ar, q, S, M, H, G⟩ := V
  obtain ⟨T', h', X', e', W, st⟩ := stC X hx hZ eT Ar (inb_of S hj) hg hs hd
  have V' := Arv.set Ar q S M H G (fits_nar_char _) W i hi hl
  rw [hi] at W
  exact ⟨T', h', _, X', Fr.snoc X' N ga, e', W, V', st⟩
theorem own_stB (X : Stand p l e R s m args below meth c T locs cells slots) (hx : p.tables.exec = Jvm.exec) (hZ : Z.Warmed39 s.vm) (eT : T.heap = h) {a : Addr} {k : ClassId} {n : Int32} {vs : List Value} {d : Value} (V : Arv Z h a k .byte n vs d) {j : Int32} (hj : ¬ j < 0 ∧ j < n) (i : Nat) (hi : j.toNatClampNeg = i) (hl : i < vs.length) {x : Int32}
    (N : Fr n0 locs) (ga : n0 ≤ a) {g : JFrame} (hg : g.method = m) {rest : List Value} (hs : g.stack = (.int x) :: .int j :: .ref a :: rest) (hd : decode c.code g.pc = .ok (.bastore, 1)) :
    ∃ T' h' L', Stand p l e R s m args below meth c T' L' cells slots ∧ Fr n0 L' ∧ T'.heap = h' ∧ Wr h h' a i (.int (nar .byte x)) ∧ Arv Z h' a k .byte n (vs.set i (.int (nar .byte x))) d ∧ ∀ t, Steps p.tables e below (T'.setTop { g with pc := g.pc + 1, stack := rest }) t → Steps p.tables e below (T.setTop g) t := by
  obtain ⟨cl, Ar, q, S, M, H, G⟩ := V
  obtain ⟨T', h', X', e', W, st⟩ := stB X hx hZ eT Ar (inb_of S hj) hg hs hd
  have V' := Arv.set Ar q S M H G (fits_nar_byte _) W i hi hl
  rw [hi] at W
  exact ⟨T', h', _, X', Fr.snoc X' N ga, e', W, V', st⟩
theorem own_new (X : Stand p l e R s m args below meth c T locs cells slots) (hx : p.tables.exec = Jvm.exec) (hZ : Z.Warmed39 s.vm) {aty : ArrayType} (w : (Jvm.Cond.arrayClass (newarray.typeOf aty)).before a0 Z = true) (eT : T.heap = h) {g : JFrame} (hg : g.method = m) (hd : decode c.code g.pc = .ok (.newarray aty, 2)) {n : Int32} {rest : List Value} (hs : g.stack = .int n :: rest)
    (hn : ¬ n < 0) {cap : Nat} (hcap : n.toNatClampNeg ≤ cap) (hb : cap * 8 ≤ 536870912) (hc : cells + 1 ≤ R.cells) (hl : slots + cap ≤ R.slots) :
    ∃ T' h' k a, a = h.size ∧ Stand p l e R s m args below meth c T' locs (cells + 1) (slots + cap) ∧ T'.heap = h' ∧ Ext h h' ∧ Arv Z h' a k (newarray.typeOf aty) n [] (defaultValue (newarray.typeOf aty)) ∧
      ∀ t, Steps p.tables e below (T'.setTop { g with pc := g.pc + 2, stack := .ref a :: rest }) t → Steps p.tables e below (T.setTop g) t := by
  obtain ⟨T', h', k, X', e', E, A, st⟩ := newP X hx hZ w eT hg hd hs hn hcap hb hc hl
  exact ⟨T', h', k, _, rfl, X', e', E, Arv.new A hn, st⟩
/-- what a method that only reads leaves -/
def own_P (z : Value) (h0 : Heap) : Option Value → Heap → Prop := fun v h => v = some z ∧ h = h0
end Own
def f2_0 (q0 : Int64) : Int64 := (q0 ^^^ ((q0.toUInt64 >>> ((33 : Int32) &&& 0x3f).toInt64.toUInt64).toInt64))
abbrev own_r2 : Room := { frames := 0, cells := 0, slots := 0, locals := 0 }
theorem d2_0 : decode method_3_code 0 = .ok (.lload_n 0, 1) := by decide +kernel
theorem d2_1 : decode method_3_code 1 = .ok (.lload_n 0, 1) := by decide +kernel
theorem d2_2 : decode method_3_code 2 = .ok (.bipush 33, 2) := by decide +kernel
theorem d2_4 : decode method_3_code 4 = .ok (.lushr, 1) := by decide +kernel
theorem d2_5 : decode method_3_code 5 = .ok (.lxor, 1) := by decide +kernel
theorem d2_6 : decode method_3_code 6 = .ok (.lreturn, 1) := by decide +kernel
theorem ef_2 (m : MethodId) (q0 : Int64) : entryFrame m #[(.long q0)] 2 = mkF m 0 #[.val (.long q0), .second] [] := by first | (simp [entryFrame, mkF, argsToLocals, Value.category]; done) | rfl
set_option maxRecDepth 65536 in
set_option maxHeartbeats 40000000 in
theorem rm2 (l : Launch) (Z : State) (a0 : Array Value) (hw : ∀ d ∈ tables_1, d.before a0 Z = true) (q0 : Int64) (h0 : Heap) (n0 : Nat) : own_Con [] l Z (⟨"com/example/querent/querent/engine/IdTableHashPinLaw", "unshift", "(J)J"⟩ : MethodName) method_3_code 2 (some .long) own_r2 n0 #[(.long q0)] h0 (own_P (.long (f2_0 q0)) h0) := by
  refine own_body (plainFor_of_name (by first | (simp [plainName, overriddenIn]; done) | decide +kernel)) (fun m => mkF m 0 #[.val (.long q0), .second] []) (fun m => ef_2 m q0) ?_
  intro p e s m below meth c s₁ hx hby hml hown hnm hZ hret hlk X0 e0 N0
  show own_Ends p e below s n0 _ _ _ _ (own_P (.long (q0 ^^^ ((q0.toUInt64 >>> ((33 : Int32) &&& 0x3f).toInt64.toUInt64).toInt64))) h0)
  refine own_go (T' := s₁) (g' := (mkF m 6 #[.val (.long q0), .second] [(.long (q0 ^^^ ((q0.toUInt64 >>> ((33 : Int32) &&& 0x3f).toInt64.toUInt64).toInt64)))])) (fun t k => ?_) ?_
  · show Steps p.tables e below (s₁.setTop (mkF m 0 #[.val (.long q0), .second] [])) t
    refine XS.lloadN X0.here hx rfl (hb hby d2_0) rfl ?_
    show Steps p.tables e below (s₁.setTop (mkF m 1 #[.val (.long q0), .second] [(.long q0)])) _
    refine XS.lloadN X0.here hx rfl (hb hby d2_1) rfl ?_
    show Steps p.tables e below (s₁.setTop (mkF m 2 #[.val (.long q0), .second] [(.long q0), (.long q0)])) _
    refine XS.bipush X0.here hx rfl (hb hby d2_2) ?_
    show Steps p.tables e below (s₁.setTop (mkF m 4 #[.val (.long q0), .second] [(.int (33 : Int32)), (.long q0), (.long q0)])) _
    refine XS.lushr X0.here hx rfl (hb hby d2_4) rfl ?_
    show Steps p.tables e below (s₁.setTop (mkF m 5 #[.val (.long q0), .second] [(.long ((q0.toUInt64 >>> ((33 : Int32) &&& 0x3f).toInt64.toUInt64).toInt64)), (.long q0)])) _
    refine XS.lxor X0.here hx rfl (hb hby d2_5) rfl ?_
    show Steps p.tables e below (s₁.setTop (mkF m 6 #[.val (.long q0), .second] [(.long (q0 ^^^ ((q0.toUInt64 >>> ((33 : Int32) &&& 0x3f).toInt64.toUInt64).toInt64)))])) _
    exact k
  exact own_retJ X0 hx hlk hret (hb hby d2_6) (by decide) (by decide) N0 ⟨rfl, e0⟩
def f3_42 (q0 : Int64) (v2 : Int64) : Int64 := (v2 * ((2 : Int64) - (q0 * v2)))
def f3_32 (q0 : Int64) (v2 : Int64) : Int64 := (f3_42 q0 (v2 * ((2 : Int64) - (q0 * v2))))
def f3_22 (q0 : Int64) (v2 : Int64) : Int64 := (f3_32 q0 (v2 * ((2 : Int64) - (q0 * v2))))
def f3_12 (q0 : Int64) (v2 : Int64) : Int64 := (f3_22 q0 (v2 * ((2 : Int64) - (q0 * v2))))
def f3_0 (q0 : Int64) : Int64 := (f3_12 q0 (q0 * ((2 : Int64) - (q0 * q0))))
abbrev own_r3 : Room := { frames := 0, cells := 0, slots := 0, locals := 0 }
theorem d3_0 : decode method_2_code 0 = .ok (.lload_n 0, 1) := by decide +kernel
theorem d3_1 : decode method_2_code 1 = .ok (.lstore_n 2, 1) := by decide +kernel
theorem d3_2 : decode method_2_code 2 = .ok (.lload_n 2, 1) := by decide +kernel
theorem d3_3 : decode method_2_code 3 = .ok (.ldc2_w 7, 3) := by decide +kernel
theorem d3_6 : decode method_2_code 6 = .ok (.lload_n 0, 1) := by decide +kernel
theorem d3_7 : decode method_2_code 7 = .ok (.lload_n 2, 1) := by decide +kernel
theorem d3_8 : decode method_2_code 8 = .ok (.lmul, 1) := by decide +kernel
theorem d3_9 : decode method_2_code 9 = .ok (.lsub, 1) := by decide +kernel
theorem d3_10 : decode method_2_code 10 = .ok (.lmul, 1) := by decide +kernel
theorem d3_11 : decode method_2_code 11 = .ok (.lstore_n 2, 1) := by decide +kernel
theorem d3_12 : decode method_2_code 12 = .ok (.lload_n 2, 1) := by decide +kernel
theorem d3_13 : decode method_2_code 13 = .ok (.ldc2_w 7, 3) := by decide +kernel
theorem d3_16 : decode method_2_code 16 = .ok (.lload_n 0, 1) := by decide +kernel
theorem d3_17 : decode method_2_code 17 = .ok (.lload_n 2, 1) := by decide +kernel
theorem d3_18 : decode method_2_code 18 = .ok (.lmul, 1) := by decide +kernel
theorem d3_19 : decode method_2_code 19 = .ok (.lsub, 1) := by decide +kernel
theorem d3_20 : decode method_2_code 20 = .ok (.lmul, 1) := by decide +kernel
theorem d3_21 : decode method_2_code 21 = .ok (.lstore_n 2, 1) := by decide +kernel
theorem d3_22 : decode method_2_code 22 = .ok (.lload_n 2, 1) := by decide +kernel
theorem d3_23 : decode method_2_code 23 = .ok (.ldc2_w 7, 3) := by decide +kernel
theorem d3_26 : decode method_2_code 26 = .ok (.lload_n 0, 1) := by decide +kernel
theorem d3_27 : decode method_2_code 27 = .ok (.lload_n 2, 1) := by decide +kernel
theorem d3_28 : decode method_2_code 28 = .ok (.lmul, 1) := by decide +kernel
theorem d3_29 : decode method_2_code 29 = .ok (.lsub, 1) := by decide +kernel
theorem d3_30 : decode method_2_code 30 = .ok (.lmul, 1) := by decide +kernel
theorem d3_31 : decode method_2_code 31 = .ok (.lstore_n 2, 1) := by decide +kernel
theorem d3_32 : decode method_2_code 32 = .ok (.lload_n 2, 1) := by decide +kernel
theorem d3_33 : decode method_2_code 33 = .ok (.ldc2_w 7, 3) := by decide +kernel
theorem d3_36 : decode method_2_code 36 = .ok (.lload_n 0, 1) := by decide +kernel
theorem d3_37 : decode method_2_code 37 = .ok (.lload_n 2, 1) := by decide +kernel
theorem d3_38 : decode method_2_code 38 = .ok (.lmul, 1) := by decide +kernel
theorem d3_39 : decode method_2_code 39 = .ok (.lsub, 1) := by decide +kernel
theorem d3_40 : decode method_2_code 40 = .ok (.lmul, 1) := by decide +kernel
theorem d3_41 : decode method_2_code 41 = .ok (.lstore_n 2, 1) := by decide +kernel
theorem d3_42 : decode method_2_code 42 = .ok (.lload_n 2, 1) := by decide +kernel
theorem d3_43 : decode method_2_code 43 = .ok (.ldc2_w 7, 3) := by decide +kernel
theorem d3_46 : decode method_2_code 46 = .ok (.lload_n 0, 1) := by decide +kernel
theorem d3_47 : decode method_2_code 47 = .ok (.lload_n 2, 1) := by decide +kernel
theorem d3_48 : decode method_2_code 48 = .ok (.lmul, 1) := by decide +kernel
theorem d3_49 : decode method_2_code 49 = .ok (.lsub, 1) := by decide +kernel
theorem d3_50 : decode method_2_code 50 = .ok (.lmul, 1) := by decide +kernel
theorem d3_51 : decode method_2_code 51 = .ok (.lstore_n 2, 1) := by decide +kernel
theorem d3_52 : decode method_2_code 52 = .ok (.lload_n 2, 1) := by decide +kernel
theorem d3_53 : decode method_2_code 53 = .ok (.lreturn, 1) := by decide +kernel
theorem ef_3 (m : MethodId) (q0 : Int64) : entryFrame m #[(.long q0)] 4 = mkF m 0 #[.val (.long q0), .second, .unset, .unset] [] := by first | (simp [entryFrame, mkF, argsToLocals, Value.category]; done) | rfl
set_option maxRecDepth 65536 in
set_option maxHeartbeats 40000000 in
theorem rm3 (l : Launch) (Z : State) (a0 : Array Value) (hw : ∀ d ∈ tables_1, d.before a0 Z = true) (q0 : Int64) (h0 : Heap) (n0 : Nat) : own_Con [] l Z (⟨"com/example/querent/querent/engine/IdTableHashPinLaw", "inverse", "(J)J"⟩ : MethodName) method_2_code 4 (some .long) own_r3 n0 #[(.long q0)] h0 (own_P (.long (f3_0 q0)) h0) := by
  refine own_body (plainFor_of_name (by first | (simp [plainName, overriddenIn]; done) | decide +kernel)) (fun m => mkF m 0 #[.val (.long q0), .second, .unset, .unset] []) (fun m => ef_3 m q0) ?_
  intro p e s m below meth c s₁ hx hby hml hown hnm hZ hret hlk X0 e0 N0
  have w_f3_42 : ∀ {T : State} {locs : List Loc} (X : Stand p l e own_r3 s m #[(.long q0)] below meth c T locs 0 0) (eT : T.heap = h0) (N : Fr n0 locs) (v2 : Int64), own_Ends p e below s n0 own_r3.cells own_r3.slots T (mkF m 42 #[.val (.long q0), .second, .val (.long v2), .second] []) (own_P (.long (f3_42 q0 v2)) h0) := by
    intro T locs X eT N v2
    show own_Ends p e below s n0 _ _ _ _ (own_P (.long (v2 * ((2 : Int64) - (q0 * v2)))) h0)
    refine own_go (T' := T) (g' := (mkF m 53 #[.val (.long q0), .second, .val (.long (v2 * ((2 : Int64) - (q0 * v2)))), .second] [(.long (v2 * ((2 : Int64) - (q0 * v2))))])) (fun t k => ?_) ?_
    · show Steps p.tables e below (T.setTop (mkF m 42 #[.val (.long q0), .second, .val (.long v2), .second] [])) t
      refine XS.lloadN X.here hx rfl (hb hby d3_42) rfl ?_
      show Steps p.tables e below (T.setTop (mkF m 43 #[.val (.long q0), .second, .val (.long v2), .second] [(.long v2)])) _
      refine X.ldc2Long hx hown (mvT hZ (hw _ (List.mem_of_getElem? (i := 11) rfl))) (g := (mkF m 43 #[.val (.long q0), .second, .val (.long v2), .second] [(.long v2)])) rfl (hb hby d3_43) _ ?_
      show Steps p.tables e below (T.setTop (mkF m 46 #[.val (.long q0), .second, .val (.long v2), .second] [(.long (2 : Int64)), (.long v2)])) _
      refine XS.lloadN X.here hx rfl (hb hby d3_46) rfl ?_
      show Steps p.tables e below (T.setTop (mkF m 47 #[.val (.long q0), .second, .val (.long v2), .second] [(.long q0), (.long (2 : Int64)), (.long v2)])) _
      refine XS.lloadN X.here hx rfl (hb hby d3_47) rfl ?_
      show Steps p.tables e below (T.setTop (mkF m 48 #[.val (.long q0), .second, .val (.long v2), .second] [(.long v2), (.long q0), (.long (2 : Int64)), (.long v2)])) _
      refine XS.lmul X.here hx rfl (hb hby d3_48) rfl ?_
      show Steps p.tables e below (T.setTop (mkF m 49 #[.val (.long q0), .second, .val (.long v2), .second] [(.long (q0 * v2)), (.long (2 : Int64)), (.long v2)])) _
      refine XS.lsub X.here hx rfl (hb hby d3_49) rfl ?_
      show Steps p.tables e below (T.setTop (mkF m 50 #[.val (.long q0), .second, .val (.long v2), .second] [(.long ((2 : Int64) - (q0 * v2))), (.long v2)])) _
      refine XS.lmul X.here hx rfl (hb hby d3_50) rfl ?_
      show Steps p.tables e below (T.setTop (mkF m 51 #[.val (.long q0), .second, .val (.long v2), .second] [(.long (v2 * ((2 : Int64) - (q0 * v2))))])) _
      refine XS.lstoreN X.here hx rfl (hb hby d3_51) rfl (l' := #[.val (.long q0), .second, .val (.long (v2 * ((2 : Int64) - (q0 * v2)))), .second]) rfl ?_
      show Steps p.tables e below (T.setTop (mkF m 52 #[.val (.long q0), .second, .val (.long (v2 * ((2 : Int64) - (q0 * v2)))), .second] [])) _
      refine XS.lloadN X.here hx rfl (hb hby d3_52) rfl ?_
      show Steps p.tables e below (T.setTop (mkF m 53 #[.val (.long q0), .second, .val (.long (v2 * ((2 : Int64) - (q0 * v2)))), .second] [(.long (v2 * ((2 : Int64) - (q0 * v2))))])) _
      exact k
    exact own_retJ X hx hlk hret (hb hby d3_53) (by decide) (by decide) N ⟨rfl, eT⟩
  have w_f3_32 : ∀ {T : State} {locs : List Loc} (X : Stand p l e own_r3 s m #[(.long q0)] below meth c T locs 0 0) (eT : T.heap = h0) (N : Fr n0 locs) (v2 : Int64), own_Ends p e below s n0 own_r3.cells own_r3.slots T (mkF m 32 #[.val (.long q0), .second, .val (.long v2), .second] []) (own_P (.long (f3_32 q0 v2)) h0) := by
    intro T locs X eT N v2
    show own_Ends p e below s n0 _ _ _ _ (own_P (.long (f3_42 q0 (v2 * ((2 : Int64) - (q0 * v2))))) h0)
    refine own_go (T' := T) (g' := (mkF m 42 #[.val (.long q0), .second, .val (.long (v2 * ((2 : Int64) - (q0 * v2)))), .second] [])) (fun t k => ?_) ?_
    · show Steps p.tables e below (T.setTop (mkF m 32 #[.val (.long q0), .second, .val (.long v2), .second] [])) t
      refine XS.lloadN X.here hx rfl (hb hby d3_32) rfl ?_
      show Steps p.tables e below (T.setTop (mkF m 33 #[.val (.long q0), .second, .val (.long v2), .second] [(.long v2)])) _
      refine X.ldc2Long hx hown (mvT hZ (hw _ (List.mem_of_getElem? (i := 11) rfl))) (g := (mkF m 33 #[.val (.long q0), .second, .val (.long v2), .second] [(.long v2)])) rfl (hb hby d3_33) _ ?_
      show Steps p.tables e below (T.setTop (mkF m 36 #[.val (.long q0), .second, .val (.long v2), .second] [(.long (2 : Int64)), (.long v2)])) _
      refine XS.lloadN X.here hx rfl (hb hby d3_36) rfl ?_
      show Steps p.tables e below (T.setTop (mkF m 37 #[.val (.long q0), .second, .val (.long v2), .second] [(.long q0), (.long (2 : Int64)), (.long v2)])) _
      refine XS.lloadN X.here hx rfl (hb hby d3_37) rfl ?_
      show Steps p.tables e below (T.setTop (mkF m 38 #[.val (.long q0), .second, .val (.long v2), .second] [(.long v2), (.long q0), (.long (2 : Int64)), (.long v2)])) _
      refine XS.lmul X.here hx rfl (hb hby d3_38) rfl ?_
      show Steps p.tables e below (T.setTop (mkF m 39 #[.val (.long q0), .second, .val (.long v2), .second] [(.long (q0 * v2)), (.long (2 : Int64)), (.long v2)])) _
      refine XS.lsub X.here hx rfl (hb hby d3_39) rfl ?_
      show Steps p.tables e below (T.setTop (mkF m 40 #[.val (.long q0), .second, .val (.long v2), .second] [(.long ((2 : Int64) - (q0 * v2))), (.long v2)])) _
      refine XS.lmul X.here hx rfl (hb hby d3_40) rfl ?_
      show Steps p.tables e below (T.setTop (mkF m 41 #[.val (.long q0), .second, .val (.long v2), .second] [(.long (v2 * ((2 : Int64) - (q0 * v2))))])) _
      refine XS.lstoreN X.here hx rfl (hb hby d3_41) rfl (l' := #[.val (.long q0), .second, .val (.long (v2 * ((2 : Int64) - (q0 * v2)))), .second]) rfl ?_
      show Steps p.tables e below (T.setTop (mkF m 42 #[.val (.long q0), .second, .val (.long (v2 * ((2 : Int64) - (q0 * v2)))), .second] [])) _
      exact k
    exact w_f3_42 X eT N (v2 * ((2 : Int64) - (q0 * v2)))
  have w_f3_22 : ∀ {T : State} {locs : List Loc} (X : Stand p l e own_r3 s m #[(.long q0)] below meth c T locs 0 0) (eT : T.heap = h0) (N : Fr n0 locs) (v2 : Int64), own_Ends p e below s n0 own_r3.cells own_r3.slots T (mkF m 22 #[.val (.long q0), .second, .val (.long v2), .second] []) (own_P (.long (f3_22 q0 v2)) h0) := by
    intro T locs X eT N v2
    show own_Ends p e below s n0 _ _ _ _ (own_P (.long (f3_32 q0 (v2 * ((2 : Int64) - (q0 * v2))))) h0)
    refine own_go (T' := T) (g' := (mkF m 32 #[.val (.long q0), .second, .val (.long (v2 * ((2 : Int64) - (q0 * v2)))), .second] [])) (fun t k => ?_) ?_
    · show Steps p.tables e below (T.setTop (mkF m 22 #[.val (.long q0), .second, .val (.long v2), .second] [])) t
      refine XS.lloadN X.here hx rfl (hb hby d3_22) rfl ?_
      show Steps p.tables e below (T.setTop (mkF m 23 #[.val (.long q0), .second, .val (.long v2), .second] [(.long v2)])) _
      refine X.ldc2Long hx hown (mvT hZ (hw _ (List.mem_of_getElem? (i := 11) rfl))) (g := (mkF m 23 #[.val (.long q0), .second, .val (.long v2), .second] [(.long v2)])) rfl (hb hby d3_23) _ ?_
      show Steps p.tables e below (T.setTop (mkF m 26 #[.val (.long q0), .second, .val (.long v2), .second] [(.long (2 : Int64)), (.long v2)])) _
      refine XS.lloadN X.here hx rfl (hb hby d3_26) rfl ?_
      show Steps p.tables e below (T.setTop (mkF m 27 #[.val (.long q0), .second, .val (.long v2), .second] [(.long q0), (.long (2 : Int64)), (.long v2)])) _
      refine XS.lloadN X.here hx rfl (hb hby d3_27) rfl ?_
      show Steps p.tables e below (T.setTop (mkF m 28 #[.val (.long q0), .second, .val (.long v2), .second] [(.long v2), (.long q0), (.long (2 : Int64)), (.long v2)])) _
      refine XS.lmul X.here hx rfl (hb hby d3_28) rfl ?_
      show Steps p.tables e below (T.setTop (mkF m 29 #[.val (.long q0), .second, .val (.long v2), .second] [(.long (q0 * v2)), (.long (2 : Int64)), (.long v2)])) _
      refine XS.lsub X.here hx rfl (hb hby d3_29) rfl ?_
      show Steps p.tables e below (T.setTop (mkF m 30 #[.val (.long q0), .second, .val (.long v2), .second] [(.long ((2 : Int64) - (q0 * v2))), (.long v2)])) _
      refine XS.lmul X.here hx rfl (hb hby d3_30) rfl ?_
      show Steps p.tables e below (T.setTop (mkF m 31 #[.val (.long q0), .second, .val (.long v2), .second] [(.long (v2 * ((2 : Int64) - (q0 * v2))))])) _
      refine XS.lstoreN X.here hx rfl (hb hby d3_31) rfl (l' := #[.val (.long q0), .second, .val (.long (v2 * ((2 : Int64) - (q0 * v2)))), .second]) rfl ?_
      show Steps p.tables e below (T.setTop (mkF m 32 #[.val (.long q0), .second, .val (.long (v2 * ((2 : Int64) - (q0 * v2)))), .second] [])) _
      exact k
    exact w_f3_32 X eT N (v2 * ((2 : Int64) - (q0 * v2)))
  have w_f3_12 : ∀ {T : State} {locs : List Loc} (X : Stand p l e own_r3 s m #[(.long q0)] below meth c T locs 0 0) (eT : T.heap = h0) (N : Fr n0 locs) (v2 : Int64), own_Ends p e below s n0 own_r3.cells own_r3.slots T (mkF m 12 #[.val (.long q0), .second, .val (.long v2), .second] []) (own_P (.long (f3_12 q0 v2)) h0) := by
    intro T locs X eT N v2
    show own_Ends p e below s n0 _ _ _ _ (own_P (.long (f3_22 q0 (v2 * ((2 : Int64) - (q0 * v2))))) h0)
    refine own_go (T' := T) (g' := (mkF m 22 #[.val (.long q0), .second, .val (.long (v2 * ((2 : Int64) - (q0 * v2)))), .second] [])) (fun t k => ?_) ?_
    · show Steps p.tables e below (T.setTop (mkF m 12 #[.val (.long q0), .second, .val (.long v2), .second] [])) t
      refine XS.lloadN X.here hx rfl (hb hby d3_12) rfl ?_
      show Steps p.tables e below (T.setTop (mkF m 13 #[.val (.long q0), .second, .val (.long v2), .second] [(.long v2)])) _
      refine X.ldc2Long hx hown (mvT hZ (hw _ (List.mem_of_getElem? (i := 11) rfl))) (g := (mkF m 13 #[.val (.long q0), .second, .val (.long v2), .second] [(.long v2)])) rfl (hb hby d3_13) _ ?_
      show Steps p.tables e below (T.setTop (mkF m 16 #[.val (.long q0), .second, .val (.long v2), .second] [(.long (2 : Int64)), (.long v2)])) _
      refine XS.lloadN X.here hx rfl (hb hby d3_16) rfl ?_
      show Steps p.tables e below (T.setTop (mkF m 17 #[.val (.long q0), .second, .val (.long v2), .second] [(.long q0), (.long (2 : Int64)), (.long v2)])) _
      refine XS.lloadN X.here hx rfl (hb hby d3_17) rfl ?_
      show Steps p.tables e below (T.setTop (mkF m 18 #[.val (.long q0), .second, .val (.long v2), .second] [(.long v2), (.long q0), (.long (2 : Int64)), (.long v2)])) _
      refine XS.lmul X.here hx rfl (hb hby d3_18) rfl ?_
      show Steps p.tables e below (T.setTop (mkF m 19 #[.val (.long q0), .second, .val (.long v2), .second] [(.long (q0 * v2)), (.long (2 : Int64)), (.long v2)])) _
      refine XS.lsub X.here hx rfl (hb hby d3_19) rfl ?_
      show Steps p.tables e below (T.setTop (mkF m 20 #[.val (.long q0), .second, .val (.long v2), .second] [(.long ((2 : Int64) - (q0 * v2))), (.long v2)])) _
      refine XS.lmul X.here hx rfl (hb hby d3_20) rfl ?_
      show Steps p.tables e below (T.setTop (mkF m 21 #[.val (.long q0), .second, .val (.long v2), .second] [(.long (v2 * ((2 : Int64) - (q0 * v2))))])) _
      refine XS.lstoreN X.here hx rfl (hb hby d3_21) rfl (l' := #[.val (.long q0), .second, .val (.long (v2 * ((2 : Int64) - (q0 * v2)))), .second]) rfl ?_
      show Steps p.tables e below (T.setTop (mkF m 22 #[.val (.long q0), .second, .val (.long (v2 * ((2 : Int64) - (q0 * v2)))), .second] [])) _
      exact k
    exact w_f3_22 X eT N (v2 * ((2 : Int64) - (q0 * v2)))
  show own_Ends p e below s n0 _ _ _ _ (own_P (.long (f3_12 q0 (q0 * ((2 : Int64) - (q0 * q0))))) h0)
  refine own_go (T' := s₁) (g' := (mkF m 12 #[.val (.long q0), .second, .val (.long (q0 * ((2 : Int64) - (q0 * q0)))), .second] [])) (fun t k => ?_) ?_
  · show Steps p.tables e below (s₁.setTop (mkF m 0 #[.val (.long q0), .second, .unset, .unset] [])) t
    refine XS.lloadN X0.here hx rfl (hb hby d3_0) rfl ?_
    show Steps p.tables e below (s₁.setTop (mkF m 1 #[.val (.long q0), .second, .unset, .unset] [(.long q0)])) _
    refine XS.lstoreN X0.here hx rfl (hb hby d3_1) rfl (l' := #[.val (.long q0), .second, .val (.long q0), .second]) rfl ?_
    show Steps p.tables e below (s₁.setTop (mkF m 2 #[.val (.long q0), .second, .val (.long q0), .second] [])) _
    refine XS.lloadN X0.here hx rfl (hb hby d3_2) rfl ?_
    show Steps p.tables e below (s₁.setTop (mkF m 3 #[.val (.long q0), .second, .val (.long q0), .second] [(.long q0)])) _
    refine X0.ldc2Long hx hown (mvT hZ (hw _ (List.mem_of_getElem? (i := 11) rfl))) (g := (mkF m 3 #[.val (.long q0), .second, .val (.long q0), .second] [(.long q0)])) rfl (hb hby d3_3) _ ?_
    show Steps p.tables e below (s₁.setTop (mkF m 6 #[.val (.long q0), .second, .val (.long q0), .second] [(.long (2 : Int64)), (.long q0)])) _
    refine XS.lloadN X0.here hx rfl (hb hby d3_6) rfl ?_
    show Steps p.tables e below (s₁.setTop (mkF m 7 #[.val (.long q0), .second, .val (.long q0), .second] [(.long q0), (.long (2 : Int64)), (.long q0)])) _
    refine XS.lloadN X0.here hx rfl (hb hby d3_7) rfl ?_
    show Steps p.tables e below (s₁.setTop (mkF m 8 #[.val (.long q0), .second, .val (.long q0), .second] [(.long q0), (.long q0), (.long (2 : Int64)), (.long q0)])) _
    refine XS.lmul X0.here hx rfl (hb hby d3_8) rfl ?_
    show Steps p.tables e below (s₁.setTop (mkF m 9 #[.val (.long q0), .second, .val (.long q0), .second] [(.long (q0 * q0)), (.long (2 : Int64)), (.long q0)])) _
    refine XS.lsub X0.here hx rfl (hb hby d3_9) rfl ?_
    show Steps p.tables e below (s₁.setTop (mkF m 10 #[.val (.long q0), .second, .val (.long q0), .second] [(.long ((2 : Int64) - (q0 * q0))), (.long q0)])) _
    refine XS.lmul X0.here hx rfl (hb hby d3_10) rfl ?_
    show Steps p.tables e below (s₁.setTop (mkF m 11 #[.val (.long q0), .second, .val (.long q0), .second] [(.long (q0 * ((2 : Int64) - (q0 * q0))))])) _
    refine XS.lstoreN X0.here hx rfl (hb hby d3_11) rfl (l' := #[.val (.long q0), .second, .val (.long (q0 * ((2 : Int64) - (q0 * q0)))), .second]) rfl ?_
    show Steps p.tables e below (s₁.setTop (mkF m 12 #[.val (.long q0), .second, .val (.long (q0 * ((2 : Int64) - (q0 * q0)))), .second] [])) _
    exact k
  exact w_f3_12 X0 e0 N0 (q0 * ((2 : Int64) - (q0 * q0)))
def f1_0 (q0 : Int64) : Int64 := (f2_0 ((f2_0 ((f2_0 q0) * (f3_0 (-4265267296055464877 : Int64)))) * (f3_0 (-49064778989728563 : Int64))))
abbrev own_r1 : Room := { frames := 1, cells := 0, slots := 0, locals := 17 }
theorem d1_0 : decode method_4_code 0 = .ok (.lload_n 0, 1) := by decide +kernel
theorem pd_0 : parseMethodDescriptor "(J)J" = some ⟨[.long], some .long⟩ := by decide +kernel
theorem d1_1 : decode method_4_code 1 = .ok (.invokestatic 9, 3) := by decide +kernel
theorem d1_4 : decode method_4_code 4 = .ok (.lstore_n 2, 1) := by decide +kernel
theorem d1_5 : decode method_4_code 5 = .ok (.lload_n 2, 1) := by decide +kernel
theorem d1_6 : decode method_4_code 6 = .ok (.ldc2_w 15, 3) := by decide +kernel
theorem d1_9 : decode method_4_code 9 = .ok (.invokestatic 17, 3) := by decide +kernel
theorem d1_12 : decode method_4_code 12 = .ok (.lmul, 1) := by decide +kernel
theorem d1_13 : decode method_4_code 13 = .ok (.lstore 4, 2) := by decide +kernel
theorem d1_15 : decode method_4_code 15 = .ok (.lload 4, 2) := by decide +kernel
theorem d1_17 : decode method_4_code 17 = .ok (.invokestatic 9, 3) := by decide +kernel
theorem d1_20 : decode method_4_code 20 = .ok (.lstore 6, 2) := by decide +kernel
theorem d1_22 : decode method_4_code 22 = .ok (.lload 6, 2) := by decide +kernel
theorem d1_24 : decode method_4_code 24 = .ok (.ldc2_w 20, 3) := by decide +kernel
theorem d1_27 : decode method_4_code 27 = .ok (.invokestatic 17, 3) := by decide +kernel
theorem d1_30 : decode method_4_code 30 = .ok (.lmul, 1) := by decide +kernel
theorem d1_31 : decode method_4_code 31 = .ok (.lstore 8, 2) := by decide +kernel
theorem d1_33 : decode method_4_code 33 = .ok (.lload 8, 2) := by decide +kernel
theorem d1_35 : decode method_4_code 35 = .ok (.invokestatic 9, 3) := by decide +kernel
theorem d1_38 : decode method_4_code 38 = .ok (.lreturn, 1) := by decide +kernel
theorem ef_1 (m : MethodId) (q0 : Int64) : entryFrame m #[(.long q0)] 10 = mkF m 0 #[.val (.long q0), .second, .unset, .unset, .unset, .unset, .unset, .unset, .unset, .unset] [] := by first | (simp [entryFrame, mkF, argsToLocals, Value.category]; done) | rfl
set_option maxRecDepth 65536 in
set_option maxHeartbeats 40000000 in
theorem rm1 (l : Launch) (Z : State) (a0 : Array Value) (hw : ∀ d ∈ tables_1, d.before a0 Z = true) (q0 : Int64) (h0 : Heap) (n0 : Nat) : own_Con [] l Z (⟨"com/example/querent/querent/engine/IdTableHashPinLaw", "unmix", "(J)J"⟩ : MethodName) method_4_code 10 (some .long) own_r1 n0 #[(.long q0)] h0 (own_P (.long (f1_0 q0)) h0) := by
  refine own_body (plainFor_of_name (by first | (simp [plainName, overriddenIn]; done) | decide +kernel)) (fun m => mkF m 0 #[.val (.long q0), .second, .unset, .unset, .unset, .unset, .unset, .unset, .unset, .unset] []) (fun m => ef_1 m q0) ?_
  intro p e s m below meth c s₁ hx hby hml hown hnm hZ hret hlk X0 e0 N0
  show own_Ends p e below s n0 _ _ _ _ (own_P (.long (f2_0 ((f2_0 ((f2_0 q0) * (f3_0 (-4265267296055464877 : Int64)))) * (f3_0 (-49064778989728563 : Int64))))) h0)
  refine own_go (T' := s₁) (g' := (mkF m 1 #[.val (.long q0), .second, .unset, .unset, .unset, .unset, .unset, .unset, .unset, .unset] [(.long q0)])) (fun t k => ?_) ?_
  · show Steps p.tables e below (s₁.setTop (mkF m 0 #[.val (.long q0), .second, .unset, .unset, .unset, .unset, .unset, .unset, .unset, .unset] [])) t
    refine XS.lloadN X0.here hx rfl (hb hby d1_0) rfl ?_
    show Steps p.tables e below (s₁.setTop (mkF m 1 #[.val (.long q0), .second, .unset, .unset, .unset, .unset, .unset, .unset, .unset, .unset] [(.long q0)])) _
    exact k
  obtain ⟨_, T1, L1, X1, N1, ⟨rfl, e1⟩, st1⟩ := own_callS X0 hx hZ hown (hw _ (List.mem_of_getElem? (i := 4) rfl)) (hw _ (List.mem_of_getElem? (i := 5) rfl)) (hw _ (List.mem_of_getElem? (i := 2) rfl)) (hw _ (List.mem_of_getElem? (i := 6) rfl)) (by decide) (argsL := [(.long q0)]) (rest := []) (rm2 l Z a0 hw q0 h0 n0) (W := 0) (by decide) (by decide) (g := (mkF m 1 #[.val (.long q0), .second, .unset, .unset, .unset, .unset, .unset, .unset, .unset, .unset] [(.long q0)])) rfl (by rw [hml]; rfl) pd_0 rfl rfl (by show 2 * 0 + _ ≤ _; exact Nat.le_of_eq rfl) (hb hby d1_1) e0 (by decide) (by decide) N0
  refine own_go (T' := T1) (g' := (mkF m 4 #[.val (.long q0), .second, .unset, .unset, .unset, .unset, .unset, .unset, .unset, .unset] [(.long (f2_0 q0))])) st1 ?_
  refine own_go (T' := T1) (g' := (mkF m 9 #[.val (.long q0), .second, .val (.long (f2_0 q0)), .second, .unset, .unset, .unset, .unset, .unset, .unset] [(.long (-4265267296055464877 : Int64)), (.long (f2_0 q0))])) (fun t k => ?_) ?_
  · show Steps p.tables e below (T1.setTop (mkF m 4 #[.val (.long q0), .second, .unset, .unset, .unset, .unset, .unset, .unset, .unset, .unset] [(.long (f2_0 q0))])) t
    refine XS.lstoreN X1.here hx rfl (hb hby d1_4) rfl (l' := #[.val (.long q0), .second, .val (.long (f2_0 q0)), .second, .unset, .unset, .unset, .unset, .unset, .unset]) rfl ?_
    show Steps p.tables e below (T1.setTop (mkF m 5 #[.val (.long q0), .second, .val (.long (f2_0 q0)), .second, .unset, .unset, .unset, .unset, .unset, .unset] [])) _
    refine XS.lloadN X1.here hx rfl (hb hby d1_5) rfl ?_
    show Steps p.tables e below (T1.setTop (mkF m 6 #[.val (.long q0), .second, .val (.long (f2_0 q0)), .second, .unset, .unset, .unset, .unset, .unset, .unset] [(.long (f2_0 q0))])) _
    refine X1.ldc2Long hx hown (mvT hZ (hw _ (List.mem_of_getElem? (i := 7) rfl))) (g := (mkF m 6 #[.val (.long q0), .second, .val (.long (f2_0 q0)), .second, .unset, .unset, .unset, .unset, .unset, .unset] [(.long (f2_0 q0))])) rfl (hb hby d1_6) _ ?_
    show Steps p.tables e below (T1.setTop (mkF m 9 #[.val (.long q0), .second, .val (.long (f2_0 q0)), .second, .unset, .unset, .unset, .unset, .unset, .unset] [(.long (-4265267296055464877 : Int64)), (.long (f2_0 q0))])) _
    exact k
  obtain ⟨_, T2, L2, X2, N2, ⟨rfl, e2⟩, st2⟩ := own_callS X1 hx hZ hown (hw _ (List.mem_of_getElem? (i := 8) rfl)) (hw _ (List.mem_of_getElem? (i := 9) rfl)) (hw _ (List.mem_of_getElem? (i := 2) rfl)) (hw _ (List.mem_of_getElem? (i := 10) rfl)) (by decide) (argsL := [(.long (-4265267296055464877 : Int64))]) (rest := [(.long (f2_0 q0))]) (rm3 l Z a0 hw (-4265267296055464877 : Int64) h0 n0) (W := 2) (by decide) (by decide) (g := (mkF m 9 #[.val (.long q0), .second, .val (.long (f2_0 q0)), .second, .unset, .unset, .unset, .unset, .unset, .unset] [(.long (-4265267296055464877 : Int64)), (.long (f2_0 q0))])) rfl (by rw [hml]; rfl) pd_0 rfl rfl (by show 2 * 0 + _ ≤ _; exact Nat.le_of_eq rfl) (hb hby d1_9) e1 (by decide) (by decide) N1
  refine own_go (T' := T2) (g' := (mkF m 12 #[.val (.long q0), .second, .val (.long (f2_0 q0)), .second, .unset, .unset, .unset, .unset, .unset, .unset] [(.long (f3_0 (-4265267296055464877 : Int64))), (.long (f2_0 q0))])) st2 ?_
  refine own_go (T' := T2) (g' := (mkF m 17 #[.val (.long q0), .second, .val (.long (f2_0 q0)), .second, .val (.long ((f2_0 q0) * (f3_0 (-4265267296055464877 : Int64)))), .second, .unset, .unset, .unset, .unset] [(.long ((f2_0 q0) * (f3_0 (-4265267296055464877 : Int64))))])) (fun t k => ?_) ?_
  · show Steps p.tables e below (T2.setTop (mkF m 12 #[.val (.long q0), .second, .val (.long (f2_0 q0)), .second, .unset, .unset, .unset, .unset, .unset, .unset] [(.long (f3_0 (-4265267296055464877 : Int64))), (.long (f2_0 q0))])) t
    refine XS.lmul X2.here hx rfl (hb hby d1_12) rfl ?_
    show Steps p.tables e below (T2.setTop (mkF m 13 #[.val (.long q0), .second, .val (.long (f2_0 q0)), .second, .unset, .unset, .unset, .unset, .unset, .unset] [(.long ((f2_0 q0) * (f3_0 (-4265267296055464877 : Int64))))])) _
    refine XS.lstore X2.here hx rfl (hb hby d1_13) rfl (l' := #[.val (.long q0), .second, .val (.long (f2_0 q0)), .second, .val (.long ((f2_0 q0) * (f3_0 (-4265267296055464877 : Int64)))), .second, .unset, .unset, .unset, .unset]) rfl ?_
    show Steps p.tables e below (T2.setTop (mkF m 15 #[.val (.long q0), .second, .val (.long (f2_0 q0)), .second, .val (.long ((f2_0 q0) * (f3_0 (-4265267296055464877 : Int64)))), .second, .unset, .unset, .unset, .unset] [])) _
    refine XS.lload X2.here hx rfl (hb hby d1_15) rfl ?_
    show Steps p.tables e below (T2.setTop (mkF m 17 #[.val (.long q0), .second, .val (.long (f2_0 q0)), .second, .val (.long ((f2_0 q0) * (f3_0 (-4265267296055464877 : Int64)))), .second, .unset, .unset, .unset, .unset] [(.long ((f2_0 q0) * (f3_0 (-4265267296055464877 : Int64))))])) _
    exact k
  obtain ⟨_, T3, L3, X3, N3, ⟨rfl, e3⟩, st3⟩ := own_callS X2 hx hZ hown (hw _ (List.mem_of_getElem? (i := 4) rfl)) (hw _ (List.mem_of_getElem? (i := 5) rfl)) (hw _ (List.mem_of_getElem? (i := 2) rfl)) (hw _ (List.mem_of_getElem? (i := 6) rfl)) (by decide) (argsL := [(.long ((f2_0 q0) * (f3_0 (-4265267296055464877 : Int64))))]) (rest := []) (rm2 l Z a0 hw ((f2_0 q0) * (f3_0 (-4265267296055464877 : Int64))) h0 n0) (W := 0) (by decide) (by decide) (g := (mkF m 17 #[.val (.long q0), .second, .val (.long (f2_0 q0)), .second, .val (.long ((f2_0 q0) * (f3_0 (-4265267296055464877 : Int64)))), .second, .unset, .unset, .unset, .unset] [(.long ((f2_0 q0) * (f3_0 (-4265267296055464877 : Int64))))])) rfl (by rw [hml]; rfl) pd_0 rfl rfl (by show 2 * 0 + _ ≤ _; exact Nat.le_of_eq rfl) (hb hby d1_17) e2 (by decide) (by decide) N2
  refine own_go (T' := T3) (g' := (mkF m 20 #[.val (.long q0), .second, .val (.long (f2_0 q0)), .second, .val (.long ((f2_0 q0) * (f3_0 (-4265267296055464877 : Int64)))), .second, .unset, .unset, .unset, .unset] [(.long (f2_0 ((f2_0 q0) * (f3_0 (-4265267296055464877 : Int64)))))])) st3 ?_
  refine own_go (T' := T3) (g' := (mkF m 27 #[.val (.long q0), .second, .val (.long (f2_0 q0)), .second, .val (.long ((f2_0 q0) * (f3_0 (-4265267296055464877 : Int64)))), .second, .val (.long (f2_0 ((f2_0 q0) * (f3_0 (-4265267296055464877 : Int64))))), .second, .unset, .unset] [(.long (-49064778989728563 : Int64)), (.long (f2_0 ((f2_0 q0) * (f3_0 (-4265267296055464877 : Int64)))))])) (fun t k => ?_) ?_
  · show Steps p.tables e below (T3.setTop (mkF m 20 #[.val (.long q0), .second, .val (.long (f2_0 q0)), .second, .val (.long ((f2_0 q0) * (f3_0 (-4265267296055464877 : Int64)))), .second, .unset, .unset, .unset, .unset] [(.long (f2_0 ((f2_0 q0) * (f3_0 (-4265267296055464877 : Int64)))))])) t
    refine XS.lstore X3.here hx rfl (hb hby d1_20) rfl (l' := #[.val (.long q0), .second, .val (.long (f2_0 q0)), .second, .val (.long ((f2_0 q0) * (f3_0 (-4265267296055464877 : Int64)))), .second, .val (.long (f2_0 ((f2_0 q0) * (f3_0 (-4265267296055464877 : Int64))))), .second, .unset, .unset]) rfl ?_
    show Steps p.tables e below (T3.setTop (mkF m 22 #[.val (.long q0), .second, .val (.long (f2_0 q0)), .second, .val (.long ((f2_0 q0) * (f3_0 (-4265267296055464877 : Int64)))), .second, .val (.long (f2_0 ((f2_0 q0) * (f3_0 (-4265267296055464877 : Int64))))), .second, .unset, .unset] [])) _
    refine XS.lload X3.here hx rfl (hb hby d1_22) rfl ?_
    show Steps p.tables e below (T3.setTop (mkF m 24 #[.val (.long q0), .second, .val (.long (f2_0 q0)), .second, .val (.long ((f2_0 q0) * (f3_0 (-4265267296055464877 : Int64)))), .second, .val (.long (f2_0 ((f2_0 q0) * (f3_0 (-4265267296055464877 : Int64))))), .second, .unset, .unset] [(.long (f2_0 ((f2_0 q0) * (f3_0 (-4265267296055464877 : Int64)))))])) _
    refine X3.ldc2Long hx hown (mvT hZ (hw _ (List.mem_of_getElem? (i := 12) rfl))) (g := (mkF m 24 #[.val (.long q0), .second, .val (.long (f2_0 q0)), .second, .val (.long ((f2_0 q0) * (f3_0 (-4265267296055464877 : Int64)))), .second, .val (.long (f2_0 ((f2_0 q0) * (f3_0 (-4265267296055464877 : Int64))))), .second, .unset, .unset] [(.long (f2_0 ((f2_0 q0) * (f3_0 (-4265267296055464877 : Int64)))))])) rfl (hb hby d1_24) _ ?_
    show Steps p.tables e below (T3.setTop (mkF m 27 #[.val (.long q0), .second, .val (.long (f2_0 q0)), .second, .val (.long ((f2_0 q0) * (f3_0 (-4265267296055464877 : Int64)))), .second, .val (.long (f2_0 ((f2_0 q0) * (f3_0 (-4265267296055464877 : Int64))))), .second, .unset, .unset] [(.long (-49064778989728563 : Int64)), (.long (f2_0 ((f2_0 q0) * (f3_0 (-4265267296055464877 : Int64)))))])) _
    exact k
  obtain ⟨_, T4, L4, X4, N4, ⟨rfl, e4⟩, st4⟩ := own_callS X3 hx hZ hown (hw _ (List.mem_of_getElem? (i := 8) rfl)) (hw _ (List.mem_of_getElem? (i := 9) rfl)) (hw _ (List.mem_of_getElem? (i := 2) rfl)) (hw _ (List.mem_of_getElem? (i := 10) rfl)) (by decide) (argsL := [(.long (-49064778989728563 : Int64))]) (rest := [(.long (f2_0 ((f2_0 q0) * (f3_0 (-4265267296055464877 : Int64)))))]) (rm3 l Z a0 hw (-49064778989728563 : Int64) h0 n0) (W := 2) (by decide) (by decide) (g := (mkF m 27 #[.val (.long q0), .second, .val (.long (f2_0 q0)), .second, .val (.long ((f2_0 q0) * (f3_0 (-4265267296055464877 : Int64)))), .second, .val (.long (f2_0 ((f2_0 q0) * (f3_0 (-4265267296055464877 : Int64))))), .second, .unset, .unset] [(.long (-49064778989728563 : Int64)), (.long (f2_0 ((f2_0 q0) * (f3_0 (-4265267296055464877 : Int64)))))])) rfl (by rw [hml]; rfl) pd_0 rfl rfl (by show 2 * 0 + _ ≤ _; exact Nat.le_of_eq rfl) (hb hby d1_27) e3 (by decide) (by decide) N3
  refine own_go (T' := T4) (g' := (mkF m 30 #[.val (.long q0), .second, .val (.long (f2_0 q0)), .second, .val (.long ((f2_0 q0) * (f3_0 (-4265267296055464877 : Int64)))), .second, .val (.long (f2_0 ((f2_0 q0) * (f3_0 (-4265267296055464877 : Int64))))), .second, .unset, .unset] [(.long (f3_0 (-49064778989728563 : Int64))), (.long (f2_0 ((f2_0 q0) * (f3_0 (-4265267296055464877 : Int64)))))])) st4 ?_
  refine own_go (T' := T4) (g' := (mkF m 35 #[.val (.long q0), .second, .val (.long (f2_0 q0)), .second, .val (.long ((f2_0 q0) * (f3_0 (-4265267296055464877 : Int64)))), .second, .val (.long (f2_0 ((f2_0 q0) * (f3_0 (-4265267296055464877 : Int64))))), .second, .val (.long ((f2_0 ((f2_0 q0) * (f3_0 (-4265267296055464877 : Int64)))) * (f3_0 (-49064778989728563 : Int64)))), .second] [(.long ((f2_0 ((f2_0 q0) * (f3_0 (-4265267296055464877 : Int64)))) * (f3_0 (-49064778989728563 : Int64))))])) (fun t k => ?_) ?_
  · show Steps p.tables e below (T4.setTop (mkF m 30 #[.val (.long q0), .second, .val (.long (f2_0 q0)), .second, .val (.long ((f2_0 q0) * (f3_0 (-4265267296055464877 : Int64)))), .second, .val (.long (f2_0 ((f2_0 q0) * (f3_0 (-4265267296055464877 : Int64))))), .second, .unset, .unset] [(.long (f3_0 (-49064778989728563 : Int64))), (.long (f2_0 ((f2_0 q0) * (f3_0 (-4265267296055464877 : Int64)))))])) t
    refine XS.lmul X4.here hx rfl (hb hby d1_30) rfl ?_
    show Steps p.tables e below (T4.setTop (mkF m 31 #[.val (.long q0), .second, .val (.long (f2_0 q0)), .second, .val (.long ((f2_0 q0) * (f3_0 (-4265267296055464877 : Int64)))), .second, .val (.long (f2_0 ((f2_0 q0) * (f3_0 (-4265267296055464877 : Int64))))), .second, .unset, .unset] [(.long ((f2_0 ((f2_0 q0) * (f3_0 (-4265267296055464877 : Int64)))) * (f3_0 (-49064778989728563 : Int64))))])) _
    refine XS.lstore X4.here hx rfl (hb hby d1_31) rfl (l' := #[.val (.long q0), .second, .val (.long (f2_0 q0)), .second, .val (.long ((f2_0 q0) * (f3_0 (-4265267296055464877 : Int64)))), .second, .val (.long (f2_0 ((f2_0 q0) * (f3_0 (-4265267296055464877 : Int64))))), .second, .val (.long ((f2_0 ((f2_0 q0) * (f3_0 (-4265267296055464877 : Int64)))) * (f3_0 (-49064778989728563 : Int64)))), .second]) rfl ?_
    show Steps p.tables e below (T4.setTop (mkF m 33 #[.val (.long q0), .second, .val (.long (f2_0 q0)), .second, .val (.long ((f2_0 q0) * (f3_0 (-4265267296055464877 : Int64)))), .second, .val (.long (f2_0 ((f2_0 q0) * (f3_0 (-4265267296055464877 : Int64))))), .second, .val (.long ((f2_0 ((f2_0 q0) * (f3_0 (-4265267296055464877 : Int64)))) * (f3_0 (-49064778989728563 : Int64)))), .second] [])) _
    refine XS.lload X4.here hx rfl (hb hby d1_33) rfl ?_
    show Steps p.tables e below (T4.setTop (mkF m 35 #[.val (.long q0), .second, .val (.long (f2_0 q0)), .second, .val (.long ((f2_0 q0) * (f3_0 (-4265267296055464877 : Int64)))), .second, .val (.long (f2_0 ((f2_0 q0) * (f3_0 (-4265267296055464877 : Int64))))), .second, .val (.long ((f2_0 ((f2_0 q0) * (f3_0 (-4265267296055464877 : Int64)))) * (f3_0 (-49064778989728563 : Int64)))), .second] [(.long ((f2_0 ((f2_0 q0) * (f3_0 (-4265267296055464877 : Int64)))) * (f3_0 (-49064778989728563 : Int64))))])) _
    exact k
  obtain ⟨_, T5, L5, X5, N5, ⟨rfl, e5⟩, st5⟩ := own_callS X4 hx hZ hown (hw _ (List.mem_of_getElem? (i := 4) rfl)) (hw _ (List.mem_of_getElem? (i := 5) rfl)) (hw _ (List.mem_of_getElem? (i := 2) rfl)) (hw _ (List.mem_of_getElem? (i := 6) rfl)) (by decide) (argsL := [(.long ((f2_0 ((f2_0 q0) * (f3_0 (-4265267296055464877 : Int64)))) * (f3_0 (-49064778989728563 : Int64))))]) (rest := []) (rm2 l Z a0 hw ((f2_0 ((f2_0 q0) * (f3_0 (-4265267296055464877 : Int64)))) * (f3_0 (-49064778989728563 : Int64))) h0 n0) (W := 0) (by decide) (by decide) (g := (mkF m 35 #[.val (.long q0), .second, .val (.long (f2_0 q0)), .second, .val (.long ((f2_0 q0) * (f3_0 (-4265267296055464877 : Int64)))), .second, .val (.long (f2_0 ((f2_0 q0) * (f3_0 (-4265267296055464877 : Int64))))), .second, .val (.long ((f2_0 ((f2_0 q0) * (f3_0 (-4265267296055464877 : Int64)))) * (f3_0 (-49064778989728563 : Int64)))), .second] [(.long ((f2_0 ((f2_0 q0) * (f3_0 (-4265267296055464877 : Int64)))) * (f3_0 (-49064778989728563 : Int64))))])) rfl (by rw [hml]; rfl) pd_0 rfl rfl (by show 2 * 0 + _ ≤ _; exact Nat.le_of_eq rfl) (hb hby d1_35) e4 (by decide) (by decide) N4
  refine own_go (T' := T5) (g' := (mkF m 38 #[.val (.long q0), .second, .val (.long (f2_0 q0)), .second, .val (.long ((f2_0 q0) * (f3_0 (-4265267296055464877 : Int64)))), .second, .val (.long (f2_0 ((f2_0 q0) * (f3_0 (-4265267296055464877 : Int64))))), .second, .val (.long ((f2_0 ((f2_0 q0) * (f3_0 (-4265267296055464877 : Int64)))) * (f3_0 (-49064778989728563 : Int64)))), .second] [(.long (f2_0 ((f2_0 ((f2_0 q0) * (f3_0 (-4265267296055464877 : Int64)))) * (f3_0 (-49064778989728563 : Int64)))))])) st5 ?_
  exact own_retJ X5 hx hlk hret (hb hby d1_38) (by decide) (by decide) N5 ⟨rfl, e5⟩
def f4_35 (q0 : Int64) (v2 : Int64) : Int32 := ((v2.toInt32) ^^^ (((v2.toUInt64 >>> ((32 : Int32) &&& 0x3f).toInt64.toUInt64).toInt64).toInt32))
def f4_28 (q0 : Int64) (v2 : Int64) : Int32 := (f4_35 q0 (v2 ^^^ ((v2.toUInt64 >>> ((33 : Int32) &&& 0x3f).toInt64.toUInt64).toInt64)))
def f4_22 (q0 : Int64) (v2 : Int64) : Int32 := (f4_28 q0 (v2 * (-4265267296055464877 : Int64)))
def f4_15 (q0 : Int64) (v2 : Int64) : Int32 := (f4_22 q0 (v2 ^^^ ((v2.toUInt64 >>> ((33 : Int32) &&& 0x3f).toInt64.toUInt64).toInt64)))
def f4_9 (q0 : Int64) (v2 : Int64) : Int32 := (f4_15 q0 (v2 * (-49064778989728563 : Int64)))
def f4_0 (q0 : Int64) : Int32 := (f4_9 q0 (q0 ^^^ ((q0.toUInt64 >>> ((33 : Int32) &&& 0x3f).toInt64.toUInt64).toInt64)))
abbrev own_r4 : Room := { frames := 0, cells := 0, slots := 0, locals := 0 }
theorem d4_0 : decode prog_27_method_2_code 0 = .ok (.lload_n 0, 1) := by decide +kernel
theorem d4_1 : decode prog_27_method_2_code 1 = .ok (.lstore_n 2, 1) := by decide +kernel
theorem d4_2 : decode prog_27_method_2_code 2 = .ok (.lload_n 2, 1) := by decide +kernel
theorem d4_3 : decode prog_27_method_2_code 3 = .ok (.lload_n 2, 1) := by decide +kernel
theorem d4_4 : decode prog_27_method_2_code 4 = .ok (.bipush 33, 2) := by decide +kernel
theorem d4_6 : decode prog_27_method_2_code 6 = .ok (.lushr, 1) := by decide +kernel
theorem d4_7 : decode prog_27_method_2_code 7 = .ok (.lxor, 1) := by decide +kernel
theorem d4_8 : decode prog_27_method_2_code 8 = .ok (.lstore_n 2, 1) := by decide +kernel
theorem d4_9 : decode prog_27_method_2_code 9 = .ok (.lload_n 2, 1) := by decide +kernel
theorem d4_10 : decode prog_27_method_2_code 10 = .ok (.ldc2_w 24, 3) := by decide +kernel
theorem d4_13 : decode prog_27_method_2_code 13 = .ok (.lmul, 1) := by decide +kernel
theorem d4_14 : decode prog_27_method_2_code 14 = .ok (.lstore_n 2, 1) := by decide +kernel
theorem d4_15 : decode prog_27_method_2_code 15 = .ok (.lload_n 2, 1) := by decide +kernel
theorem d4_16 : decode prog_27_method_2_code 16 = .ok (.lload_n 2, 1) := by decide +kernel
theorem d4_17 : decode prog_27_method_2_code 17 = .ok (.bipush 33, 2) := by decide +kernel
theorem d4_19 : decode prog_27_method_2_code 19 = .ok (.lushr, 1) := by decide +kernel
theorem d4_20 : decode prog_27_method_2_code 20 = .ok (.lxor, 1) := by decide +kernel
theorem d4_21 : decode prog_27_method_2_code 21 = .ok (.lstore_n 2, 1) := by decide +kernel
theorem d4_22 : decode prog_27_method_2_code 22 = .ok (.lload_n 2, 1) := by decide +kernel
theorem d4_23 : decode prog_27_method_2_code 23 = .ok (.ldc2_w 26, 3) := by decide +kernel
theorem d4_26 : decode prog_27_method_2_code 26 = .ok (.lmul, 1) := by decide +kernel
theorem d4_27 : decode prog_27_method_2_code 27 = .ok (.lstore_n 2, 1) := by decide +kernel
theorem d4_28 : decode prog_27_method_2_code 28 = .ok (.lload_n 2, 1) := by decide +kernel
theorem d4_29 : decode prog_27_method_2_code 29 = .ok (.lload_n 2, 1) := by decide +kernel
theorem d4_30 : decode prog_27_method_2_code 30 = .ok (.bipush 33, 2) := by decide +kernel
theorem d4_32 : decode prog_27_method_2_code 32 = .ok (.lushr, 1) := by decide +kernel
theorem d4_33 : decode prog_27_method_2_code 33 = .ok (.lxor, 1) := by decide +kernel
theorem d4_34 : decode prog_27_method_2_code 34 = .ok (.lstore_n 2, 1) := by decide +kernel
theorem d4_35 : decode prog_27_method_2_code 35 = .ok (.lload_n 2, 1) := by decide +kernel
theorem d4_36 : decode prog_27_method_2_code 36 = .ok (.l2i, 1) := by decide +kernel
theorem d4_37 : decode prog_27_method_2_code 37 = .ok (.lload_n 2, 1) := by decide +kernel
theorem d4_38 : decode prog_27_method_2_code 38 = .ok (.bipush 32, 2) := by decide +kernel
theorem d4_40 : decode prog_27_method_2_code 40 = .ok (.lushr, 1) := by decide +kernel
theorem d4_41 : decode prog_27_method_2_code 41 = .ok (.l2i, 1) := by decide +kernel
theorem d4_42 : decode prog_27_method_2_code 42 = .ok (.ixor, 1) := by decide +kernel
theorem d4_43 : decode prog_27_method_2_code 43 = .ok (.ireturn, 1) := by decide +kernel
theorem ef_4 (m : MethodId) (q0 : Int64) : entryFrame m #[(.long q0)] 4 = mkF m 0 #[.val (.long q0), .second, .unset, .unset] [] := by first | (simp [entryFrame, mkF, argsToLocals, Value.category]; done) | rfl
set_option maxRecDepth 65536 in
set_option maxHeartbeats 40000000 in
theorem rm4 (l : Launch) (Z : State) (a0 : Array Value) (hw : ∀ d ∈ tables_1, d.before a0 Z = true) (q0 : Int64) (h0 : Heap) (n0 : Nat) : own_Con [] l Z (⟨"com/example/querent/querent/engine/IdTable", "hash", "(J)I"⟩ : MethodName) prog_27_method_2_code 4 (some .int) own_r4 n0 #[(.long q0)] h0 (own_P (.int (f4_0 q0)) h0) := by
  refine own_body (plainFor_of_name (by first | (simp [plainName, overriddenIn]; done) | decide +kernel)) (fun m => mkF m 0 #[.val (.long q0), .second, .unset, .unset] []) (fun m => ef_4 m q0) ?_
  intro p e s m below meth c s₁ hx hby hml hown hnm hZ hret hlk X0 e0 N0
  have w_f4_35 : ∀ {T : State} {locs : List Loc} (X : Stand p l e own_r4 s m #[(.long q0)] below meth c T locs 0 0) (eT : T.heap = h0) (N : Fr n0 locs) (v2 : Int64), own_Ends p e below s n0 own_r4.cells own_r4.slots T (mkF m 35 #[.val (.long q0), .second, .val (.long v2), .second] []) (own_P (.int (f4_35 q0 v2)) h0) := by
    intro T locs X eT N v2
    show own_Ends p e below s n0 _ _ _ _ (own_P (.int ((v2.toInt32) ^^^ (((v2.toUInt64 >>> ((32 : Int32) &&& 0x3f).toInt64.toUInt64).toInt64).toInt32))) h0)
    refine own_go (T' := T) (g' := (mkF m 43 #[.val (.long q0), .second, .val (.long v2), .second] [(.int ((v2.toInt32) ^^^ (((v2.toUInt64 >>> ((32 : Int32) &&& 0x3f).toInt64.toUInt64).toInt64).toInt32)))])) (fun t k => ?_) ?_
    · show Steps p.tables e below (T.setTop (mkF m 35 #[.val (.long q0), .second, .val (.long v2), .second] [])) t
      refine XS.lloadN X.here hx rfl (hb hby d4_35) rfl ?_
      show Steps p.tables e below (T.setTop (mkF m 36 #[.val (.long q0), .second, .val (.long v2), .second] [(.long v2)])) _
      refine XS.l2i X.here hx rfl (hb hby d4_36) rfl ?_
      show Steps p.tables e below (T.setTop (mkF m 37 #[.val (.long q0), .second, .val (.long v2), .second] [(.int (v2.toInt32))])) _
      refine XS.lloadN X.here hx rfl (hb hby d4_37) rfl ?_
      show Steps p.tables e below (T.setTop (mkF m 38 #[.val (.long q0), .second, .val (.long v2), .second] [(.long v2), (.int (v2.toInt32))])) _
      refine XS.bipush X.here hx rfl (hb hby d4_38) ?_
      show Steps p.tables e below (T.setTop (mkF m 40 #[.val (.long q0), .second, .val (.long v2), .second] [(.int (32 : Int32)), (.long v2), (.int (v2.toInt32))])) _
      refine XS.lushr X.here hx rfl (hb hby d4_40) rfl ?_
      show Steps p.tables e below (T.setTop (mkF m 41 #[.val (.long q0), .second, .val (.long v2), .second] [(.long ((v2.toUInt64 >>> ((32 : Int32) &&& 0x3f).toInt64.toUInt64).toInt64)), (.int (v2.toInt32))])) _
      refine XS.l2i X.here hx rfl (hb hby d4_41) rfl ?_
      show Steps p.tables e below (T.setTop (mkF m 42 #[.val (.long q0), .second, .val (.long v2), .second] [(.int (((v2.toUInt64 >>> ((32 : Int32) &&& 0x3f).toInt64.toUInt64).toInt64).toInt32)), (.int (v2.toInt32))])) _
      refine XS.ixor X.here hx rfl (hb hby d4_42) rfl ?_
      show Steps p.tables e below (T.setTop (mkF m 43 #[.val (.long q0), .second, .val (.long v2), .second] [(.int ((v2.toInt32) ^^^ (((v2.toUInt64 >>> ((32 : Int32) &&& 0x3f).toInt64.toUInt64).toInt64).toInt32)))])) _
      exact k
    exact own_retI X hx hlk hret (hb hby d4_43) (by decide) (by decide) N ⟨rfl, eT⟩
  have w_f4_28 : ∀ {T : State} {locs : List Loc} (X : Stand p l e own_r4 s m #[(.long q0)] below meth c T locs 0 0) (eT : T.heap = h0) (N : Fr n0 locs) (v2 : Int64), own_Ends p e below s n0 own_r4.cells own_r4.slots T (mkF m 28 #[.val (.long q0), .second, .val (.long v2), .second] []) (own_P (.int (f4_28 q0 v2)) h0) := by
    intro T locs X eT N v2
    show own_Ends p e below s n0 _ _ _ _ (own_P (.int (f4_35 q0 (v2 ^^^ ((v2.toUInt64 >>> ((33 : Int32) &&& 0x3f).toInt64.toUInt64).toInt64)))) h0)
    refine own_go (T' := T) (g' := (mkF m 35 #[.val (.long q0), .second, .val (.long (v2 ^^^ ((v2.toUInt64 >>> ((33 : Int32) &&& 0x3f).toInt64.toUInt64).toInt64))), .second] [])) (fun t k => ?_) ?_
    · show Steps p.tables e below (T.setTop (mkF m 28 #[.val (.long q0), .second, .val (.long v2), .second] [])) t
      refine XS.lloadN X.here hx rfl (hb hby d4_28) rfl ?_
      show Steps p.tables e below (T.setTop (mkF m 29 #[.val (.long q0), .second, .val (.long v2), .second] [(.long v2)])) _
      refine XS.lloadN X.here hx rfl (hb hby d4_29) rfl ?_
      show Steps p.tables e below (T.setTop (mkF m 30 #[.val (.long q0), .second, .val (.long v2), .second] [(.long v2), (.long v2)])) _
      refine XS.bipush X.here hx rfl (hb hby d4_30) ?_
      show Steps p.tables e below (T.setTop (mkF m 32 #[.val (.long q0), .second, .val (.long v2), .second] [(.int (33 : Int32)), (.long v2), (.long v2)])) _
      refine XS.lushr X.here hx rfl (hb hby d4_32) rfl ?_
      show Steps p.tables e below (T.setTop (mkF m 33 #[.val (.long q0), .second, .val (.long v2), .second] [(.long ((v2.toUInt64 >>> ((33 : Int32) &&& 0x3f).toInt64.toUInt64).toInt64)), (.long v2)])) _
      refine XS.lxor X.here hx rfl (hb hby d4_33) rfl ?_
      show Steps p.tables e below (T.setTop (mkF m 34 #[.val (.long q0), .second, .val (.long v2), .second] [(.long (v2 ^^^ ((v2.toUInt64 >>> ((33 : Int32) &&& 0x3f).toInt64.toUInt64).toInt64)))])) _
      refine XS.lstoreN X.here hx rfl (hb hby d4_34) rfl (l' := #[.val (.long q0), .second, .val (.long (v2 ^^^ ((v2.toUInt64 >>> ((33 : Int32) &&& 0x3f).toInt64.toUInt64).toInt64))), .second]) rfl ?_
      show Steps p.tables e below (T.setTop (mkF m 35 #[.val (.long q0), .second, .val (.long (v2 ^^^ ((v2.toUInt64 >>> ((33 : Int32) &&& 0x3f).toInt64.toUInt64).toInt64))), .second] [])) _
      exact k
    exact w_f4_35 X eT N (v2 ^^^ ((v2.toUInt64 >>> ((33 : Int32) &&& 0x3f).toInt64.toUInt64).toInt64))
  have w_f4_22 : ∀ {T : State} {locs : List Loc} (X : Stand p l e own_r4 s m #[(.long q0)] below meth c T locs 0 0) (eT : T.heap = h0) (N : Fr n0 locs) (v2 : Int64), own_Ends p e below s n0 own_r4.cells own_r4.slots T (mkF m 22 #[.val (.long q0), .second, .val (.long v2), .second] []) (own_P (.int (f4_22 q0 v2)) h0) := by
    intro T locs X eT N v2
    show own_Ends p e below s n0 _ _ _ _ (own_P (.int (f4_28 q0 (v2 * (-4265267296055464877 : Int64)))) h0)
    refine own_go (T' := T) (g' := (mkF m 28 #[.val (.long q0), .second, .val (.long (v2 * (-4265267296055464877 : Int64))), .second] [])) (fun t k => ?_) ?_
    · show Steps p.tables e below (T.setTop (mkF m 22 #[.val (.long q0), .second, .val (.long v2), .second] [])) t
      refine XS.lloadN X.here hx rfl (hb hby d4_22) rfl ?_
      show Steps p.tables e below (T.setTop (mkF m 23 #[.val (.long q0), .second, .val (.long v2), .second] [(.long v2)])) _
      refine X.ldc2Long hx hown (mvT hZ (hw _ (List.mem_of_getElem? (i := 18) rfl))) (g := (mkF m 23 #[.val (.long q0), .second, .val (.long v2), .second] [(.long v2)])) rfl (hb hby d4_23) _ ?_
      show Steps p.tables e below (T.setTop (mkF m 26 #[.val (.long q0), .second, .val (.long v2), .second] [(.long (-4265267296055464877 : Int64)), (.long v2)])) _
      refine XS.lmul X.here hx rfl (hb hby d4_26) rfl ?_
      show Steps p.tables e below (T.setTop (mkF m 27 #[.val (.long q0), .second, .val (.long v2), .second] [(.long (v2 * (-4265267296055464877 : Int64)))])) _
      refine XS.lstoreN X.here hx rfl (hb hby d4_27) rfl (l' := #[.val (.long q0), .second, .val (.long (v2 * (-4265267296055464877 : Int64))), .second]) rfl ?_
      show Steps p.tables e below (T.setTop (mkF m 28 #[.val (.long q0), .second, .val (.long (v2 * (-4265267296055464877 : Int64))), .second] [])) _
      exact k
    exact w_f4_28 X eT N (v2 * (-4265267296055464877 : Int64))
  have w_f4_15 : ∀ {T : State} {locs : List Loc} (X : Stand p l e own_r4 s m #[(.long q0)] below meth c T locs 0 0) (eT : T.heap = h0) (N : Fr n0 locs) (v2 : Int64), own_Ends p e below s n0 own_r4.cells own_r4.slots T (mkF m 15 #[.val (.long q0), .second, .val (.long v2), .second] []) (own_P (.int (f4_15 q0 v2)) h0) := by
    intro T locs X eT N v2
    show own_Ends p e below s n0 _ _ _ _ (own_P (.int (f4_22 q0 (v2 ^^^ ((v2.toUInt64 >>> ((33 : Int32) &&& 0x3f).toInt64.toUInt64).toInt64)))) h0)
    refine own_go (T' := T) (g' := (mkF m 22 #[.val (.long q0), .second, .val (.long (v2 ^^^ ((v2.toUInt64 >>> ((33 : Int32) &&& 0x3f).toInt64.toUInt64).toInt64))), .second] [])) (fun t k => ?_) ?_
    · show Steps p.tables e below (T.setTop (mkF m 15 #[.val (.long q0), .second, .val (.long v2), .second] [])) t
      refine XS.lloadN X.here hx rfl (hb hby d4_15) rfl ?_
      show Steps p.tables e below (T.setTop (mkF m 16 #[.val (.long q0), .second, .val (.long v2), .second] [(.long v2)])) _
      refine XS.lloadN X.here hx rfl (hb hby d4_16) rfl ?_
      show Steps p.tables e below (T.setTop (mkF m 17 #[.val (.long q0), .second, .val (.long v2), .second] [(.long v2), (.long v2)])) _
      refine XS.bipush X.here hx rfl (hb hby d4_17) ?_
      show Steps p.tables e below (T.setTop (mkF m 19 #[.val (.long q0), .second, .val (.long v2), .second] [(.int (33 : Int32)), (.long v2), (.long v2)])) _
      refine XS.lushr X.here hx rfl (hb hby d4_19) rfl ?_
      show Steps p.tables e below (T.setTop (mkF m 20 #[.val (.long q0), .second, .val (.long v2), .second] [(.long ((v2.toUInt64 >>> ((33 : Int32) &&& 0x3f).toInt64.toUInt64).toInt64)), (.long v2)])) _
      refine XS.lxor X.here hx rfl (hb hby d4_20) rfl ?_
      show Steps p.tables e below (T.setTop (mkF m 21 #[.val (.long q0), .second, .val (.long v2), .second] [(.long (v2 ^^^ ((v2.toUInt64 >>> ((33 : Int32) &&& 0x3f).toInt64.toUInt64).toInt64)))])) _
      refine XS.lstoreN X.here hx rfl (hb hby d4_21) rfl (l' := #[.val (.long q0), .second, .val (.long (v2 ^^^ ((v2.toUInt64 >>> ((33 : Int32) &&& 0x3f).toInt64.toUInt64).toInt64))), .second]) rfl ?_
      show Steps p.tables e below (T.setTop (mkF m 22 #[.val (.long q0), .second, .val (.long (v2 ^^^ ((v2.toUInt64 >>> ((33 : Int32) &&& 0x3f).toInt64.toUInt64).toInt64))), .second] [])) _
      exact k
    exact w_f4_22 X eT N (v2 ^^^ ((v2.toUInt64 >>> ((33 : Int32) &&& 0x3f).toInt64.toUInt64).toInt64))
  have w_f4_9 : ∀ {T : State} {locs : List Loc} (X : Stand p l e own_r4 s m #[(.long q0)] below meth c T locs 0 0) (eT : T.heap = h0) (N : Fr n0 locs) (v2 : Int64), own_Ends p e below s n0 own_r4.cells own_r4.slots T (mkF m 9 #[.val (.long q0), .second, .val (.long v2), .second] []) (own_P (.int (f4_9 q0 v2)) h0) := by
    intro T locs X eT N v2
    show own_Ends p e below s n0 _ _ _ _ (own_P (.int (f4_15 q0 (v2 * (-49064778989728563 : Int64)))) h0)
    refine own_go (T' := T) (g' := (mkF m 15 #[.val (.long q0), .second, .val (.long (v2 * (-49064778989728563 : Int64))), .second] [])) (fun t k => ?_) ?_
    · show Steps p.tables e below (T.setTop (mkF m 9 #[.val (.long q0), .second, .val (.long v2), .second] [])) t
      refine XS.lloadN X.here hx rfl (hb hby d4_9) rfl ?_
      show Steps p.tables e below (T.setTop (mkF m 10 #[.val (.long q0), .second, .val (.long v2), .second] [(.long v2)])) _
      refine X.ldc2Long hx hown (mvT hZ (hw _ (List.mem_of_getElem? (i := 17) rfl))) (g := (mkF m 10 #[.val (.long q0), .second, .val (.long v2), .second] [(.long v2)])) rfl (hb hby d4_10) _ ?_
      show Steps p.tables e below (T.setTop (mkF m 13 #[.val (.long q0), .second, .val (.long v2), .second] [(.long (-49064778989728563 : Int64)), (.long v2)])) _
      refine XS.lmul X.here hx rfl (hb hby d4_13) rfl ?_
      show Steps p.tables e below (T.setTop (mkF m 14 #[.val (.long q0), .second, .val (.long v2), .second] [(.long (v2 * (-49064778989728563 : Int64)))])) _
      refine XS.lstoreN X.here hx rfl (hb hby d4_14) rfl (l' := #[.val (.long q0), .second, .val (.long (v2 * (-49064778989728563 : Int64))), .second]) rfl ?_
      show Steps p.tables e below (T.setTop (mkF m 15 #[.val (.long q0), .second, .val (.long (v2 * (-49064778989728563 : Int64))), .second] [])) _
      exact k
    exact w_f4_15 X eT N (v2 * (-49064778989728563 : Int64))
  show own_Ends p e below s n0 _ _ _ _ (own_P (.int (f4_9 q0 (q0 ^^^ ((q0.toUInt64 >>> ((33 : Int32) &&& 0x3f).toInt64.toUInt64).toInt64)))) h0)
  refine own_go (T' := s₁) (g' := (mkF m 9 #[.val (.long q0), .second, .val (.long (q0 ^^^ ((q0.toUInt64 >>> ((33 : Int32) &&& 0x3f).toInt64.toUInt64).toInt64))), .second] [])) (fun t k => ?_) ?_
  · show Steps p.tables e below (s₁.setTop (mkF m 0 #[.val (.long q0), .second, .unset, .unset] [])) t
    refine XS.lloadN X0.here hx rfl (hb hby d4_0) rfl ?_
    show Steps p.tables e below (s₁.setTop (mkF m 1 #[.val (.long q0), .second, .unset, .unset] [(.long q0)])) _
    refine XS.lstoreN X0.here hx rfl (hb hby d4_1) rfl (l' := #[.val (.long q0), .second, .val (.long q0), .second]) rfl ?_
    show Steps p.tables e below (s₁.setTop (mkF m 2 #[.val (.long q0), .second, .val (.long q0), .second] [])) _
    refine XS.lloadN X0.here hx rfl (hb hby d4_2) rfl ?_
    show Steps p.tables e below (s₁.setTop (mkF m 3 #[.val (.long q0), .second, .val (.long q0), .second] [(.long q0)])) _
    refine XS.lloadN X0.here hx rfl (hb hby d4_3) rfl ?_
    show Steps p.tables e below (s₁.setTop (mkF m 4 #[.val (.long q0), .second, .val (.long q0), .second] [(.long q0), (.long q0)])) _
    refine XS.bipush X0.here hx rfl (hb hby d4_4) ?_
    show Steps p.tables e below (s₁.setTop (mkF m 6 #[.val (.long q0), .second, .val (.long q0), .second] [(.int (33 : Int32)), (.long q0), (.long q0)])) _
    refine XS.lushr X0.here hx rfl (hb hby d4_6) rfl ?_
    show Steps p.tables e below (s₁.setTop (mkF m 7 #[.val (.long q0), .second, .val (.long q0), .second] [(.long ((q0.toUInt64 >>> ((33 : Int32) &&& 0x3f).toInt64.toUInt64).toInt64)), (.long q0)])) _
    refine XS.lxor X0.here hx rfl (hb hby d4_7) rfl ?_
    show Steps p.tables e below (s₁.setTop (mkF m 8 #[.val (.long q0), .second, .val (.long q0), .second] [(.long (q0 ^^^ ((q0.toUInt64 >>> ((33 : Int32) &&& 0x3f).toInt64.toUInt64).toInt64)))])) _
    refine XS.lstoreN X0.here hx rfl (hb hby d4_8) rfl (l' := #[.val (.long q0), .second, .val (.long (q0 ^^^ ((q0.toUInt64 >>> ((33 : Int32) &&& 0x3f).toInt64.toUInt64).toInt64))), .second]) rfl ?_
    show Steps p.tables e below (s₁.setTop (mkF m 9 #[.val (.long q0), .second, .val (.long (q0 ^^^ ((q0.toUInt64 >>> ((33 : Int32) &&& 0x3f).toInt64.toUInt64).toInt64))), .second] [])) _
    exact k
  exact w_f4_9 X0 e0 N0 (q0 ^^^ ((q0.toUInt64 >>> ((33 : Int32) &&& 0x3f).toInt64.toUInt64).toInt64))
def f0_0 (q0 : Int64) : Int32 := (if (f4_0 (f1_0 q0)) = ((q0.toInt32) ^^^ (((q0.toUInt64 >>> ((32 : Int32) &&& 0x3f).toInt64.toUInt64).toInt64).toInt32)) then (1 : Int32) else (0 : Int32))
theorem pd_1 : parseMethodDescriptor "(J)I" = some ⟨[.long], some .int⟩ := by decide +kernel
theorem ef_0 (m : MethodId) (q0 : Int64) : entryFrame m #[(.long q0)] maxLocals = mkF m 0 #[.val (.long q0), .second, .unset, .unset, .unset] [] := by first | (simp [entryFrame, mkF, argsToLocals, Value.category, maxLocals]; done) | rfl
set_option maxRecDepth 65536 in
set_option maxHeartbeats 40000000 in
theorem rm0 (l : Launch) (Z : State) (a0 : Array Value) (hw : ∀ d ∈ tables_1, d.before a0 Z = true) (q0 : Int64) (h0 : Heap) (n0 : Nat) : own_Con tables_1 l Z x code maxLocals ret room_1 n0 #[(.long q0)] h0 (own_P (.int (f0_0 q0)) h0) := by
  refine own_body (plainFor_of_name (by first | (simp [plainName, overriddenIn]; done) | decide +kernel)) (fun m => mkF m 0 #[.val (.long q0), .second, .unset, .unset, .unset] []) (fun m => ef_0 m q0) ?_
  intro p e s m below meth c s₁ hx hby hml hown hnm hZ hret hlk X0 e0 N0
  have hml : c.maxLocals = 5 := hml
  have hown : s.vm.findClass "com/example/querent/querent/engine/IdTableHashPinLaw" = some m.cls := hown
  have hret : meth.sig.returnType = some .boolean := hret
  show own_Ends p e below s n0 _ _ _ _ (own_P (.int (if (f4_0 (f1_0 q0)) = ((q0.toInt32) ^^^ (((q0.toUInt64 >>> ((32 : Int32) &&& 0x3f).toInt64.toUInt64).toInt64).toInt32)) then (1 : Int32) else (0 : Int32))) h0)
  refine own_go (T' := s₁) (g' := (mkF m 1 #[.val (.long q0), .second, .unset, .unset, .unset] [(.long q0)])) (fun t k => ?_) ?_
  · show Steps p.tables e below (s₁.setTop (mkF m 0 #[.val (.long q0), .second, .unset, .unset, .unset] [])) t
    refine XS.lloadN X0.here hx rfl (hb hby at_0) rfl ?_
    show Steps p.tables e below (s₁.setTop (mkF m 1 #[.val (.long q0), .second, .unset, .unset, .unset] [(.long q0)])) _
    exact k
  obtain ⟨_, T1, L1, X1, N1, ⟨rfl, e1⟩, st1⟩ := own_callS X0 hx hZ hown (hw _ (List.mem_of_getElem? (i := 0) rfl)) (hw _ (List.mem_of_getElem? (i := 1) rfl)) (hw _ (List.mem_of_getElem? (i := 2) rfl)) (hw _ (List.mem_of_getElem? (i := 3) rfl)) (by decide) (argsL := [(.long q0)]) (rest := []) (rm1 l Z a0 hw q0 h0 n0) (W := 0) (by decide) (by decide) (g := (mkF m 1 #[.val (.long q0), .second, .unset, .unset, .unset] [(.long q0)])) rfl (by rw [hml]; rfl) pd_0 rfl rfl (by show 2 * 0 + _ ≤ _; exact Nat.le_of_eq rfl) (hb hby at_1) e0 (by decide) (by decide) N0
  refine own_go (T' := T1) (g' := (mkF m 4 #[.val (.long q0), .second, .unset, .unset, .unset] [(.long (f1_0 q0))])) st1 ?_
  refine own_go (T' := T1) (g' := (mkF m 16 #[.val (.long q0), .second, .val (.long (f1_0 q0)), .second, .val (.int ((q0.toInt32) ^^^ (((q0.toUInt64 >>> ((32 : Int32) &&& 0x3f).toInt64.toUInt64).toInt64).toInt32)))] [(.long (f1_0 q0))])) (fun t k => ?_) ?_
  · show Steps p.tables e below (T1.setTop (mkF m 4 #[.val (.long q0), .second, .unset, .unset, .unset] [(.long (f1_0 q0))])) t
    refine XS.lstoreN X1.here hx rfl (hb hby at_4) rfl (l' := #[.val (.long q0), .second, .val (.long (f1_0 q0)), .second, .unset]) rfl ?_
    show Steps p.tables e below (T1.setTop (mkF m 5 #[.val (.long q0), .second, .val (.long (f1_0 q0)), .second, .unset] [])) _
    refine XS.lloadN X1.here hx rfl (hb hby at_5) rfl ?_
    show Steps p.tables e below (T1.setTop (mkF m 6 #[.val (.long q0), .second, .val (.long (f1_0 q0)), .second, .unset] [(.long q0)])) _
    refine XS.l2i X1.here hx rfl (hb hby at_6) rfl ?_
    show Steps p.tables e below (T1.setTop (mkF m 7 #[.val (.long q0), .second, .val (.long (f1_0 q0)), .second, .unset] [(.int (q0.toInt32))])) _
    refine XS.lloadN X1.here hx rfl (hb hby at_7) rfl ?_
    show Steps p.tables e below (T1.setTop (mkF m 8 #[.val (.long q0), .second, .val (.long (f1_0 q0)), .second, .unset] [(.long q0), (.int (q0.toInt32))])) _
    refine XS.bipush X1.here hx rfl (hb hby at_8) ?_
    show Steps p.tables e below (T1.setTop (mkF m 10 #[.val (.long q0), .second, .val (.long (f1_0 q0)), .second, .unset] [(.int (32 : Int32)), (.long q0), (.int (q0.toInt32))])) _
    refine XS.lushr X1.here hx rfl (hb hby at_10) rfl ?_
    show Steps p.tables e below (T1.setTop (mkF m 11 #[.val (.long q0), .second, .val (.long (f1_0 q0)), .second, .unset] [(.long ((q0.toUInt64 >>> ((32 : Int32) &&& 0x3f).toInt64.toUInt64).toInt64)), (.int (q0.toInt32))])) _
    refine XS.l2i X1.here hx rfl (hb hby at_11) rfl ?_
    show Steps p.tables e below (T1.setTop (mkF m 12 #[.val (.long q0), .second, .val (.long (f1_0 q0)), .second, .unset] [(.int (((q0.toUInt64 >>> ((32 : Int32) &&& 0x3f).toInt64.toUInt64).toInt64).toInt32)), (.int (q0.toInt32))])) _
    refine XS.ixor X1.here hx rfl (hb hby at_12) rfl ?_
    show Steps p.tables e below (T1.setTop (mkF m 13 #[.val (.long q0), .second, .val (.long (f1_0 q0)), .second, .unset] [(.int ((q0.toInt32) ^^^ (((q0.toUInt64 >>> ((32 : Int32) &&& 0x3f).toInt64.toUInt64).toInt64).toInt32)))])) _
    refine XS.istore X1.here hx rfl (hb hby at_13) rfl (l' := #[.val (.long q0), .second, .val (.long (f1_0 q0)), .second, .val (.int ((q0.toInt32) ^^^ (((q0.toUInt64 >>> ((32 : Int32) &&& 0x3f).toInt64.toUInt64).toInt64).toInt32)))]) rfl ?_
    show Steps p.tables e below (T1.setTop (mkF m 15 #[.val (.long q0), .second, .val (.long (f1_0 q0)), .second, .val (.int ((q0.toInt32) ^^^ (((q0.toUInt64 >>> ((32 : Int32) &&& 0x3f).toInt64.toUInt64).toInt64).toInt32)))] [])) _
    refine XS.lloadN X1.here hx rfl (hb hby at_15) rfl ?_
    show Steps p.tables e below (T1.setTop (mkF m 16 #[.val (.long q0), .second, .val (.long (f1_0 q0)), .second, .val (.int ((q0.toInt32) ^^^ (((q0.toUInt64 >>> ((32 : Int32) &&& 0x3f).toInt64.toUInt64).toInt64).toInt32)))] [(.long (f1_0 q0))])) _
    exact k
  obtain ⟨_, T2, L2, X2, N2, ⟨rfl, e2⟩, st2⟩ := own_callS X1 hx hZ hown (hw _ (List.mem_of_getElem? (i := 13) rfl)) (hw _ (List.mem_of_getElem? (i := 14) rfl)) (hw _ (List.mem_of_getElem? (i := 15) rfl)) (hw _ (List.mem_of_getElem? (i := 16) rfl)) (by decide) (argsL := [(.long (f1_0 q0))]) (rest := []) (rm4 l Z a0 hw (f1_0 q0) h0 n0) (W := 0) (by decide) (by decide) (g := (mkF m 16 #[.val (.long q0), .second, .val (.long (f1_0 q0)), .second, .val (.int ((q0.toInt32) ^^^ (((q0.toUInt64 >>> ((32 : Int32) &&& 0x3f).toInt64.toUInt64).toInt64).toInt32)))] [(.long (f1_0 q0))])) rfl (by rw [hml]; rfl) pd_1 rfl rfl (by show 2 * 0 + _ ≤ _; exact Nat.le_of_eq rfl) (hb hby at_16) e1 (by decide) (by decide) N1
  refine own_go (T' := T2) (g' := (mkF m 19 #[.val (.long q0), .second, .val (.long (f1_0 q0)), .second, .val (.int ((q0.toInt32) ^^^ (((q0.toUInt64 >>> ((32 : Int32) &&& 0x3f).toInt64.toUInt64).toInt64).toInt32)))] [(.int (f4_0 (f1_0 q0)))])) st2 ?_
  refine own_go (T' := T2) (g' := (mkF m 21 #[.val (.long q0), .second, .val (.long (f1_0 q0)), .second, .val (.int ((q0.toInt32) ^^^ (((q0.toUInt64 >>> ((32 : Int32) &&& 0x3f).toInt64.toUInt64).toInt64).toInt32)))] [(.int ((q0.toInt32) ^^^ (((q0.toUInt64 >>> ((32 : Int32) &&& 0x3f).toInt64.toUInt64).toInt64).toInt32))), (.int (f4_0 (f1_0 q0)))])) (fun t k => ?_) ?_
  · show Steps p.tables e below (T2.setTop (mkF m 19 #[.val (.long q0), .second, .val (.long (f1_0 q0)), .second, .val (.int ((q0.toInt32) ^^^ (((q0.toUInt64 >>> ((32 : Int32) &&& 0x3f).toInt64.toUInt64).toInt64).toInt32)))] [(.int (f4_0 (f1_0 q0)))])) t
    refine XS.iload X2.here hx rfl (hb hby at_19) rfl ?_
    show Steps p.tables e below (T2.setTop (mkF m 21 #[.val (.long q0), .second, .val (.long (f1_0 q0)), .second, .val (.int ((q0.toInt32) ^^^ (((q0.toUInt64 >>> ((32 : Int32) &&& 0x3f).toInt64.toUInt64).toInt64).toInt32)))] [(.int ((q0.toInt32) ^^^ (((q0.toUInt64 >>> ((32 : Int32) &&& 0x3f).toInt64.toUInt64).toInt64).toInt32))), (.int (f4_0 (f1_0 q0)))])) _
    exact k
  by_cases hc21_3 : (f4_0 (f1_0 q0)) = ((q0.toInt32) ^^^ (((q0.toUInt64 >>> ((32 : Int32) &&& 0x3f).toInt64.toUInt64).toInt64).toInt32))
  · rw [if_pos hc21_3]
    refine own_go (T' := T2) (g' := (mkF m 24 #[.val (.long q0), .second, .val (.long (f1_0 q0)), .second, .val (.int ((q0.toInt32) ^^^ (((q0.toUInt64 >>> ((32 : Int32) &&& 0x3f).toInt64.toUInt64).toInt64).toInt32)))] [])) (fun t k => ?_) ?_
    · refine XS.icmpNo X2.here hx rfl (hb hby at_21) rfl (teq hc21_3).2 ?_
      exact k
    refine own_go (T' := T2) (g' := (mkF m 29 #[.val (.long q0), .second, .val (.long (f1_0 q0)), .second, .val (.int ((q0.toInt32) ^^^ (((q0.toUInt64 >>> ((32 : Int32) &&& 0x3f).toInt64.toUInt64).toInt64).toInt32)))] [(.int (1 : Int32))])) (fun t k => ?_) ?_
    · show Steps p.tables e below (T2.setTop (mkF m 24 #[.val (.long q0), .second, .val (.long (f1_0 q0)), .second, .val (.int ((q0.toInt32) ^^^ (((q0.toUInt64 >>> ((32 : Int32) &&& 0x3f).toInt64.toUInt64).toInt64).toInt32)))] [])) t
      refine XS.iconst X2.here hx rfl (hb hby at_24) ?_
      show Steps p.tables e below (T2.setTop (mkF m 25 #[.val (.long q0), .second, .val (.long (f1_0 q0)), .second, .val (.int ((q0.toInt32) ^^^ (((q0.toUInt64 >>> ((32 : Int32) &&& 0x3f).toInt64.toUInt64).toInt64).toInt32)))] [(.int (1 : Int32))])) _
      refine XS.goto X2.here hx rfl (pc0 := 25) (pc' := 29) rfl (hb hby at_25) (by decide) (by decide) ?_
      show Steps p.tables e below (T2.setTop (mkF m 29 #[.val (.long q0), .second, .val (.long (f1_0 q0)), .second, .val (.int ((q0.toInt32) ^^^ (((q0.toUInt64 >>> ((32 : Int32) &&& 0x3f).toInt64.toUInt64).toInt64).toInt32)))] [(.int (1 : Int32))])) _
      exact k
    exact own_retN X2 hx hlk hret (by simp) (hb hby at_29) (by decide) (by decide) N2 ⟨rfl, e2⟩
  · rw [if_neg hc21_3]
    refine own_go (T' := T2) (g' := (mkF m 28 #[.val (.long q0), .second, .val (.long (f1_0 q0)), .second, .val (.int ((q0.toInt32) ^^^ (((q0.toUInt64 >>> ((32 : Int32) &&& 0x3f).toInt64.toUInt64).toInt64).toInt32)))] [])) (fun t k => ?_) ?_
    · refine XS.icmpYes X2.here hx rfl (pc0 := 21) (pc' := 28) rfl (hb hby at_21) rfl (feq hc21_3).2 (by decide) (by decide) ?_
      exact k
    refine own_go (T' := T2) (g' := (mkF m 29 #[.val (.long q0), .second, .val (.long (f1_0 q0)), .second, .val (.int ((q0.toInt32) ^^^ (((q0.toUInt64 >>> ((32 : Int32) &&& 0x3f).toInt64.toUInt64).toInt64).toInt32)))] [(.int (0 : Int32))])) (fun t k => ?_) ?_
    · show Steps p.tables e below (T2.setTop (mkF m 28 #[.val (.long q0), .second, .val (.long (f1_0 q0)), .second, .val (.int ((q0.toInt32) ^^^ (((q0.toUInt64 >>> ((32 : Int32) &&& 0x3f).toInt64.toUInt64).toInt64).toInt32)))] [])) t
      refine XS.iconst X2.here hx rfl (hb hby at_28) ?_
      show Steps p.tables e below (T2.setTop (mkF m 29 #[.val (.long q0), .second, .val (.long (f1_0 q0)), .second, .val (.int ((q0.toInt32) ^^^ (((q0.toUInt64 >>> ((32 : Int32) &&& 0x3f).toInt64.toUInt64).toInt64).toInt32)))] [(.int (0 : Int32))])) _
      exact k
    exact own_retN X2 hx hlk hret (by simp) (hb hby at_29) (by decide) (by decide) N2 ⟨rfl, e2⟩
theorem own_bv (b : BitVec 64) : (b ^^^ b >>> 33) ^^^ ((b ^^^ b >>> 33) >>> 33) = b := by
  apply BitVec.eq_of_getLsbD_eq
  intro i hi
  have h : b.getLsbD (33 + (33 + i)) = false := BitVec.getLsbD_of_ge _ _ (by omega)
  simp only [BitVec.getLsbD_xor, BitVec.getLsbD_ushiftRight, h]
  cases b.getLsbD i <;> cases b.getLsbD (33 + i) <;> rfl
theorem own_key (x : Int64) : (f2_0 x).toBitVec = x.toBitVec ^^^ x.toBitVec >>> 33 := by
  unfold f2_0
  rw [show ((33 : Int32) &&& 0x3f).toInt64.toUInt64 = 33 from by decide]
  rfl
theorem own_uu (x : Int64) : f2_0 (f2_0 x) = x := by
  apply Int64.toBitVec_inj.mp
  rw [own_key, own_key, own_bv]
theorem own_k2 : f3_0 (-4265267296055464877 : Int64) * (-4265267296055464877 : Int64) = 1 := by decide +kernel
theorem own_k1 : f3_0 (-49064778989728563 : Int64) * (-49064778989728563 : Int64) = 1 := by decide +kernel
theorem own_law (m : Int64) : f0_0 m = 1 := by
  have h : f4_0 (f1_0 m) = ((m.toInt32) ^^^ (((m.toUInt64 >>> ((32 : Int32) &&& 0x3f).toInt64.toUInt64).toInt64).toInt32)) := by
    show f4_9 (f1_0 m) (f2_0 (f1_0 m)) = _
    rw [show f2_0 (f1_0 m) = (f2_0 ((f2_0 m) * (f3_0 (-4265267296055464877 : Int64)))) * (f3_0 (-49064778989728563 : Int64)) from own_uu _]
    show f4_15 (f1_0 m) ((f2_0 ((f2_0 m) * (f3_0 (-4265267296055464877 : Int64)))) * (f3_0 (-49064778989728563 : Int64)) * (-49064778989728563 : Int64)) = _
    rw [Int64.mul_assoc, own_k1, Int64.mul_one]
    show f4_22 (f1_0 m) (f2_0 (f2_0 ((f2_0 m) * (f3_0 (-4265267296055464877 : Int64))))) = _
    rw [own_uu]
    show f4_28 (f1_0 m) ((f2_0 m) * (f3_0 (-4265267296055464877 : Int64)) * (-4265267296055464877 : Int64)) = _
    rw [Int64.mul_assoc, own_k2, Int64.mul_one]
    show f4_35 (f1_0 m) (f2_0 (f2_0 m)) = _
    rw [own_uu]
    rfl
  unfold f0_0
  rw [if_pos h]

set_option maxRecDepth 65536 in
set_option maxHeartbeats 40000000 in
theorem comes_1 {Post : Tables → Env → Array Value → State → Outcome → State → Prop} (hpost : ∀ tb e args s v u, (limb_1_1.after args s (.returned v) u = true ∧ limb_1_2.after args s (.returned v) u = true ∧ True) → FrameEnd s (.returned v) u (Jvm.fieldLocs frame_1_writes args s ++ Jvm.arrayLocs frame_1_arrays args s ++ Jvm.staticLocs frame_1_statics s) 0 0 → Post tb e args s (.returned v) u) :
    ArmFor flags0 classFile x code maxLocals ret World_1 tables_1 room_1 Calls_1 rest_1 Pre_1 Post := by
  intro l hfl _ _ p e ha hc hk s m args below hf hA hF happ hP
  obtain ⟨hcalls, hrest, hpre⟩ := hP
  obtain ⟨-, -, -, hnamed, -, -, -, hat⟩ := (Spec.applies_iff hf).mp happ
  obtain ⟨hg, hn⟩ := and_e (Cond.before_iff.mp (show (Jvm.Cond.and given_1 narrow_1).before args s = true from hpre))
  obtain ⟨h1, g0⟩ := and_e hg
  have k0 := g0
  obtain ⟨w0, rfl⟩ : ∃ w0 : Value, args = #[w0] := by
    have hs : args.size = 1 := by simpa [Cond.value, given_1] using h1
    obtain ⟨L⟩ := args
    match L, hs with
    | [w0], _ => exact ⟨w0, rfl⟩
  have hw := fun d (hd : d ∈ tables_1) => atoms_spec (ws := Jvm.Cond.code x code maxLocals ret :: tables_1) hat d (List.mem_cons_of_mem _ hd)
  obtain ⟨i0, e0⟩ := isL_v k0
  obtain rfl : w0 = (.long i0) := Option.some.inj e0
  obtain ⟨n, o, h1, h2, h3, v, L, rfl, ⟨N, hv⟩, hq⟩ := rm0 l s _ hw i0 s.heap s.heap.size p e ha hc hk s m _ below hf ((Spec.applies_iff_loose hf).mp happ).1 ⟨rfl, State.Warmed39.refl s, rfl⟩ trivial
  obtain rfl : v = some (.int 1) := hv.1.trans (by rw [own_law])
  refine ⟨n, _, h1, h2, h3, hpost _ _ _ _ _ _ ⟨Cond.after_iff.mpr rfl, Cond.after_iff.mpr (eq_i res_at (Term.int_eval (1)) rfl), trivial⟩ ⟨hq.1, hq.2.1, (hq.2.2.sift fun y hy => Or.inr (N y hy)).mono (by decide) (by decide)⟩⟩
theorem main_1_1 : Claimed_1_1 := comes_1 fun _ _ _ _ _ _ h hF => ⟨h.1, hF⟩
theorem main_1_2 : Claimed_1_2 := comes_1 fun _ _ _ _ _ _ h hF => ⟨h.2.1, hF⟩
end Jvm.Pilot.@@N@@
namespace Jvm.Pilot.@@N@@
open Jvm Jvm.ClassFile Sem Op Lib Jvm.Free Jvm.Stand Jvm.Pilot.@@N@@.Jvm.D
/-! MADE BY PROGRAM (witnessworld.py) out of the Statement's table words and the real class files: 9 classes; the members and pool entries that the words name. The judged class is class 1, her method 4. -/
namespace start1
open Jvm.ClassFile
def u (s : String) : CpInfo := .utf8 (stringToUtf16 s)
/-- a pool by its gaps: so many unusable entries, then the entry; so many at the end -/
def gap : Nat → List CpInfo → List CpInfo
  | 0, r => r
  | n + 1, r => .unusable :: gap n r
def poolList (es : List (Nat × CpInfo)) (last : Nat) : List CpInfo := es.foldr (fun e r => gap e.1 (e.2 :: r)) (gap last [])
def pool (es : List (Nat × CpInfo)) (last : Nat) : Array CpInfo := ⟨poolList es last⟩
def fileOf (pool : Array CpInfo) (this : Nat) (attrs : Array Attribute := #[]) (ms : Array MethodInfo := #[]) (fl : Nat := 33) (sup : Nat := 0) (ifs : Array Nat := #[]) (fds : Array FieldInfo := #[]) : ClassFile where
  minorVersion := 0
  majorVersion := 65
  constantPool := pool
  accessFlags := fl
  thisClass := this
  superClass := sup
  interfaces := ifs
  fields := fds
  methods := ms
  attributes := attrs
def plain (name : String) (sup : Option ClassId) : Class where
  name := name
  kind := .ordinary
  loader := none
  accessFlags := 33
  super := sup
  interfaces := #[]
  cf := none
  fields := #[]
  methods := #[]
  instanceTypes := #[]
  staticTypes := #[]
  resolved := #[]
  callSites := []
  init := .initialized
  statics := none
  mirror := none

def pool0 : Array CpInfo := pool [(5, u "<init>"), (0, u "()V"), (1, .class_ 10), (1, u "java/lang/Object")] 113

def k0m0 : Method := { name := "<init>", desc := "()V", sig := { parameters := [], returnType := none }, accessFlags := 1, code := none }
/-- java/lang/Object -/
def k0 : Class := { plain "java/lang/Object" none with
  accessFlags := 33
  interfaces := #[]
  cf := some (fileOf pool0 8 #[] #[{ accessFlags := 1, nameIndex := 5, descriptorIndex := 6, attributes := #[] }] 33 0 #[] #[])
  fields := #[]
  methods := #[k0m0]
  instanceTypes := #[]
  staticTypes := #[]
  resolved := Array.replicate 124 none
  statics := none }

def pool1 : Array CpInfo := pool [(2, .class_ 4), (1, u "java/lang/Object"), (0, u "<init>"), (0, u "()V"), (0, .long 2), (1, .methodref 10 11), (0, .class_ 12), (0, .nameAndType 13 14), (0, u "com/example/querent/querent/engine/IdTableHashPinLaw"), (0, u "unshift"), (0, u "(J)J"), (0, .long 14181476777654086739), (1, .methodref 10 18), (0, .nameAndType 19 14), (0, u "inverse"), (0, .long 18397679294719823053), (1, .methodref 10 23), (0, .nameAndType 24 14), (0, u "unmix"), (0, .methodref 26 27), (0, .class_ 28), (0, .nameAndType 29 30), (0, u "com/example/querent/querent/engine/IdTable"), (0, u "hash"), (0, u "(J)I"), (0, u "C1"), (0, u "J"), (1, u "C2"), (2, u "law"), (0, u "(J)Z")] 3

def k1m0 : Method := { name := "<init>", desc := "()V", sig := { parameters := [], returnType := none }, accessFlags := 1, code := none }
def k1c1 : Code := { maxStack := 8, maxLocals := 4, code := method_2_code, exceptionTable := #[], attributes := #[] }
def k1m1 : Method := { name := "inverse", desc := "(J)J", sig := { parameters := [.long], returnType := some .long }, accessFlags := 10, code := some k1c1 }
def k1c2 : Code := { maxStack := 5, maxLocals := 2, code := method_3_code, exceptionTable := #[], attributes := #[] }
def k1m2 : Method := { name := "unshift", desc := "(J)J", sig := { parameters := [.long], returnType := some .long }, accessFlags := 10, code := some k1c2 }
def k1c3 : Code := { maxStack := 4, maxLocals := 10, code := method_4_code, exceptionTable := #[], attributes := #[] }
def k1m3 : Method := { name := "unmix", desc := "(J)J", sig := { parameters := [.long], returnType := some .long }, accessFlags := 10, code := some k1c3 }
def k1c4 : Code := { maxStack := 4, maxLocals := 5, code := code, exceptionTable := #[], attributes := #[] }
def k1m4 : Method := { name := "law", desc := "(J)Z", sig := { parameters := [.long], returnType := some .boolean }, accessFlags := 9, code := some k1c4 }
/-- com/example/querent/querent/engine/IdTableHashPinLaw -/
def k1 : Class := { plain "com/example/querent/querent/engine/IdTableHashPinLaw" (some 0) with
  accessFlags := 49
  interfaces := #[]
  cf := some (fileOf pool1 10 #[] #[{ accessFlags := 1, nameIndex := 5, descriptorIndex := 6, attributes := #[] }, { accessFlags := 10, nameIndex := 19, descriptorIndex := 14, attributes := #[] }, { accessFlags := 10, nameIndex := 13, descriptorIndex := 14, attributes := #[] }, { accessFlags := 10, nameIndex := 24, descriptorIndex := 14, attributes := #[] }, { accessFlags := 9, nameIndex := 37, descriptorIndex := 38, attributes := #[] }] 49 2 #[] #[{ accessFlags := 26, nameIndex := 31, descriptorIndex := 32, attributes := #[] }, { accessFlags := 26, nameIndex := 34, descriptorIndex := 32, attributes := #[] }])
  fields := #[{ name := "C1", type := .long, accessFlags := 26, slot := 0, constantValue := 0 }, { name := "C2", type := .long, accessFlags := 26, slot := 1, constantValue := 0 }]
  methods := #[k1m0, k1m1, k1m2, k1m3, k1m4]
  instanceTypes := #[]
  staticTypes := #[.long, .long]
  resolved := Array.replicate 42 none
  statics := none }

def pool2 : Array CpInfo := pool [(2, .class_ 4), (1, u "java/lang/Object"), (6, .class_ 13), (1, u "com/example/querent/querent/engine/IdTable"), (0, u "slots"), (0, u "Lcom/example/querent/querent/engine/IntColumn;"), (2, u "capacity"), (0, u "I"), (2, u "hashOf"), (0, u "Ljava/util/function/IntUnaryOperator;"), (0, .long 18397679294719823053), (1, .long 14181476777654086739), (11, u "size"), (14, u "EMPTY"), (2, u "INITIAL_SLOTS"), (4, u "hash"), (0, u "(J)I")] 5

def k2c0 : Code := { maxStack := 5, maxLocals := 4, code := prog_27_method_2_code, exceptionTable := #[], attributes := #[] }
def k2m0 : Method := { name := "hash", desc := "(J)I", sig := { parameters := [.long], returnType := some .int }, accessFlags := 8, code := some k2c0 }
/-- com/example/querent/querent/engine/IdTable -/
def k2 : Class := { plain "com/example/querent/querent/engine/IdTable" (some 0) with
  accessFlags := 48
  interfaces := #[]
  cf := some (fileOf pool2 11 #[] #[{ accessFlags := 8, nameIndex := 61, descriptorIndex := 62, attributes := #[] }] 48 2 #[] #[{ accessFlags := 24, nameIndex := 53, descriptorIndex := 19, attributes := #[] }, { accessFlags := 26, nameIndex := 56, descriptorIndex := 19, attributes := #[] }, { accessFlags := 18, nameIndex := 22, descriptorIndex := 23, attributes := #[] }, { accessFlags := 2, nameIndex := 14, descriptorIndex := 15, attributes := #[] }, { accessFlags := 2, nameIndex := 18, descriptorIndex := 19, attributes := #[] }, { accessFlags := 2, nameIndex := 38, descriptorIndex := 19, attributes := #[] }])
  fields := #[{ name := "EMPTY", type := .int, accessFlags := 24, slot := 0, constantValue := 0 }, { name := "INITIAL_SLOTS", type := .int, accessFlags := 26, slot := 1, constantValue := 0 }, { name := "hashOf", type := (.object "java/util/function/IntUnaryOperator"), accessFlags := 18, slot := 0, constantValue := 0 }, { name := "slots", type := (.object "com/example/querent/querent/engine/IntColumn"), accessFlags := 2, slot := 1, constantValue := 0 }, { name := "capacity", type := .int, accessFlags := 2, slot := 2, constantValue := 0 }, { name := "size", type := .int, accessFlags := 2, slot := 3, constantValue := 0 }]
  methods := #[k2m0]
  instanceTypes := #[(.object "java/util/function/IntUnaryOperator"), (.object "com/example/querent/querent/engine/IntColumn"), .int, .int]
  staticTypes := #[.int, .int]
  resolved := Array.replicate 68 none
  statics := none }

def pool3 : Array CpInfo := pool [(1, u "java/lang/Cloneable"), (0, .class_ 1), (0, u "java/lang/Object"), (0, .class_ 3)] 3

/-- java/lang/Cloneable -/
def k3 : Class := { plain "java/lang/Cloneable" (some 0) with
  accessFlags := 1537
  interfaces := #[]
  cf := some (fileOf pool3 2 #[] #[] 1537 4 #[] #[])
  fields := #[]
  methods := #[]
  instanceTypes := #[]
  staticTypes := #[]
  resolved := Array.replicate 8 none
  statics := none }

def pool4 : Array CpInfo := pool [(1, u "java/io/Serializable"), (0, .class_ 1), (0, u "java/lang/Object"), (0, .class_ 3)] 3

/-- java/io/Serializable -/
def k4 : Class := { plain "java/io/Serializable" (some 0) with
  accessFlags := 1537
  interfaces := #[]
  cf := some (fileOf pool4 2 #[] #[] 1537 4 #[] #[])
  fields := #[]
  methods := #[]
  instanceTypes := #[]
  staticTypes := #[]
  resolved := Array.replicate 8 none
  statics := none }

/-- the primitive byte -/
def k5 : Class := { plain "byte" none with kind := .primitive 'B', accessFlags := 0x411 }
/-- [B -/
def k6 : Class := { plain "[B" (some 0) with kind := .array 5 .byte, interfaces := #[3, 4], accessFlags := 1041 }

/-- the primitive int -/
def k7 : Class := { plain "int" none with kind := .primitive 'I', accessFlags := 0x411 }
/-- [I -/
def k8 : Class := { plain "[I" (some 0) with kind := .array 7 .int, interfaces := #[3, 4], accessFlags := 1041 }

def heap : Heap := #[]
def classes : Array Class := #[k0, k1, k2, k3, k4, k5, k6, k7, k8]
def interned : List (Array UInt16 × Addr) := []
def slotsUsed : Nat := 0
def theMethod : MethodId := ⟨1, 4⟩
def args0 : Array Value := #[.long 5]
def aboutOver (below : List Frame) : State where
  vm := { classes := classes, interned := interned.toArray }
  heap := heap
  slotsUsed := slotsUsed
  threads := #[{ frames := .invoking theMethod args0 :: below }]
def below0 : List Frame := [.native { method := ⟨0, 0⟩, args := #[] }]
def about1 : State := aboutOver below0
def p0 : Program := .bare "" "" ""
def e0 : Env := launch0.env 0 0 0
theorem w_frames : about1.frames = Frame.invoking theMethod args0 :: below0 := rfl
set_option maxRecDepth 65536 in
theorem w_args : argsFit about1.vm theMethod args0 = true := by decide +kernel
set_option maxRecDepth 65536 in
theorem w_heap : heapFits about1 = true := by decide +kernel
set_option maxRecDepth 65536 in
theorem w_runnable : about1.curStatus? = some .runnable := by decide +kernel
set_option maxRecDepth 65536 in
theorem w_alone : about1.alone = true := by decide +kernel
set_option maxRecDepth 65536 in
theorem w_named : about1.methodNamed? x = some theMethod := by decide +kernel
set_option maxRecDepth 65536 in
theorem w_hears : about1.hears theMethod below0 = true := by decide +kernel
set_option maxRecDepth 65536 in
theorem w_ripe : about1.ripe theMethod args0 below0 = true := by decide +kernel
theorem w_running : about1.status = .running := rfl
set_option maxRecDepth 65536 in
theorem w_room : about1.hasRoom e0.platform room_1 = true :=
  launch0.hasRoom_least _ room_1 (by decide +kernel) (by decide +kernel) (by decide +kernel) (by decide +kernel) (by decide +kernel) (by decide +kernel)
theorem allAtoms_all (ts : List Jvm.Cond) (a : Array Jvm.Value) (st : Jvm.State) : (allAtoms ts).before a st = ts.all (fun c => c.before a st) := by
  induction ts with
  | nil => rfl
  | cons c t ih =>
    show (Jvm.Cond.and c (allAtoms t)).before a st = _
    rw [Jvm.Cond.before_and, ih, List.all_cons]
def words1 : List Jvm.Cond := Jvm.Cond.code x code maxLocals ret :: tables_1
/-- a 'code' word, met by the world's own term for the bytes: nothing is compared byte by byte -/
theorem code_word {y : MethodName} {bytes : ByteArray} {mx : Nat} {rt : Option FieldType} {a : Array Value} {s : State} {m : MethodId} {meth : Method} {c : Code} (h1 : s.methodNamed? y = some m) (h2 : s.vm.method? m = some meth) (h3 : meth.code = some c) (h4 : c.code = bytes)
    (h5 : (c.maxLocals == mx && c.exceptionTable.isEmpty && decide (c.maxStack ≤ mostOperands) && decide (meth.sig.returnType = rt) && !meth.locks && decide (parseMethodDescriptor y.desc = some meth.sig)) = true) : (Jvm.Cond.code y bytes mx rt).before a s = true := by
  simp only [Bool.and_eq_true, beq_iff_eq, Bool.not_eq_true', decide_eq_true_eq] at h5
  obtain ⟨⟨⟨⟨⟨g1, g2⟩, g3⟩, g4⟩, g5⟩, g6⟩ := h5
  simp [Cond.before, Cond.holds, Cond.value, h1, h2, h3, h4, g1, g2, g3, g4, g5, g6]
def isCode : Jvm.Cond → Bool
  | .code _ _ _ _ => true
  | _ => false
theorem all_split {L : List Jvm.Cond} {P : Jvm.Cond → Bool} (h1 : L.all (fun c => isCode c || P c) = true) (h2 : ∀ c ∈ L.filter isCode, P c = true) : L.all P = true := by
  refine List.all_eq_true.mpr fun c hc => ?_
  have h := List.all_eq_true.mp h1 c hc
  rcases Bool.eq_false_or_eq_true (isCode c) with hi | hi
  · exact h2 c (List.mem_filter.mpr ⟨hc, hi⟩)
  · simpa [hi] using h
set_option maxRecDepth 65536 in
theorem w_c0 : (Jvm.Cond.code x code maxLocals ret).before args0 about1 = true := code_word (m := ⟨1, 4⟩) (meth := k1m4) (c := k1c4) (by decide +kernel) rfl rfl rfl (by decide +kernel)
set_option maxRecDepth 65536 in
theorem w_c1 : (Jvm.Cond.code ({ cls := "com/example/querent/querent/engine/IdTableHashPinLaw", name := "unmix", desc := "(J)J" } : Jvm.MethodName) method_4_code (10 : Nat) (Option.some Jvm.ClassFile.FieldType.long)).before args0 about1 = true := code_word (m := ⟨1, 3⟩) (meth := k1m3) (c := k1c3) (by decide +kernel) rfl rfl rfl (by decide +kernel)
set_option maxRecDepth 65536 in
theorem w_c2 : (Jvm.Cond.code ({ cls := "com/example/querent/querent/engine/IdTableHashPinLaw", name := "unshift", desc := "(J)J" } : Jvm.MethodName) method_3_code (2 : Nat) (Option.some Jvm.ClassFile.FieldType.long)).before args0 about1 = true := code_word (m := ⟨1, 2⟩) (meth := k1m2) (c := k1c2) (by decide +kernel) rfl rfl rfl (by decide +kernel)
set_option maxRecDepth 65536 in
theorem w_c3 : (Jvm.Cond.code ({ cls := "com/example/querent/querent/engine/IdTableHashPinLaw", name := "inverse", desc := "(J)J" } : Jvm.MethodName) method_2_code (4 : Nat) (Option.some Jvm.ClassFile.FieldType.long)).before args0 about1 = true := code_word (m := ⟨1, 1⟩) (meth := k1m1) (c := k1c1) (by decide +kernel) rfl rfl rfl (by decide +kernel)
set_option maxRecDepth 65536 in
theorem w_c4 : (Jvm.Cond.code ({ cls := "com/example/querent/querent/engine/IdTable", name := "hash", desc := "(J)I" } : Jvm.MethodName) prog_27_method_2_code (4 : Nat) (Option.some Jvm.ClassFile.FieldType.int)).before args0 about1 = true := code_word (m := ⟨2, 0⟩) (meth := k2m0) (c := k2c0) (by decide +kernel) rfl rfl rfl (by decide +kernel)
def codes1 : List Jvm.Cond := [Jvm.Cond.code x code maxLocals ret, Jvm.Cond.code ({ cls := "com/example/querent/querent/engine/IdTableHashPinLaw", name := "unmix", desc := "(J)J" } : Jvm.MethodName) method_4_code (10 : Nat) (Option.some Jvm.ClassFile.FieldType.long), Jvm.Cond.code ({ cls := "com/example/querent/querent/engine/IdTableHashPinLaw", name := "unshift", desc := "(J)J" } : Jvm.MethodName) method_3_code (2 : Nat) (Option.some Jvm.ClassFile.FieldType.long), Jvm.Cond.code ({ cls := "com/example/querent/querent/engine/IdTableHashPinLaw", name := "inverse", desc := "(J)J" } : Jvm.MethodName) method_2_code (4 : Nat) (Option.some Jvm.ClassFile.FieldType.long), Jvm.Cond.code ({ cls := "com/example/querent/querent/engine/IdTable", name := "hash", desc := "(J)I" } : Jvm.MethodName) prog_27_method_2_code (4 : Nat) (Option.some Jvm.ClassFile.FieldType.int)]
set_option maxRecDepth 65536 in
theorem codes_eq : words1.filter isCode = codes1 := rfl
theorem w_codes : ∀ c ∈ words1.filter isCode, c.before args0 about1 = true := by
  rw [codes_eq]
  intro c hc
  simp only [codes1, List.mem_cons, List.not_mem_nil, or_false] at hc
  rcases hc with rfl | rfl | rfl | rfl | rfl
  · exact w_c0
  · exact w_c1
  · exact w_c2
  · exact w_c3
  · exact w_c4
set_option maxRecDepth 65536 in
theorem w_t1 : words1.all (fun c => isCode c || c.before args0 about1) = true := by decide +kernel
theorem w_tables : (allAtoms (Jvm.Cond.code x code maxLocals ret :: tables_1)).before args0 about1 = true := by
  rw [allAtoms_all]
  show words1.all (fun c => c.before args0 about1) = true
  refine all_split ?_ w_codes
  rw [w_t1]
set_option maxRecDepth 65536 in
theorem w_case : (Jvm.Cond.and given_1 narrow_1).before args0 about1 = true := by decide +kernel
theorem w_applies : (headSpec (Jvm.Cond.code x code maxLocals ret :: tables_1) room_1).applies x e0.platform about1 = true :=
  (Spec.applies_iff w_frames).mpr ⟨w_running, w_runnable, w_alone, w_named, w_hears, w_ripe, w_room, w_tables⟩
theorem atStart : AtStart classFile x code maxLocals ret World_1 tables_1 room_1 Calls_1 rest_1 Pre_1 launch0 p0 e0 about1 theMethod args0 below0 :=
  ⟨lists_1, trivial, launch0.admits_env _ _ _, launch0.least_env, fairChoices_fair.cas, fairChoices_fair.clock, w_frames, w_args, w_heap, w_applies, trivial, trivial, w_case⟩
end start1
theorem witness_1 : WitnessClaimed_1 := ⟨start1.p0, start1.e0, start1.about1, start1.theMethod, start1.args0, start1.below0, start1.atStart⟩
end Jvm.Pilot.@@N@@
