import JvmDerived
import JvmDerived.Pilot.@@N@@Statement
import JvmDerived.Pilot.@@N@@Code
set_option linter.unusedVariables false
set_option linter.unusedSimpArgs false
namespace Jvm.Pilot.@@N@@
open Jvm Jvm.ClassFile Sem Op Lib Jvm.Free Jvm.Stand Jvm.LawKit Jvm.RoadKit Bundle Jvm.Pilot.@@N@@.Jvm.D
/-! the walk's own small kit: a run that ends in a return (own_Ends), a method's contract (own_Con), one step (own_go), the returns, the calls -/
section Own
variable {p : Program} {l : Launch} {e : Env} {R : Room} {s : State} {m : MethodId} {args : Array Value} {below : List Frame} {meth : Method} {c : Code} {T : State} {locs : List Loc} {cells slots : Nat} {Z : State} {a0 : Array Value} {h : Heap} {n0 kc ks : Nat}
/-- from the frame g at T the run comes to a return; what was written lies at or above n0; Q says what is returned and what the heap is then -/
def own_Ends (p : Program) (e : Env) (below : List Frame) (s : State) (n0 kc ks : Nat) (T : State) (g : JFrame) (Q : Option Value → Heap → Prop) : Prop :=
  ∃ s₂ o, Steps p.tables e below (T.setTop g) s₂ ∧ s₂.status = .running ∧ Ended s₂ below o ∧ ∃ v L, o = .returned v ∧ (Fr n0 L ∧ Q v s₂.heap) ∧ FrameEnd s o s₂ L kc ks
theorem own_go {T' : State} {g g' : JFrame} {Q : Option Value → Heap → Prop} (k : ∀ t, Steps p.tables e below (T'.setTop g') t → Steps p.tables e below (T.setTop g) t) (q : own_Ends p e below s n0 kc ks T' g' Q) : own_Ends p e below s n0 kc ks T g Q := by
  obtain ⟨s₂, o, h1, r⟩ := q
  exact ⟨s₂, o, k _ h1, r⟩
theorem own_mono {g : JFrame} {Q Q' : Option Value → Heap → Prop} (q : own_Ends p e below s n0 kc ks T g Q) (i : ∀ v h, Q v h → Q' v h) : own_Ends p e below s n0 kc ks T g Q' := by
  obtain ⟨s₂, o, h1, h2, h3, v, L, h4, ⟨h5, h6⟩, h7⟩ := q
  exact ⟨s₂, o, h1, h2, h3, v, L, h4, ⟨h5, i _ _ h6⟩, h7⟩
theorem own_retW (X : Stand p l e R s m args below meth c T locs cells slots) (hx : p.tables.exec = Jvm.exec) (hlk : meth.locks = false) {pc : Nat} {Ls : Array Slot} {w : Value} {t : FieldType} {i : Instr} {rest : List Value} (hret : meth.sig.returnType = some t) (hn : narrow t w = w)
    (hi : (i = .ireturn ∧ (t = .int ∨ t = .boolean ∨ t = .byte ∨ t = .char ∨ t = .short) ∧ ∃ z, w = .int z) ∨ (i = .lreturn ∧ t = .long ∧ ∃ z, w = .long z) ∨ (i = .dreturn ∧ t = .double ∧ ∃ z, w = .double z) ∨ (i = .freturn ∧ t = .float ∧ ∃ z, w = .float z) ∨ (i = .areturn ∧ t.isReference = true ∧ w.isRef = true))
    (hd : decode c.code pc = .ok (i, 1)) {Q : Option Value → Heap → Prop} (hc : cells ≤ kc) (hs : slots ≤ ks) (N : Fr n0 locs) (q : Q (some w) T.heap) : own_Ends p e below s n0 kc ks T (mkF m pc Ls (w :: rest)) Q := by
  obtain ⟨fs, hr, hrun, hended, hW, hsame⟩ := X.leave (v := some w) (fun h => by rw [hret] at h; cases h) hlk
  exact ⟨_, _, retOut X hx hret hn hi hd hr, hrun, hended, _, _, rfl, ⟨N, q⟩, ⟨_, rfl⟩, hW, hsame.mono hc hs⟩
theorem own_retI (X : Stand p l e R s m args below meth c T locs cells slots) (hx : p.tables.exec = Jvm.exec) (hlk : meth.locks = false) {pc : Nat} {Ls : Array Slot} {z : Int32} {rest : List Value} (hret : meth.sig.returnType = some .int)
    (hd : decode c.code pc = .ok (.ireturn, 1)) {Q : Option Value → Heap → Prop} (hc : cells ≤ kc) (hs : slots ≤ ks) (N : Fr n0 locs) (q : Q (some (.int z)) T.heap) : own_Ends p e below s n0 kc ks T (mkF m pc Ls (.int z :: rest)) Q :=
  own_retW X hx hlk hret rfl (Or.inl ⟨rfl, Or.inl rfl, z, rfl⟩) hd hc hs N q
theorem own_retJ (X : Stand p l e R s m args below meth c T locs cells slots) (hx : p.tables.exec = Jvm.exec) (hlk : meth.locks = false) {pc : Nat} {Ls : Array Slot} {z : Int64} {rest : List Value} (hret : meth.sig.returnType = some .long)
    (hd : decode c.code pc = .ok (.lreturn, 1)) {Q : Option Value → Heap → Prop} (hc : cells ≤ kc) (hs : slots ≤ ks) (N : Fr n0 locs) (q : Q (some (.long z)) T.heap) : own_Ends p e below s n0 kc ks T (mkF m pc Ls (.long z :: rest)) Q :=
  own_retW X hx hlk hret rfl (Or.inr (Or.inl ⟨rfl, rfl, z, rfl⟩)) hd hc hs N q
theorem own_retA (X : Stand p l e R s m args below meth c T locs cells slots) (hx : p.tables.exec = Jvm.exec) (hlk : meth.locks = false) {pc : Nat} {Ls : Array Slot} {a : Addr} {t : FieldType} {rest : List Value} (hret : meth.sig.returnType = some t) (ht : t.isReference = true) (hn : narrow t (.ref a) = .ref a)
    (hd : decode c.code pc = .ok (.areturn, 1)) {Q : Option Value → Heap → Prop} (hc : cells ≤ kc) (hs : slots ≤ ks) (N : Fr n0 locs) (q : Q (some (.ref a)) T.heap) : own_Ends p e below s n0 kc ks T (mkF m pc Ls (.ref a :: rest)) Q :=
  own_retW X hx hlk hret hn (Or.inr (Or.inr (Or.inr (Or.inr ⟨rfl, ht, rfl⟩)))) hd hc hs N q
theorem own_retN (X : Stand p l e R s m args below meth c T locs cells slots) (hx : p.tables.exec = Jvm.exec) (hlk : meth.locks = false) {pc : Nat} {Ls : Array Slot} {z : Int32} {t : FieldType} {rest : List Value} (hret : meth.sig.returnType = some t) (ht : t = .boolean ∨ t = .byte ∨ t = .char ∨ t = .short)
    (hd : decode c.code pc = .ok (.ireturn, 1)) {Q : Option Value → Heap → Prop} (hc : cells ≤ kc) (hs : slots ≤ ks) (N : Fr n0 locs) (q : Q (some (.int (nar t z))) T.heap) : own_Ends p e below s n0 kc ks T (mkF m pc Ls (.int z :: rest)) Q := by
  obtain ⟨fs, hr, hrun, hended, hW, hsame⟩ := X.leave (v := some (.int (nar t z))) (fun h => by rw [hret] at h; cases h) hlk
  exact ⟨_, _, retN X hx hret ht hd hr, hrun, hended, _, _, rfl, ⟨N, q⟩, ⟨_, rfl⟩, hW, hsame.mono hc hs⟩
theorem own_retV (X : Stand p l e R s m args below meth c T locs cells slots) (hx : p.tables.exec = Jvm.exec) (hlk : meth.locks = false) {pc : Nat} {Ls : Array Slot} (hret : meth.sig.returnType = none)
    (hd : decode c.code pc = .ok (.return_, 1)) {Q : Option Value → Heap → Prop} (hc : cells ≤ kc) (hs : slots ≤ ks) (N : Fr n0 locs) (q : Q none T.heap) : own_Ends p e below s n0 kc ks T (mkF m pc Ls []) Q := by
  obtain ⟨fs, hr, hrun, hended, hW, hsame⟩ := X.leave (v := none) (fun _ => rfl) hlk
  exact ⟨_, _, X.returnOut hx hret hd hr, hrun, hended, _, _, rfl, ⟨N, q⟩, ⟨_, rfl⟩, hW, hsame.mono hc hs⟩
/-- a method's contract: called with as' at the heap h it returns, and Q says what; nothing below n0 is written -/
def own_Con (ws : List Jvm.Cond) (l : Launch) (Z : State) (y : MethodName) (bytes : ByteArray) (maxL : Nat) (ret : Option FieldType) (rm : Room) (n0 : Nat) (as' : Array Value) (h : Heap) (Q : Option Value → Heap → Prop) : Prop :=
  MetFree l y (head1 (Jvm.Cond.code y bytes maxL ret :: ws) rm) (fun a U => a = as' ∧ Z.Warmed39 U.vm ∧ U.heap = h) (fun _ _ _ _ _ => True) (fun _ U o U' => ∃ v L, o = .returned v ∧ (Fr n0 L ∧ Q v U'.heap) ∧ FrameEnd U o U' L rm.cells rm.slots)
theorem own_body {ws : List Jvm.Cond} {y : MethodName} {bytes : ByteArray} {maxL : Nat} {ret : Option FieldType} {rm : Room} {as' : Array Value} {Q : Option Value → Heap → Prop} (hy : plainFor y = true) (fr : MethodId → JFrame) (hfr : ∀ m, entryFrame m as' maxL = fr m)
    (H : ∀ (p : Program) (e : Env) (s : State) (m : MethodId) (below : List Frame) (meth : Method) (c : Code) (s₁ : State), p.tables.exec = Jvm.exec → c.code = bytes → c.maxLocals = maxL → s.vm.findClass y.cls = some m.cls → meth.name = y.name → Z.Warmed39 s.vm → meth.sig.returnType = ret → meth.locks = false →
      Stand p l e rm s m as' below meth c s₁ [] 0 0 → s₁.heap = h → Fr n0 [] → own_Ends p e below s n0 rm.cells rm.slots s₁ (fr m) Q) : own_Con ws l Z y bytes maxL ret rm n0 as' h Q := by
  refine MetFree.of_bodySF hy hisR ?_
  intro p e s m args below meth c s₁ Bd hml0 hP hK
  obtain ⟨rfl, hZ, hh⟩ := hP
  have E := H p e s m below meth c s₁ Bd.exec Bd.bytes hml0 (findClass_of_methodNamed Bd.named) (name_of_methodNamed Bd.named Bd.method).1 hZ Bd.returns Bd.notSynchronized (Stand.of_body Bd) (by rw [← hh, Bd.state]; rfl) (Fr.nil n0)
  rw [← hfr m] at E
  exact E
/-- invokestatic by the callee's contract -/
theorem own_callS (X : Stand p l e R s m args below meth c T locs cells slots) (hx : p.tables.exec = Jvm.exec) (hZ : Z.Warmed39 s.vm) {own : String} {index : Nat} {y : MethodName} {bytes : ByteArray} {maxL : Nat} {ret : Option FieldType}
    (hown : s.vm.findClass own = some m.cls) (w1 : (Jvm.Cond.methodLink own index y).before a0 Z = true) (w2 : (Jvm.Cond.static y).before a0 Z = true) (w3 : (Jvm.Cond.initialized y.cls).before a0 Z = true) (w4 : (Jvm.Cond.code y bytes maxL ret).before a0 Z = true)
    (hy : y.cls ≠ "java/lang/invoke/MethodHandle" ∧ y.cls ≠ "java/lang/invoke/VarHandle") {argsL rest : List Value} {Q : Option Value → Heap → Prop} {rm : Room} (hM : own_Con [] l Z y bytes maxL ret rm n0 argsL.toArray h Q) {W : Nat} (hf : rm.frames + 1 ≤ R.frames) (hl : W + (maxL + 11) + rm.locals ≤ R.locals)
    {g : JFrame} (hg : g.method = m) (hsize : g.locals.size = c.maxLocals) {ps : List FieldType} {r : Option FieldType} (hpd : parseMethodDescriptor y.desc = some ⟨ps, r⟩) (hlen : argsL.length = ps.length) (hstack : g.stack = argsL.reverse ++ rest) (hW : 2 * g.monitorRoom + (rest.map fun v => v.category).sum ≤ W)
    (hd : decode c.code g.pc = .ok (.invokestatic index, 3)) (eT : T.heap = h) (hc : cells + rm.cells ≤ R.cells) (hs : slots + rm.slots ≤ R.slots) (N : Fr n0 locs) :
    ∃ v T' L', Stand p l e R s m args below meth c T' L' (cells + rm.cells) (slots + rm.slots) ∧ Fr n0 L' ∧ Q v T'.heap ∧ ∀ t, Steps p.tables e below (T'.setTop { g with pc := g.pc + 3, stack := v.toList ++ rest }) t → Steps p.tables e below (T.setTop g) t := by
  obtain ⟨v, _, ⟨T', L', k', n'⟩, -, X', ⟨Lc, ⟨hN, hQ⟩, l', y', z'⟩, st⟩ := Jvm.LawKit.callS X hx hown (mvT hZ w1) (mvT hZ w2) (mvT hZ w3) (mvT hZ w4) hy (backOf (Q := fun v h L => Fr n0 L ∧ Q v h) (W := W) hM hZ w4 w3 hf hl) hg hsize (lenOf hpd hlen) hstack hW hd (fun _ _ => ⟨rfl, eT, hc, hs⟩)
  dsimp only [Pt.U, Pt.locs, Pt.cells, Pt.slots] at X' l' y' z' st hQ
  subst l' y' z'
  exact ⟨v, T', _, X', Fr.app N hN, hQ, st⟩
/-- a constructor by its contract -/
theorem own_callI (X : Stand p l e R s m args below meth c T locs cells slots) (hx : p.tables.exec = Jvm.exec) (hZ : Z.Warmed39 s.vm) {own : String} {index : Nat} {y : MethodName} {bytes : ByteArray} {maxL : Nat}
    (hy1 : y.name = "<init>") (hown : s.vm.findClass own = some m.cls) (w1 : (Jvm.Cond.methodLink own index y).before a0 Z = true) (w2 : (Jvm.Cond.instanceMethod y).before a0 Z = true) (w3 : (Jvm.Cond.initialized y.cls).before a0 Z = true) (w4 : (Jvm.Cond.code y bytes maxL none).before a0 Z = true)
    (hy : y.cls ≠ "java/lang/invoke/MethodHandle" ∧ y.cls ≠ "java/lang/invoke/VarHandle") {a : Addr} {argsL rest : List Value} {Q : Option Value → Heap → Prop} {rm : Room} (hM : own_Con [] l Z y bytes maxL none rm n0 (.ref a :: argsL).toArray h Q) {W : Nat} (hf : rm.frames + 1 ≤ R.frames) (hl : W + (maxL + 11) + rm.locals ≤ R.locals)
    {g : JFrame} (hg : g.method = m) (hsize : g.locals.size = c.maxLocals) {ps : List FieldType} {r : Option FieldType} (hpd : parseMethodDescriptor y.desc = some ⟨ps, r⟩) (hlen : argsL.length = ps.length) (hstack : g.stack = argsL.reverse ++ .ref a :: rest) (hW : 2 * g.monitorRoom + (rest.map fun v => v.category).sum ≤ W)
    (hd : decode c.code g.pc = .ok (.invokespecial index, 3)) (eT : T.heap = h) (hc : cells + rm.cells ≤ R.cells) (hs : slots + rm.slots ≤ R.slots) (N : Fr n0 locs) :
    ∃ v T' L', Stand p l e R s m args below meth c T' L' (cells + rm.cells) (slots + rm.slots) ∧ Fr n0 L' ∧ Q v T'.heap ∧ ∀ t, Steps p.tables e below (T'.setTop { g with pc := g.pc + 3, stack := v.toList ++ rest }) t → Steps p.tables e below (T.setTop g) t := by
  obtain ⟨v, _, ⟨T', L', k', n'⟩, -, X', ⟨Lc, ⟨hN, hQ⟩, l', y', z'⟩, st⟩ := X.specialBack hx hy1 hown (mvT hZ w1) (mvT hZ w2) (mvT hZ w4) hy (backOf (Q := fun v h L => Fr n0 L ∧ Q v h) (W := W) hM hZ w4 w3 hf hl) hg hsize (Steps.refl _) (lenOf hpd hlen) hstack hW hd (fun _ _ => ⟨rfl, eT, hc, hs⟩)
  dsimp only [Pt.U, Pt.locs, Pt.cells, Pt.slots] at X' l' y' z' st hQ
  subst l' y' z'
  exact ⟨v, T', _, X', Fr.app N hN, hQ, fun t k => st.trans k⟩
/-- an instance method that its own class declares, by its contract -/
theorem own_callV (X : Stand p l e R s m args below meth c T locs cells slots) (hx : p.tables.exec = Jvm.exec) (hZ : Z.Warmed39 s.vm) {own C : String} {index : Nat} {y : MethodName} {bytes : ByteArray} {maxL : Nat} {ret : Option FieldType}
    (hown : s.vm.findClass own = some m.cls) (w1 : (Jvm.Cond.methodLink own index y).before a0 Z = true) (wd : (Jvm.Cond.declares y).before a0 Z = true) (ws : (Jvm.Cond.selects C y y).before a0 Z = true) (w2 : (Jvm.Cond.instanceMethod y).before a0 Z = true) (w3 : (Jvm.Cond.initialized y.cls).before a0 Z = true) (w4 : (Jvm.Cond.code y bytes maxL ret).before a0 Z = true)
    (hy : y.cls ≠ "java/lang/invoke/MethodHandle" ∧ y.cls ≠ "java/lang/invoke/VarHandle") {a : Addr} {argsL rest : List Value} {Q : Option Value → Heap → Prop} {rm : Room} (hM : own_Con [] l Z y bytes maxL ret rm n0 (.ref a :: argsL).toArray h Q) {W : Nat} (hf : rm.frames + 1 ≤ R.frames) (hl : W + (maxL + 11) + rm.locals ≤ R.locals)
    (E : Exa Z h a C) {g : JFrame} (hg : g.method = m) (hsize : g.locals.size = c.maxLocals) {ps : List FieldType} {r : Option FieldType} (hpd : parseMethodDescriptor y.desc = some ⟨ps, r⟩) (hlen : argsL.length = ps.length) (hstack : g.stack = argsL.reverse ++ .ref a :: rest) (hW : 2 * g.monitorRoom + (rest.map fun v => v.category).sum ≤ W)
    (hd : decode c.code g.pc = .ok (.invokevirtual index, 3)) (eT : T.heap = h) (hc : cells + rm.cells ≤ R.cells) (hs : slots + rm.slots ≤ R.slots) (N : Fr n0 locs) :
    ∃ v T' L', Stand p l e R s m args below meth c T' L' (cells + rm.cells) (slots + rm.slots) ∧ Fr n0 L' ∧ Q v T'.heap ∧ ∀ t, Steps p.tables e below (T'.setTop { g with pc := g.pc + 3, stack := v.toList ++ rest }) t → Steps p.tables e below (T.setTop g) t := by
  obtain ⟨cq, kq, qa, qb, qc⟩ := isOf hZ eT E
  obtain ⟨v, _, ⟨T', L', k', n'⟩, -, X', ⟨Lc, ⟨hN, hQ⟩, l', y', z'⟩, st⟩ := X.virtualBack hx (z := y) hown (mvT hZ w1) (mvT hZ wd) (notFace_of_selects (args := #[]) (mvT hZ ws)) (mvT hZ ws) (mvT hZ w2) hy (backOf (Q := fun v h L => Fr n0 L ∧ Q v h) (W := W) hM hZ w4 w3 hf hl) qa qc hg hsize (Steps.refl _) (lenOf hpd hlen) hstack hW hd (fun _ _ => ⟨rfl, eT, hc, hs⟩)
  dsimp only [Pt.U, Pt.locs, Pt.cells, Pt.slots] at X' l' y' z' st hQ
  subst l' y' z'
  exact ⟨v, T', _, X', Fr.app N hN, hQ, fun t k => st.trans k⟩
/-! arrays by their values -/
theorem own_ldI (X : Stand p l e R s m args below meth c T locs cells slots) (hx : p.tables.exec = Jvm.exec) (hZ : Z.Warmed39 s.vm) (eT : T.heap = h) {a : Addr} {k : ClassId} {n : Int32} {vs : List Value} {d : Value} (V : Arv Z h a k .int n vs d) {j : Int32} (hj : ¬ j < 0 ∧ j < n) {v : Value} (hv : vs.getD j.toNatClampNeg d = v)
    {g : JFrame} (hg : g.method = m) {rest : List Value} (hs : g.stack = .int j :: .ref a :: rest) (hd : decode c.code g.pc = .ok (.iaload, 1)) : ∀ t, Steps p.tables e below (T.setTop { g with pc := g.pc + 1, stack := v :: rest }) t → Steps p.tables e below (T.setTop g) t := by
  obtain ⟨cl, Ar, -, S, M, H, G⟩ := V
  have hin := inb_of S hj
  exact fun t k => X.iaload hx (by rw [eT]; exact Ar.1) (State.isArrayOf_alike hZ.alike Ar.2.1) Ar.2.2 hin (H.at hin hv) hg hs hd t k
theorem own_ldJ (X : Stand p l e R s m args below meth c T locs cells slots) (hx : p.tables.exec = Jvm.exec) (hZ : Z.Warmed39 s.vm) (eT : T.heap = h) {a : Addr} {k : ClassId} {n : Int32} {vs : List Value} {d : Value} (V : Arv Z h a k .long n vs d) {j : Int32} (hj : ¬ j < 0 ∧ j < n) {v : Value} (hv : vs.getD j.toNatClampNeg d = v)
    {g : JFrame} (hg : g.method = m) {rest : List Value} (hs : g.stack = .int j :: .ref a :: rest) (hd : decode c.code g.pc = .ok (.laload, 1)) : ∀ t, Steps p.tables e below (T.setTop { g with pc := g.pc + 1, stack := v :: rest }) t → Steps p.tables e below (T.setTop g) t := by
  obtain ⟨cl, Ar, -, S, M, H, G⟩ := V
  have hin := inb_of S hj
  exact fun t k => X.laload hx (by rw [eT]; exact Ar.1) (State.isArrayOf_alike hZ.alike Ar.2.1) Ar.2.2 hin (H.at hin hv) hg hs hd t k
theorem own_ldC (X : Stand p l e R s m args below meth c T locs cells slots) (hx : p.tables.exec = Jvm.exec) (hZ : Z.Warmed39 s.vm) (eT : T.heap = h) {a : Addr} {k : ClassId} {n : Int32} {vs : List Value} {d : Value} (V : Arv Z h a k .char n vs d) {j : Int32} (hj : ¬ j < 0 ∧ j < n) {v : Value} (hv : vs.getD j.toNatClampNeg d = v)
    {g : JFrame} (hg : g.method = m) {rest : List Value} (hs : g.stack = .int j :: .ref a :: rest) (hd : decode c.code g.pc = .ok (.caload, 1)) : ∀ t, Steps p.tables e below (T.setTop { g with pc := g.pc + 1, stack := v :: rest }) t → Steps p.tables e below (T.setTop g) t := by
  obtain ⟨cl, Ar, -, S, M, H, G⟩ := V
  have hin := inb_of S hj
  exact fun t k => X.caload hx (by rw [eT]; exact Ar.1) (State.isArrayOf_alike hZ.alike Ar.2.1) Ar.2.2 hin (H.at hin hv) hg hs hd t k
theorem own_ldB (X : Stand p l e R s m args below meth c T locs cells slots) (hx : p.tables.exec = Jvm.exec) (hZ : Z.Warmed39 s.vm) (eT : T.heap = h) {a : Addr} {k : ClassId} {n : Int32} {vs : List Value} {d : Value} (V : Arv Z h a k .byte n vs d) {j : Int32} (hj : ¬ j < 0 ∧ j < n) {v : Value} (hv : vs.getD j.toNatClampNeg d = v)
    {g : JFrame} (hg : g.method = m) {rest : List Value} (hs : g.stack = .int j :: .ref a :: rest) (hd : decode c.code g.pc = .ok (.baload, 1)) : ∀ t, Steps p.tables e below (T.setTop { g with pc := g.pc + 1, stack := v :: rest }) t → Steps p.tables e below (T.setTop g) t := by
  obtain ⟨cl, Ar, -, S, M, H, G⟩ := V
  have hin := inb_of S hj
  exact fun t k => X.baloadBytes hx (by rw [eT]; exact Ar.1) (State.isArrayOf_alike hZ.alike Ar.2.1) Ar.2.2 hin (H.at hin hv) hg hs hd t k
theorem own_len (X : Stand p l e R s m args below meth c T locs cells slots) (hx : p.tables.exec = Jvm.exec) (hZ : Z.Warmed39 s.vm) (eT : T.heap = h) {a : Addr} {k : ClassId} {ty : FieldType} {n : Int32} {vs : List Value} {d : Value} (V : Arv Z h a k ty n vs d)
    {g : JFrame} (hg : g.method = m) {rest : List Value} (hs : g.stack = .ref a :: rest) (hd : decode c.code g.pc = .ok (.arraylength, 1)) : ∀ t, Steps p.tables e below (T.setTop { g with pc := g.pc + 1, stack := .int n :: rest }) t → Steps p.tables e below (T.setTop g) t := by
  obtain ⟨cl, Ar, -, S, M, H, G⟩ := V
  intro t k
  refine X.arraylength hx (by rw [eT]; exact Ar.1) (State.isArrayOf_alike hZ.alike Ar.2.1) hg hs hd _ ?_
  rw [len_of S M]
  exact k
theorem own_stI (X : Stand p l e R s m args below meth c T locs cells slots) (hx : p.tables.exec = Jvm.exec) (hZ : Z.Warmed39 s.vm) (eT : T.heap = h) {a : Addr} {k : ClassId} {n : Int32} {vs : List Value} {d : Value} (V : Arv Z h a k .int n vs d) {j : Int32} (hj : ¬ j < 0 ∧ j < n) (i : Nat) (hi : j.toNatClampNeg = i) (hl : i < vs.length) {x : Int32}
    (N : Fr n0 locs) (ga : n0 ≤ a) {g : JFrame} (hg : g.method = m) {rest : List Value} (hs : g.stack = (.int x) :: .int j :: .ref a :: rest) (hd : decode c.code g.pc = .ok (.iastore, 1)) :
    ∃ T' h' L', Stand p l e R s m args below meth c T' L' cells slots ∧ Fr n0 L' ∧ T'.heap = h' ∧ Wr h h' a i (.int x) ∧ Arv Z h' a k .int n (vs.set i (.int x)) d ∧ ∀ t, Steps p.tables e below (T'.setTop { g with pc := g.pc + 1, stack := rest }) t → Steps p.tables e below (T.setTop g) t := by
  obtain ⟨cl, Ar, q, S, M, H, G⟩ := V
  obtain ⟨T', h', X', e', W, st⟩ := stI X hx hZ eT Ar (inb_of S hj) hg hs hd
  have V' := Arv.set Ar q S M H G rfl W i hi hl
  rw [hi] at W
  exact ⟨T', h', _, X', Fr.snoc X' N ga, e', W, V', st⟩
theorem own_stJ (X : Stand p l e R s m args below meth c T locs cells slots) (hx : p.tables.exec = Jvm.exec) (hZ : Z.Warmed39 s.vm) (eT : T.heap = h) {a : Addr} {k : ClassId} {n : Int32} {vs : List Value} {d : Value} (V : Arv Z h a k .long n vs d) {j : Int32} (hj : ¬ j < 0 ∧ j < n) (i : Nat) (hi : j.toNatClampNeg = i) (hl : i < vs.length) {x : Int64}
    (N : Fr n0 locs) (ga : n0 ≤ a) {g : JFrame} (hg : g.method = m) {rest : List Value} (hs : g.stack = (.long x) :: .int j :: .ref a :: rest) (hd : decode c.code g.pc = .ok (.lastore, 1)) :
    ∃ T' h' L', Stand p l e R s m args below meth c T' L' cells slots ∧ Fr n0 L' ∧ T'.heap = h' ∧ Wr h h' a i (.long x) ∧ Arv Z h' a k .long n (vs.set i (.long x)) d ∧ ∀ t, Steps p.tables e below (T'.setTop { g with pc := g.pc + 1, stack := rest }) t → Steps p.tables e below (T.setTop g) t := by
  obtain ⟨cl, Ar, q, S, M, H, G⟩ := V
  obtain ⟨T', h', X', e', W, st⟩ := stJ X hx hZ eT Ar (inb_of S hj) hg hs hd
  have V' := Arv.set Ar q S M H G rfl W i hi hl
  rw [hi] at W
  exact ⟨T', h', _, X', Fr.snoc X' N ga, e', W, V', st⟩
theorem own_stC (X : Stand p l e R s m args below meth c T locs cells slots) (hx : p.tables.exec = Jvm.exec) (hZ : Z.Warmed39 s.vm) (eT : T.heap = h) {a : Addr} {k : ClassId} {n : Int32} {vs : List Value} {d : Value} (V : Arv Z h a k .char n vs d) {j : Int32} (hj : ¬ j < 0 ∧ j < n) (i : Nat) (hi : j.toNatClampNeg = i) (hl : i < vs.length) {x : Int32}
    (N : Fr n0 locs) (ga : n0 ≤ a) {g : JFrame} (hg : g.method = m) {rest : List Value} (hs : g.stack = (.int x) :: .int j :: .ref a :: rest) (hd : decode c.code g.pc = .ok (.castore, 1)) :
    ∃ T' h' L', Stand p l e R s m args below meth c T' L' cells slots ∧ Fr n0 L' ∧ T'.heap = h' ∧ Wr h h' a i (.int (nar .char x)) ∧ Arv Z h' a k .char n (vs.set i (.int (nar .char x))) d ∧ ∀ t, Steps p.tables e below (T'.setTop { g with pc := g.pc + 1, stack := rest }) t → Steps p.tables e below (T.setTop g) t := by
  obtain ⟨cl, Ar, q, S, M, H, G⟩ := V
  obtain ⟨T', h', X', e', W, st⟩ := stC X hx hZ eT Ar (inb_of S hj) hg hs hd
  have V' := Arv.set Ar q S M H G (fits_nar_char _) W i hi hl
  rw [hi] at W
  exact ⟨T', h', _, X', Fr.snoc X' N ga, e', W, V', st⟩
theorem own_stB (X : Stand p l e R s m args below meth c T locs cells slots) (hx : p.tables.exec = Jvm.exec) (hZ : Z.Warmed39 s.vm) (eT : T.heap = h) {a : Addr} {k : ClassId} {n : Int32} {vs : List Value} {d : Value} (V : Arv Z h a k .byte n vs d) {j : Int32} (hj : ¬ j < 0 ∧ j < n) (i : Nat) (hi : j.toNatClampNeg = i) (hl : i < vs.length) {x : Int32}
    (N : Fr n0 locs) (ga : n0 ≤ a) {g : JFrame} (hg : g.method = m) {rest : List Value} (hs : g.stack = (.int x) :: .int j :: .ref a :: rest) (hd : decode c.code g.pc = .ok (.bastore, 1)) :
    ∃ T' h' L', Stand p l e R s m args below meth c T' L' cells slots ∧ Fr n0 L' ∧ T'.heap = h' ∧ Wr h h' a i (.int (nar .byte x)) ∧ Arv Z h' a k .byte n (vs.set i (.int (nar .byte x))) d ∧ ∀ t, Steps p.tables e below (T'.setTop { g with pc := g.pc + 1, stack := rest }) t → Steps p.tables e below (T.setTop g) t := by
  obtain ⟨cl, Ar, q, S, M, H, G⟩ := V
  obtain ⟨T', h', X', e', W, st⟩ := stB X hx hZ eT Ar (inb_of S hj) hg hs hd
  have V' := Arv.set Ar q S M H G (fits_nar_byte _) W i hi hl
  rw [hi] at W
  exact ⟨T', h', _, X', Fr.snoc X' N ga, e', W, V', st⟩
theorem own_new (X : Stand p l e R s m args below meth c T locs cells slots) (hx : p.tables.exec = Jvm.exec) (hZ : Z.Warmed39 s.vm) {aty : ArrayType} (w : (Jvm.Cond.arrayClass (newarray.typeOf aty)).before a0 Z = true) (eT : T.heap = h) {g : JFrame} (hg : g.method = m) (hd : decode c.code g.pc = .ok (.newarray aty, 2)) {n : Int32} {rest : List Value} (hs : g.stack = .int n :: rest)
    (hn : ¬ n < 0) {cap : Nat} (hcap : n.toNatClampNeg ≤ cap) (hb : cap * 8 ≤ 536870912) (hc : cells + 1 ≤ R.cells) (hl : slots + cap ≤ R.slots) :
    ∃ T' h' k a, a = h.size ∧ Stand p l e R s m args below meth c T' locs (cells + 1) (slots + cap) ∧ T'.heap = h' ∧ Ext h h' ∧ Arv Z h' a k (newarray.typeOf aty) n [] (defaultValue (newarray.typeOf aty)) ∧
      ∀ t, Steps p.tables e below (T'.setTop { g with pc := g.pc + 2, stack := .ref a :: rest }) t → Steps p.tables e below (T.setTop g) t := by
  obtain ⟨T', h', k, X', e', E, A, st⟩ := newP X hx hZ w eT hg hd hs hn hcap hb hc hl
  exact ⟨T', h', k, _, rfl, X', e', E, Arv.new A hn, st⟩
/-- what a method that only reads leaves -/
def own_P (z : Value) (h0 : Heap) : Option Value → Heap → Prop := fun v h => v = some z ∧ h = h0
end Own
/-- an Input by what it holds -/
def own_In (Z : State) (h : Heap) (a : Addr) (ps cl ln : Int32) (rb : Addr) (ck : Int32) : Prop := Exa Z h a "com/example/virta/virta/Input" ∧ Fld Z h a "com/example/virta/virta/Input" "position" "I" (.int ps) ∧ Fld Z h a "com/example/virta/virta/Input" "column" "I" (.int cl) ∧ Fld Z h a "com/example/virta/virta/Input" "line" "I" (.int ln) ∧ Fld Z h a "com/example/virta/virta/Input" "buffer" "[C" (.ref rb) ∧ Fld Z h a "com/example/virta/virta/Input" "checked" "I" (.int ck)
def own_Qv (Z : State) (a : Addr) (ps cl ln : Int32) (rb : Addr) (ck : Int32) (h0 : Heap) : Option Value → Heap → Prop := fun v h => v = none ∧ Keep h0 h [a] ∧ own_In Z h a ps cl ln rb ck
def own_Qi (Z : State) (z : Int32) (a : Addr) (ps cl ln : Int32) (rb : Addr) (ck : Int32) (h0 : Heap) : Option Value → Heap → Prop := fun v h => v = some (.int z) ∧ Keep h0 h [a] ∧ own_In Z h a ps cl ln rb ck
abbrev own_r1 : Room := { frames := 1, cells := 0, slots := 0, locals := 12 }
theorem d1_0 : decode prog_42_method_2_code 0 = .ok (.aload_n 0, 1) := by decide +kernel
theorem d1_1 : decode prog_42_method_2_code 1 = .ok (.invokespecial 1, 3) := by decide +kernel
theorem d1_4 : decode prog_42_method_2_code 4 = .ok (.aload_n 0, 1) := by decide +kernel
theorem d1_5 : decode prog_42_method_2_code 5 = .ok (.iconst 1, 1) := by decide +kernel
theorem d1_6 : decode prog_42_method_2_code 6 = .ok (.putfield 7, 3) := by decide +kernel
theorem d1_9 : decode prog_42_method_2_code 9 = .ok (.aload_n 0, 1) := by decide +kernel
theorem d1_10 : decode prog_42_method_2_code 10 = .ok (.iconst 1, 1) := by decide +kernel
theorem d1_11 : decode prog_42_method_2_code 11 = .ok (.putfield 13, 3) := by decide +kernel
theorem d1_14 : decode prog_42_method_2_code 14 = .ok (.aload_n 0, 1) := by decide +kernel
theorem d1_15 : decode prog_42_method_2_code 15 = .ok (.iconst 1, 1) := by decide +kernel
theorem d1_16 : decode prog_42_method_2_code 16 = .ok (.putfield 16, 3) := by decide +kernel
theorem d1_19 : decode prog_42_method_2_code 19 = .ok (.aload_n 0, 1) := by decide +kernel
theorem d1_20 : decode prog_42_method_2_code 20 = .ok (.aconst_null, 1) := by decide +kernel
theorem d1_21 : decode prog_42_method_2_code 21 = .ok (.putfield 20, 3) := by decide +kernel
theorem d1_24 : decode prog_42_method_2_code 24 = .ok (.aload_n 0, 1) := by decide +kernel
theorem d1_25 : decode prog_42_method_2_code 25 = .ok (.aload_n 1, 1) := by decide +kernel
theorem d1_26 : decode prog_42_method_2_code 26 = .ok (.putfield 24, 3) := by decide +kernel
theorem d1_29 : decode prog_42_method_2_code 29 = .ok (.aload_n 0, 1) := by decide +kernel
theorem d1_30 : decode prog_42_method_2_code 30 = .ok (.aconst_null, 1) := by decide +kernel
theorem d1_31 : decode prog_42_method_2_code 31 = .ok (.putfield 28, 3) := by decide +kernel
theorem d1_34 : decode prog_42_method_2_code 34 = .ok (.aload_n 0, 1) := by decide +kernel
theorem d1_35 : decode prog_42_method_2_code 35 = .ok (.aconst_null, 1) := by decide +kernel
theorem d1_36 : decode prog_42_method_2_code 36 = .ok (.putfield 32, 3) := by decide +kernel
theorem d1_39 : decode prog_42_method_2_code 39 = .ok (.aload_n 0, 1) := by decide +kernel
theorem d1_40 : decode prog_42_method_2_code 40 = .ok (.aconst_null, 1) := by decide +kernel
theorem d1_41 : decode prog_42_method_2_code 41 = .ok (.putfield 35, 3) := by decide +kernel
theorem d1_44 : decode prog_42_method_2_code 44 = .ok (.aload_n 0, 1) := by decide +kernel
theorem d1_45 : decode prog_42_method_2_code 45 = .ok (.aconst_null, 1) := by decide +kernel
theorem d1_46 : decode prog_42_method_2_code 46 = .ok (.putfield 38, 3) := by decide +kernel
theorem d1_49 : decode prog_42_method_2_code 49 = .ok (.aload_n 0, 1) := by decide +kernel
theorem d1_50 : decode prog_42_method_2_code 50 = .ok (.aconst_null, 1) := by decide +kernel
theorem d1_51 : decode prog_42_method_2_code 51 = .ok (.putfield 45, 3) := by decide +kernel
theorem d1_54 : decode prog_42_method_2_code 54 = .ok (.aload_n 0, 1) := by decide +kernel
theorem d1_55 : decode prog_42_method_2_code 55 = .ok (.aload_n 1, 1) := by decide +kernel
theorem d1_56 : decode prog_42_method_2_code 56 = .ok (.arraylength, 1) := by decide +kernel
theorem d1_57 : decode prog_42_method_2_code 57 = .ok (.putfield 49, 3) := by decide +kernel
theorem d1_60 : decode prog_42_method_2_code 60 = .ok (.aload_n 0, 1) := by decide +kernel
theorem d1_61 : decode prog_42_method_2_code 61 = .ok (.aload_n 1, 1) := by decide +kernel
theorem d1_62 : decode prog_42_method_2_code 62 = .ok (.arraylength, 1) := by decide +kernel
theorem d1_63 : decode prog_42_method_2_code 63 = .ok (.putfield 52, 3) := by decide +kernel
theorem d1_66 : decode prog_42_method_2_code 66 = .ok (.aload_n 0, 1) := by decide +kernel
theorem d1_67 : decode prog_42_method_2_code 67 = .ok (.aload_n 1, 1) := by decide +kernel
theorem d1_68 : decode prog_42_method_2_code 68 = .ok (.arraylength, 1) := by decide +kernel
theorem d1_69 : decode prog_42_method_2_code 69 = .ok (.i2l, 1) := by decide +kernel
theorem d1_70 : decode prog_42_method_2_code 70 = .ok (.putfield 55, 3) := by decide +kernel
theorem d1_73 : decode prog_42_method_2_code 73 = .ok (.aload_n 0, 1) := by decide +kernel
theorem d1_74 : decode prog_42_method_2_code 74 = .ok (.iconst 1, 1) := by decide +kernel
theorem d1_75 : decode prog_42_method_2_code 75 = .ok (.putfield 59, 3) := by decide +kernel
theorem d1_78 : decode prog_42_method_2_code 78 = .ok (.return_, 1) := by decide +kernel
theorem ef_1 (m : MethodId) (a : Addr) (r0 : Addr) : entryFrame m #[(.ref a), (.ref r0)] 2 = mkF m 0 #[.val (.ref a), .val (.ref r0)] [] := by first | (simp [entryFrame, mkF, argsToLocals, Value.category]; done) | rfl
set_option maxRecDepth 65536 in
set_option maxHeartbeats 40000000 in
theorem rm1 (l : Launch) (Z : State) (a0 : Array Value) (hw : ∀ d ∈ tables_1, d.before a0 Z = true) (a r0 : Addr) (k : ClassId) (n : Int32) (vs : List Value) (dv : Value) (h0 : Heap) (n0 : Nat) (Z0 : n0 ≤ h0.size) (ga_a : n0 ≤ a) (V0 : Arv Z h0 r0 k .char n vs dv) (lt_r : r0 < a) (E0 : Exa Z h0 a "com/example/virta/virta/Input") (F0_line : Fld Z h0 a "com/example/virta/virta/Input" "line" "I" (.int (0 : Int32))) (F0_column : Fld Z h0 a "com/example/virta/virta/Input" "column" "I" (.int (0 : Int32))) (F0_atStart : Fld Z h0 a "com/example/virta/virta/Input" "atStart" "Z" (.int (0 : Int32))) (F0_reader : Fld Z h0 a "com/example/virta/virta/Input" "reader" "Ljava/io/Reader;" .null) (F0_buffer : Fld Z h0 a "com/example/virta/virta/Input" "buffer" "[C" .null) (F0_publicId : Fld Z h0 a "com/example/virta/virta/Input" "publicId" "Ljava/lang/String;" .null) (F0_systemId : Fld Z h0 a "com/example/virta/virta/Input" "systemId" "Ljava/lang/String;" .null) (F0_base : Fld Z h0 a "com/example/virta/virta/Input" "base" "Ljava/lang/String;" .null) (F0_givenEncoding : Fld Z h0 a "com/example/virta/virta/Input" "givenEncoding" "Ljava/lang/String;" .null) (F0_digestLanes : Fld Z h0 a "com/example/virta/virta/Input" "digestLanes" "[J" .null) (F0_checked : Fld Z h0 a "com/example/virta/virta/Input" "checked" "I" (.int (0 : Int32))) (F0_limit : Fld Z h0 a "com/example/virta/virta/Input" "limit" "I" (.int (0 : Int32))) (F0_checkedSoFar : Fld Z h0 a "com/example/virta/virta/Input" "checkedSoFar" "J" (.long (0 : Int64))) (F0_endOfText : Fld Z h0 a "com/example/virta/virta/Input" "endOfText" "Z" (.int (0 : Int32))) (F0_position : Fld Z h0 a "com/example/virta/virta/Input" "position" "I" (.int (0 : Int32))) : own_Con [] l Z (⟨"com/example/virta/virta/Input", "<init>", "([C)V"⟩ : MethodName) prog_42_method_2_code 2 none own_r1 n0 #[(.ref a), (.ref r0)] h0 (own_Qv Z a 0 1 1 r0 n h0) := by
  refine own_body (plainFor_of_name (by first | (simp [plainName, overriddenIn]; done) | decide +kernel)) (fun m => mkF m 0 #[.val (.ref a), .val (.ref r0)] []) (fun m => ef_1 m a r0) ?_
  intro p e s m below meth c s₁ hx hby hml hown hnm hZ hret hlk X0 e0 N0
  have K0 := Keep.refl h0 [a]
  refine own_go (T' := s₁) (g' := (mkF m 1 #[.val (.ref a), .val (.ref r0)] [(.ref a)])) (fun t k => ?_) ?_
  · show Steps p.tables e below (s₁.setTop (mkF m 0 #[.val (.ref a), .val (.ref r0)] [])) t
    refine XS.aloadN X0.here hx rfl (hb hby d1_0) rfl rfl ?_
    show Steps p.tables e below (s₁.setTop (mkF m 1 #[.val (.ref a), .val (.ref r0)] [(.ref a)])) _
    exact k
  obtain ⟨T1, X1, e1, st1⟩ := initO X0 hx hZ hown (hw _ (List.mem_of_getElem? (i := 8) rfl)) (hw _ (List.mem_of_getElem? (i := 9) rfl)) (hw _ (List.mem_of_getElem? (i := 10) rfl)) e0 (g := (mkF m 1 #[.val (.ref a), .val (.ref r0)] [(.ref a)])) rfl (by rw [hml]; rfl) rfl (hb hby d1_1) (by decide) (W := 0) (by show 2 * 0 + _ ≤ _; exact Nat.le_of_eq rfl) (by decide)
  refine own_go (T' := T1) (g' := (mkF m 4 #[.val (.ref a), .val (.ref r0)] [])) st1 ?_
  refine own_go (T' := T1) (g' := (mkF m 6 #[.val (.ref a), .val (.ref r0)] [(.int (1 : Int32)), (.ref a)])) (fun t k => ?_) ?_
  · show Steps p.tables e below (T1.setTop (mkF m 4 #[.val (.ref a), .val (.ref r0)] [])) t
    refine XS.aloadN X1.here hx rfl (hb hby d1_4) rfl rfl ?_
    show Steps p.tables e below (T1.setTop (mkF m 5 #[.val (.ref a), .val (.ref r0)] [(.ref a)])) _
    refine XS.iconst X1.here hx rfl (hb hby d1_5) ?_
    show Steps p.tables e below (T1.setTop (mkF m 6 #[.val (.ref a), .val (.ref r0)] [(.int (1 : Int32)), (.ref a)])) _
    exact k
  obtain ⟨T2, h2, X2, e2, W2, st2⟩ := putF X1 hx hZ hown (host := "") (Or.inl (hw _ (List.mem_of_getElem? (i := 11) rfl))) Via.refl e1 F0_line E0 (Or.inl (hw _ (List.mem_of_getElem? (i := 12) rfl))) (hw _ (List.mem_of_getElem? (i := 3) rfl)) (ty := .int) (by decide) rfl rfl (g := (mkF m 6 #[.val (.ref a), .val (.ref r0)] [(.int (1 : Int32)), (.ref a)])) rfl rfl (hb hby d1_6)
  have V_r0_2 := V0.other W2 (Nat.ne_of_lt lt_r)
  have E_a_2 := Exa.wr W2 E0
  have F_a_column_2 := Fld.other W2 F0_column (Or.inr (slot_ne (Or.inl (hw _ (List.mem_of_getElem? (i := 14) rfl))) (Or.inl (hw _ (List.mem_of_getElem? (i := 12) rfl))) (by decide) (t := .int) (t' := .int) (by decide) (by decide)))
  have F_a_atStart_2 := Fld.other W2 F0_atStart (Or.inr (slot_ne (Or.inl (hw _ (List.mem_of_getElem? (i := 16) rfl))) (Or.inl (hw _ (List.mem_of_getElem? (i := 12) rfl))) (by decide) (t := .boolean) (t' := .int) (by decide) (by decide)))
  have F_a_reader_2 := Fld.other W2 F0_reader (Or.inr (slot_ne (Or.inr (hw _ (List.mem_of_getElem? (i := 18) rfl))) (Or.inl (hw _ (List.mem_of_getElem? (i := 12) rfl))) (by decide) (t := (.object "java/io/Reader")) (t' := .int) (by decide) (by decide)))
  have F_a_buffer_2 := Fld.other W2 F0_buffer (Or.inr (slot_ne (Or.inr (hw _ (List.mem_of_getElem? (i := 20) rfl))) (Or.inl (hw _ (List.mem_of_getElem? (i := 12) rfl))) (by decide) (t := (.array .char)) (t' := .int) (by decide) (by decide)))
  have F_a_publicId_2 := Fld.other W2 F0_publicId (Or.inr (slot_ne (Or.inr (hw _ (List.mem_of_getElem? (i := 22) rfl))) (Or.inl (hw _ (List.mem_of_getElem? (i := 12) rfl))) (by decide) (t := (.object "java/lang/String")) (t' := .int) (by decide) (by decide)))
  have F_a_systemId_2 := Fld.other W2 F0_systemId (Or.inr (slot_ne (Or.inr (hw _ (List.mem_of_getElem? (i := 24) rfl))) (Or.inl (hw _ (List.mem_of_getElem? (i := 12) rfl))) (by decide) (t := (.object "java/lang/String")) (t' := .int) (by decide) (by decide)))
  have F_a_base_2 := Fld.other W2 F0_base (Or.inr (slot_ne (Or.inr (hw _ (List.mem_of_getElem? (i := 26) rfl))) (Or.inl (hw _ (List.mem_of_getElem? (i := 12) rfl))) (by decide) (t := (.object "java/lang/String")) (t' := .int) (by decide) (by decide)))
  have F_a_givenEncoding_2 := Fld.other W2 F0_givenEncoding (Or.inr (slot_ne (Or.inr (hw _ (List.mem_of_getElem? (i := 28) rfl))) (Or.inl (hw _ (List.mem_of_getElem? (i := 12) rfl))) (by decide) (t := (.object "java/lang/String")) (t' := .int) (by decide) (by decide)))
  have F_a_digestLanes_2 := Fld.other W2 F0_digestLanes (Or.inr (slot_ne (Or.inr (hw _ (List.mem_of_getElem? (i := 30) rfl))) (Or.inl (hw _ (List.mem_of_getElem? (i := 12) rfl))) (by decide) (t := (.array .long)) (t' := .int) (by decide) (by decide)))
  have F_a_checked_2 := Fld.other W2 F0_checked (Or.inr (slot_ne (Or.inl (hw _ (List.mem_of_getElem? (i := 32) rfl))) (Or.inl (hw _ (List.mem_of_getElem? (i := 12) rfl))) (by decide) (t := .int) (t' := .int) (by decide) (by decide)))
  have F_a_limit_2 := Fld.other W2 F0_limit (Or.inr (slot_ne (Or.inl (hw _ (List.mem_of_getElem? (i := 34) rfl))) (Or.inl (hw _ (List.mem_of_getElem? (i := 12) rfl))) (by decide) (t := .int) (t' := .int) (by decide) (by decide)))
  have F_a_checkedSoFar_2 := Fld.other W2 F0_checkedSoFar (Or.inr (slot_ne (Or.inl (hw _ (List.mem_of_getElem? (i := 36) rfl))) (Or.inl (hw _ (List.mem_of_getElem? (i := 12) rfl))) (by decide) (t := .long) (t' := .int) (by decide) (by decide)))
  have F_a_endOfText_2 := Fld.other W2 F0_endOfText (Or.inr (slot_ne (Or.inl (hw _ (List.mem_of_getElem? (i := 38) rfl))) (Or.inl (hw _ (List.mem_of_getElem? (i := 12) rfl))) (by decide) (t := .boolean) (t' := .int) (by decide) (by decide)))
  have F_a_position_2 := Fld.other W2 F0_position (Or.inr (slot_ne (Or.inl (hw _ (List.mem_of_getElem? (i := 50) rfl))) (Or.inl (hw _ (List.mem_of_getElem? (i := 12) rfl))) (by decide) (t := .int) (t' := .int) (by decide) (by decide)))
  have K2 := K0.wr W2 (Or.inl (List.mem_of_getElem? (i := 0) rfl))
  have F_a_line_2 : Fld Z h2 a "com/example/virta/virta/Input" "line" "I" (.int (1 : Int32)) := Fld.same W2 F0_line
  have N2 := Fr.snoc X2 N0 ga_a
  have sz_2 := Nat.le_trans Z0 (Nat.le_of_eq (Wr.size W2).symm)
  refine own_go (T' := T2) (g' := (mkF m 9 #[.val (.ref a), .val (.ref r0)] [])) st2 ?_
  refine own_go (T' := T2) (g' := (mkF m 11 #[.val (.ref a), .val (.ref r0)] [(.int (1 : Int32)), (.ref a)])) (fun t k => ?_) ?_
  · show Steps p.tables e below (T2.setTop (mkF m 9 #[.val (.ref a), .val (.ref r0)] [])) t
    refine XS.aloadN X2.here hx rfl (hb hby d1_9) rfl rfl ?_
    show Steps p.tables e below (T2.setTop (mkF m 10 #[.val (.ref a), .val (.ref r0)] [(.ref a)])) _
    refine XS.iconst X2.here hx rfl (hb hby d1_10) ?_
    show Steps p.tables e below (T2.setTop (mkF m 11 #[.val (.ref a), .val (.ref r0)] [(.int (1 : Int32)), (.ref a)])) _
    exact k
  obtain ⟨T3, h3, X3, e3, W3, st3⟩ := putF X2 hx hZ hown (host := "") (Or.inl (hw _ (List.mem_of_getElem? (i := 13) rfl))) Via.refl e2 F_a_column_2 E_a_2 (Or.inl (hw _ (List.mem_of_getElem? (i := 14) rfl))) (hw _ (List.mem_of_getElem? (i := 3) rfl)) (ty := .int) (by decide) rfl rfl (g := (mkF m 11 #[.val (.ref a), .val (.ref r0)] [(.int (1 : Int32)), (.ref a)])) rfl rfl (hb hby d1_11)
  have V_r0_3 := V_r0_2.other W3 (Nat.ne_of_lt lt_r)
  have E_a_3 := Exa.wr W3 E_a_2
  have F_a_line_3 := Fld.other W3 F_a_line_2 (Or.inr (slot_ne (Or.inl (hw _ (List.mem_of_getElem? (i := 12) rfl))) (Or.inl (hw _ (List.mem_of_getElem? (i := 14) rfl))) (by decide) (t := .int) (t' := .int) (by decide) (by decide)))
  have F_a_atStart_3 := Fld.other W3 F_a_atStart_2 (Or.inr (slot_ne (Or.inl (hw _ (List.mem_of_getElem? (i := 16) rfl))) (Or.inl (hw _ (List.mem_of_getElem? (i := 14) rfl))) (by decide) (t := .boolean) (t' := .int) (by decide) (by decide)))
  have F_a_reader_3 := Fld.other W3 F_a_reader_2 (Or.inr (slot_ne (Or.inr (hw _ (List.mem_of_getElem? (i := 18) rfl))) (Or.inl (hw _ (List.mem_of_getElem? (i := 14) rfl))) (by decide) (t := (.object "java/io/Reader")) (t' := .int) (by decide) (by decide)))
  have F_a_buffer_3 := Fld.other W3 F_a_buffer_2 (Or.inr (slot_ne (Or.inr (hw _ (List.mem_of_getElem? (i := 20) rfl))) (Or.inl (hw _ (List.mem_of_getElem? (i := 14) rfl))) (by decide) (t := (.array .char)) (t' := .int) (by decide) (by decide)))
  have F_a_publicId_3 := Fld.other W3 F_a_publicId_2 (Or.inr (slot_ne (Or.inr (hw _ (List.mem_of_getElem? (i := 22) rfl))) (Or.inl (hw _ (List.mem_of_getElem? (i := 14) rfl))) (by decide) (t := (.object "java/lang/String")) (t' := .int) (by decide) (by decide)))
  have F_a_systemId_3 := Fld.other W3 F_a_systemId_2 (Or.inr (slot_ne (Or.inr (hw _ (List.mem_of_getElem? (i := 24) rfl))) (Or.inl (hw _ (List.mem_of_getElem? (i := 14) rfl))) (by decide) (t := (.object "java/lang/String")) (t' := .int) (by decide) (by decide)))
  have F_a_base_3 := Fld.other W3 F_a_base_2 (Or.inr (slot_ne (Or.inr (hw _ (List.mem_of_getElem? (i := 26) rfl))) (Or.inl (hw _ (List.mem_of_getElem? (i := 14) rfl))) (by decide) (t := (.object "java/lang/String")) (t' := .int) (by decide) (by decide)))
  have F_a_givenEncoding_3 := Fld.other W3 F_a_givenEncoding_2 (Or.inr (slot_ne (Or.inr (hw _ (List.mem_of_getElem? (i := 28) rfl))) (Or.inl (hw _ (List.mem_of_getElem? (i := 14) rfl))) (by decide) (t := (.object "java/lang/String")) (t' := .int) (by decide) (by decide)))
  have F_a_digestLanes_3 := Fld.other W3 F_a_digestLanes_2 (Or.inr (slot_ne (Or.inr (hw _ (List.mem_of_getElem? (i := 30) rfl))) (Or.inl (hw _ (List.mem_of_getElem? (i := 14) rfl))) (by decide) (t := (.array .long)) (t' := .int) (by decide) (by decide)))
  have F_a_checked_3 := Fld.other W3 F_a_checked_2 (Or.inr (slot_ne (Or.inl (hw _ (List.mem_of_getElem? (i := 32) rfl))) (Or.inl (hw _ (List.mem_of_getElem? (i := 14) rfl))) (by decide) (t := .int) (t' := .int) (by decide) (by decide)))
  have F_a_limit_3 := Fld.other W3 F_a_limit_2 (Or.inr (slot_ne (Or.inl (hw _ (List.mem_of_getElem? (i := 34) rfl))) (Or.inl (hw _ (List.mem_of_getElem? (i := 14) rfl))) (by decide) (t := .int) (t' := .int) (by decide) (by decide)))
  have F_a_checkedSoFar_3 := Fld.other W3 F_a_checkedSoFar_2 (Or.inr (slot_ne (Or.inl (hw _ (List.mem_of_getElem? (i := 36) rfl))) (Or.inl (hw _ (List.mem_of_getElem? (i := 14) rfl))) (by decide) (t := .long) (t' := .int) (by decide) (by decide)))
  have F_a_endOfText_3 := Fld.other W3 F_a_endOfText_2 (Or.inr (slot_ne (Or.inl (hw _ (List.mem_of_getElem? (i := 38) rfl))) (Or.inl (hw _ (List.mem_of_getElem? (i := 14) rfl))) (by decide) (t := .boolean) (t' := .int) (by decide) (by decide)))
  have F_a_position_3 := Fld.other W3 F_a_position_2 (Or.inr (slot_ne (Or.inl (hw _ (List.mem_of_getElem? (i := 50) rfl))) (Or.inl (hw _ (List.mem_of_getElem? (i := 14) rfl))) (by decide) (t := .int) (t' := .int) (by decide) (by decide)))
  have K3 := K2.wr W3 (Or.inl (List.mem_of_getElem? (i := 0) rfl))
  have F_a_column_3 : Fld Z h3 a "com/example/virta/virta/Input" "column" "I" (.int (1 : Int32)) := Fld.same W3 F_a_column_2
  have N3 := Fr.snoc X3 N2 ga_a
  have sz_3 := Nat.le_trans sz_2 (Nat.le_of_eq (Wr.size W3).symm)
  refine own_go (T' := T3) (g' := (mkF m 14 #[.val (.ref a), .val (.ref r0)] [])) st3 ?_
  refine own_go (T' := T3) (g' := (mkF m 16 #[.val (.ref a), .val (.ref r0)] [(.int (1 : Int32)), (.ref a)])) (fun t k => ?_) ?_
  · show Steps p.tables e below (T3.setTop (mkF m 14 #[.val (.ref a), .val (.ref r0)] [])) t
    refine XS.aloadN X3.here hx rfl (hb hby d1_14) rfl rfl ?_
    show Steps p.tables e below (T3.setTop (mkF m 15 #[.val (.ref a), .val (.ref r0)] [(.ref a)])) _
    refine XS.iconst X3.here hx rfl (hb hby d1_15) ?_
    show Steps p.tables e below (T3.setTop (mkF m 16 #[.val (.ref a), .val (.ref r0)] [(.int (1 : Int32)), (.ref a)])) _
    exact k
  obtain ⟨T4, h4, X4, e4, W4, st4⟩ := putFN X3 hx hZ hown (hw _ (List.mem_of_getElem? (i := 15) rfl)) Via.refl e3 F_a_atStart_3 E_a_3 (Or.inl (hw _ (List.mem_of_getElem? (i := 16) rfl))) (hw _ (List.mem_of_getElem? (i := 3) rfl)) (ty := .boolean) (v' := .int (nar .boolean (1 : Int32))) (by decide) rfl (fits_nar_bool _) (g := (mkF m 16 #[.val (.ref a), .val (.ref r0)] [(.int (1 : Int32)), (.ref a)])) rfl rfl (hb hby d1_16)
  have V_r0_4 := V_r0_3.other W4 (Nat.ne_of_lt lt_r)
  have E_a_4 := Exa.wr W4 E_a_3
  have F_a_line_4 := Fld.other W4 F_a_line_3 (Or.inr (slot_ne (Or.inl (hw _ (List.mem_of_getElem? (i := 12) rfl))) (Or.inl (hw _ (List.mem_of_getElem? (i := 16) rfl))) (by decide) (t := .int) (t' := .boolean) (by decide) (by decide)))
  have F_a_column_4 := Fld.other W4 F_a_column_3 (Or.inr (slot_ne (Or.inl (hw _ (List.mem_of_getElem? (i := 14) rfl))) (Or.inl (hw _ (List.mem_of_getElem? (i := 16) rfl))) (by decide) (t := .int) (t' := .boolean) (by decide) (by decide)))
  have F_a_reader_4 := Fld.other W4 F_a_reader_3 (Or.inr (slot_ne (Or.inr (hw _ (List.mem_of_getElem? (i := 18) rfl))) (Or.inl (hw _ (List.mem_of_getElem? (i := 16) rfl))) (by decide) (t := (.object "java/io/Reader")) (t' := .boolean) (by decide) (by decide)))
  have F_a_buffer_4 := Fld.other W4 F_a_buffer_3 (Or.inr (slot_ne (Or.inr (hw _ (List.mem_of_getElem? (i := 20) rfl))) (Or.inl (hw _ (List.mem_of_getElem? (i := 16) rfl))) (by decide) (t := (.array .char)) (t' := .boolean) (by decide) (by decide)))
  have F_a_publicId_4 := Fld.other W4 F_a_publicId_3 (Or.inr (slot_ne (Or.inr (hw _ (List.mem_of_getElem? (i := 22) rfl))) (Or.inl (hw _ (List.mem_of_getElem? (i := 16) rfl))) (by decide) (t := (.object "java/lang/String")) (t' := .boolean) (by decide) (by decide)))
  have F_a_systemId_4 := Fld.other W4 F_a_systemId_3 (Or.inr (slot_ne (Or.inr (hw _ (List.mem_of_getElem? (i := 24) rfl))) (Or.inl (hw _ (List.mem_of_getElem? (i := 16) rfl))) (by decide) (t := (.object "java/lang/String")) (t' := .boolean) (by decide) (by decide)))
  have F_a_base_4 := Fld.other W4 F_a_base_3 (Or.inr (slot_ne (Or.inr (hw _ (List.mem_of_getElem? (i := 26) rfl))) (Or.inl (hw _ (List.mem_of_getElem? (i := 16) rfl))) (by decide) (t := (.object "java/lang/String")) (t' := .boolean) (by decide) (by decide)))
  have F_a_givenEncoding_4 := Fld.other W4 F_a_givenEncoding_3 (Or.inr (slot_ne (Or.inr (hw _ (List.mem_of_getElem? (i := 28) rfl))) (Or.inl (hw _ (List.mem_of_getElem? (i := 16) rfl))) (by decide) (t := (.object "java/lang/String")) (t' := .boolean) (by decide) (by decide)))
  have F_a_digestLanes_4 := Fld.other W4 F_a_digestLanes_3 (Or.inr (slot_ne (Or.inr (hw _ (List.mem_of_getElem? (i := 30) rfl))) (Or.inl (hw _ (List.mem_of_getElem? (i := 16) rfl))) (by decide) (t := (.array .long)) (t' := .boolean) (by decide) (by decide)))
  have F_a_checked_4 := Fld.other W4 F_a_checked_3 (Or.inr (slot_ne (Or.inl (hw _ (List.mem_of_getElem? (i := 32) rfl))) (Or.inl (hw _ (List.mem_of_getElem? (i := 16) rfl))) (by decide) (t := .int) (t' := .boolean) (by decide) (by decide)))
  have F_a_limit_4 := Fld.other W4 F_a_limit_3 (Or.inr (slot_ne (Or.inl (hw _ (List.mem_of_getElem? (i := 34) rfl))) (Or.inl (hw _ (List.mem_of_getElem? (i := 16) rfl))) (by decide) (t := .int) (t' := .boolean) (by decide) (by decide)))
  have F_a_checkedSoFar_4 := Fld.other W4 F_a_checkedSoFar_3 (Or.inr (slot_ne (Or.inl (hw _ (List.mem_of_getElem? (i := 36) rfl))) (Or.inl (hw _ (List.mem_of_getElem? (i := 16) rfl))) (by decide) (t := .long) (t' := .boolean) (by decide) (by decide)))
  have F_a_endOfText_4 := Fld.other W4 F_a_endOfText_3 (Or.inr (slot_ne (Or.inl (hw _ (List.mem_of_getElem? (i := 38) rfl))) (Or.inl (hw _ (List.mem_of_getElem? (i := 16) rfl))) (by decide) (t := .boolean) (t' := .boolean) (by decide) (by decide)))
  have F_a_position_4 := Fld.other W4 F_a_position_3 (Or.inr (slot_ne (Or.inl (hw _ (List.mem_of_getElem? (i := 50) rfl))) (Or.inl (hw _ (List.mem_of_getElem? (i := 16) rfl))) (by decide) (t := .int) (t' := .boolean) (by decide) (by decide)))
  have K4 := K3.wr W4 (Or.inl (List.mem_of_getElem? (i := 0) rfl))
  have F_a_atStart_4 : Fld Z h4 a "com/example/virta/virta/Input" "atStart" "Z" (.int (1 : Int32)) := Fld.same W4 F_a_atStart_3
  have N4 := Fr.snoc X4 N3 ga_a
  have sz_4 := Nat.le_trans sz_3 (Nat.le_of_eq (Wr.size W4).symm)
  refine own_go (T' := T4) (g' := (mkF m 19 #[.val (.ref a), .val (.ref r0)] [])) st4 ?_
  refine own_go (T' := T4) (g' := (mkF m 21 #[.val (.ref a), .val (.ref r0)] [.null, (.ref a)])) (fun t k => ?_) ?_
  · show Steps p.tables e below (T4.setTop (mkF m 19 #[.val (.ref a), .val (.ref r0)] [])) t
    refine XS.aloadN X4.here hx rfl (hb hby d1_19) rfl rfl ?_
    show Steps p.tables e below (T4.setTop (mkF m 20 #[.val (.ref a), .val (.ref r0)] [(.ref a)])) _
    refine XS.aconstNull X4.here hx rfl (hb hby d1_20) ?_
    show Steps p.tables e below (T4.setTop (mkF m 21 #[.val (.ref a), .val (.ref r0)] [.null, (.ref a)])) _
    exact k
  obtain ⟨T5, h5, X5, e5, W5, st5⟩ := putF X4 hx hZ hown (host := "") (Or.inl (hw _ (List.mem_of_getElem? (i := 17) rfl))) Via.refl e4 F_a_reader_4 E_a_4 (Or.inr ⟨(hw _ (List.mem_of_getElem? (i := 18) rfl)), rfl, hnm⟩) (hw _ (List.mem_of_getElem? (i := 3) rfl)) (ty := (.object "java/io/Reader")) (by decide) rfl rfl (g := (mkF m 21 #[.val (.ref a), .val (.ref r0)] [.null, (.ref a)])) rfl rfl (hb hby d1_21)
  have V_r0_5 := V_r0_4.other W5 (Nat.ne_of_lt lt_r)
  have E_a_5 := Exa.wr W5 E_a_4
  have F_a_line_5 := Fld.other W5 F_a_line_4 (Or.inr (slot_ne (Or.inl (hw _ (List.mem_of_getElem? (i := 12) rfl))) (Or.inr (hw _ (List.mem_of_getElem? (i := 18) rfl))) (by decide) (t := .int) (t' := (.object "java/io/Reader")) (by decide) (by decide)))
  have F_a_column_5 := Fld.other W5 F_a_column_4 (Or.inr (slot_ne (Or.inl (hw _ (List.mem_of_getElem? (i := 14) rfl))) (Or.inr (hw _ (List.mem_of_getElem? (i := 18) rfl))) (by decide) (t := .int) (t' := (.object "java/io/Reader")) (by decide) (by decide)))
  have F_a_buffer_5 := Fld.other W5 F_a_buffer_4 (Or.inr (slot_ne (Or.inr (hw _ (List.mem_of_getElem? (i := 20) rfl))) (Or.inr (hw _ (List.mem_of_getElem? (i := 18) rfl))) (by decide) (t := (.array .char)) (t' := (.object "java/io/Reader")) (by decide) (by decide)))
  have F_a_publicId_5 := Fld.other W5 F_a_publicId_4 (Or.inr (slot_ne (Or.inr (hw _ (List.mem_of_getElem? (i := 22) rfl))) (Or.inr (hw _ (List.mem_of_getElem? (i := 18) rfl))) (by decide) (t := (.object "java/lang/String")) (t' := (.object "java/io/Reader")) (by decide) (by decide)))
  have F_a_systemId_5 := Fld.other W5 F_a_systemId_4 (Or.inr (slot_ne (Or.inr (hw _ (List.mem_of_getElem? (i := 24) rfl))) (Or.inr (hw _ (List.mem_of_getElem? (i := 18) rfl))) (by decide) (t := (.object "java/lang/String")) (t' := (.object "java/io/Reader")) (by decide) (by decide)))
  have F_a_base_5 := Fld.other W5 F_a_base_4 (Or.inr (slot_ne (Or.inr (hw _ (List.mem_of_getElem? (i := 26) rfl))) (Or.inr (hw _ (List.mem_of_getElem? (i := 18) rfl))) (by decide) (t := (.object "java/lang/String")) (t' := (.object "java/io/Reader")) (by decide) (by decide)))
  have F_a_givenEncoding_5 := Fld.other W5 F_a_givenEncoding_4 (Or.inr (slot_ne (Or.inr (hw _ (List.mem_of_getElem? (i := 28) rfl))) (Or.inr (hw _ (List.mem_of_getElem? (i := 18) rfl))) (by decide) (t := (.object "java/lang/String")) (t' := (.object "java/io/Reader")) (by decide) (by decide)))
  have F_a_digestLanes_5 := Fld.other W5 F_a_digestLanes_4 (Or.inr (slot_ne (Or.inr (hw _ (List.mem_of_getElem? (i := 30) rfl))) (Or.inr (hw _ (List.mem_of_getElem? (i := 18) rfl))) (by decide) (t := (.array .long)) (t' := (.object "java/io/Reader")) (by decide) (by decide)))
  have F_a_checked_5 := Fld.other W5 F_a_checked_4 (Or.inr (slot_ne (Or.inl (hw _ (List.mem_of_getElem? (i := 32) rfl))) (Or.inr (hw _ (List.mem_of_getElem? (i := 18) rfl))) (by decide) (t := .int) (t' := (.object "java/io/Reader")) (by decide) (by decide)))
  have F_a_limit_5 := Fld.other W5 F_a_limit_4 (Or.inr (slot_ne (Or.inl (hw _ (List.mem_of_getElem? (i := 34) rfl))) (Or.inr (hw _ (List.mem_of_getElem? (i := 18) rfl))) (by decide) (t := .int) (t' := (.object "java/io/Reader")) (by decide) (by decide)))
  have F_a_checkedSoFar_5 := Fld.other W5 F_a_checkedSoFar_4 (Or.inr (slot_ne (Or.inl (hw _ (List.mem_of_getElem? (i := 36) rfl))) (Or.inr (hw _ (List.mem_of_getElem? (i := 18) rfl))) (by decide) (t := .long) (t' := (.object "java/io/Reader")) (by decide) (by decide)))
  have F_a_endOfText_5 := Fld.other W5 F_a_endOfText_4 (Or.inr (slot_ne (Or.inl (hw _ (List.mem_of_getElem? (i := 38) rfl))) (Or.inr (hw _ (List.mem_of_getElem? (i := 18) rfl))) (by decide) (t := .boolean) (t' := (.object "java/io/Reader")) (by decide) (by decide)))
  have F_a_position_5 := Fld.other W5 F_a_position_4 (Or.inr (slot_ne (Or.inl (hw _ (List.mem_of_getElem? (i := 50) rfl))) (Or.inr (hw _ (List.mem_of_getElem? (i := 18) rfl))) (by decide) (t := .int) (t' := (.object "java/io/Reader")) (by decide) (by decide)))
  have K5 := K4.wr W5 (Or.inl (List.mem_of_getElem? (i := 0) rfl))
  have F_a_reader_5 : Fld Z h5 a "com/example/virta/virta/Input" "reader" "Ljava/io/Reader;" .null := Fld.same W5 F_a_reader_4
  have N5 := Fr.snoc X5 N4 ga_a
  have sz_5 := Nat.le_trans sz_4 (Nat.le_of_eq (Wr.size W5).symm)
  refine own_go (T' := T5) (g' := (mkF m 24 #[.val (.ref a), .val (.ref r0)] [])) st5 ?_
  refine own_go (T' := T5) (g' := (mkF m 26 #[.val (.ref a), .val (.ref r0)] [(.ref r0), (.ref a)])) (fun t k => ?_) ?_
  · show Steps p.tables e below (T5.setTop (mkF m 24 #[.val (.ref a), .val (.ref r0)] [])) t
    refine XS.aloadN X5.here hx rfl (hb hby d1_24) rfl rfl ?_
    show Steps p.tables e below (T5.setTop (mkF m 25 #[.val (.ref a), .val (.ref r0)] [(.ref a)])) _
    refine XS.aloadN X5.here hx rfl (hb hby d1_25) rfl rfl ?_
    show Steps p.tables e below (T5.setTop (mkF m 26 #[.val (.ref a), .val (.ref r0)] [(.ref r0), (.ref a)])) _
    exact k
  obtain ⟨T6, h6, X6, e6, W6, st6⟩ := putF X5 hx hZ hown (host := "") (Or.inl (hw _ (List.mem_of_getElem? (i := 19) rfl))) Via.refl e5 F_a_buffer_5 E_a_5 (Or.inr ⟨(hw _ (List.mem_of_getElem? (i := 20) rfl)), rfl, hnm⟩) (hw _ (List.mem_of_getElem? (i := 3) rfl)) (ty := (.array .char)) (by decide) rfl rfl (g := (mkF m 26 #[.val (.ref a), .val (.ref r0)] [(.ref r0), (.ref a)])) rfl rfl (hb hby d1_26)
  have V_r0_6 := V_r0_5.other W6 (Nat.ne_of_lt lt_r)
  have E_a_6 := Exa.wr W6 E_a_5
  have F_a_line_6 := Fld.other W6 F_a_line_5 (Or.inr (slot_ne (Or.inl (hw _ (List.mem_of_getElem? (i := 12) rfl))) (Or.inr (hw _ (List.mem_of_getElem? (i := 20) rfl))) (by decide) (t := .int) (t' := (.array .char)) (by decide) (by decide)))
  have F_a_column_6 := Fld.other W6 F_a_column_5 (Or.inr (slot_ne (Or.inl (hw _ (List.mem_of_getElem? (i := 14) rfl))) (Or.inr (hw _ (List.mem_of_getElem? (i := 20) rfl))) (by decide) (t := .int) (t' := (.array .char)) (by decide) (by decide)))
  have F_a_publicId_6 := Fld.other W6 F_a_publicId_5 (Or.inr (slot_ne (Or.inr (hw _ (List.mem_of_getElem? (i := 22) rfl))) (Or.inr (hw _ (List.mem_of_getElem? (i := 20) rfl))) (by decide) (t := (.object "java/lang/String")) (t' := (.array .char)) (by decide) (by decide)))
  have F_a_systemId_6 := Fld.other W6 F_a_systemId_5 (Or.inr (slot_ne (Or.inr (hw _ (List.mem_of_getElem? (i := 24) rfl))) (Or.inr (hw _ (List.mem_of_getElem? (i := 20) rfl))) (by decide) (t := (.object "java/lang/String")) (t' := (.array .char)) (by decide) (by decide)))
  have F_a_base_6 := Fld.other W6 F_a_base_5 (Or.inr (slot_ne (Or.inr (hw _ (List.mem_of_getElem? (i := 26) rfl))) (Or.inr (hw _ (List.mem_of_getElem? (i := 20) rfl))) (by decide) (t := (.object "java/lang/String")) (t' := (.array .char)) (by decide) (by decide)))
  have F_a_givenEncoding_6 := Fld.other W6 F_a_givenEncoding_5 (Or.inr (slot_ne (Or.inr (hw _ (List.mem_of_getElem? (i := 28) rfl))) (Or.inr (hw _ (List.mem_of_getElem? (i := 20) rfl))) (by decide) (t := (.object "java/lang/String")) (t' := (.array .char)) (by decide) (by decide)))
  have F_a_digestLanes_6 := Fld.other W6 F_a_digestLanes_5 (Or.inr (slot_ne (Or.inr (hw _ (List.mem_of_getElem? (i := 30) rfl))) (Or.inr (hw _ (List.mem_of_getElem? (i := 20) rfl))) (by decide) (t := (.array .long)) (t' := (.array .char)) (by decide) (by decide)))
  have F_a_checked_6 := Fld.other W6 F_a_checked_5 (Or.inr (slot_ne (Or.inl (hw _ (List.mem_of_getElem? (i := 32) rfl))) (Or.inr (hw _ (List.mem_of_getElem? (i := 20) rfl))) (by decide) (t := .int) (t' := (.array .char)) (by decide) (by decide)))
  have F_a_limit_6 := Fld.other W6 F_a_limit_5 (Or.inr (slot_ne (Or.inl (hw _ (List.mem_of_getElem? (i := 34) rfl))) (Or.inr (hw _ (List.mem_of_getElem? (i := 20) rfl))) (by decide) (t := .int) (t' := (.array .char)) (by decide) (by decide)))
  have F_a_checkedSoFar_6 := Fld.other W6 F_a_checkedSoFar_5 (Or.inr (slot_ne (Or.inl (hw _ (List.mem_of_getElem? (i := 36) rfl))) (Or.inr (hw _ (List.mem_of_getElem? (i := 20) rfl))) (by decide) (t := .long) (t' := (.array .char)) (by decide) (by decide)))
  have F_a_endOfText_6 := Fld.other W6 F_a_endOfText_5 (Or.inr (slot_ne (Or.inl (hw _ (List.mem_of_getElem? (i := 38) rfl))) (Or.inr (hw _ (List.mem_of_getElem? (i := 20) rfl))) (by decide) (t := .boolean) (t' := (.array .char)) (by decide) (by decide)))
  have F_a_position_6 := Fld.other W6 F_a_position_5 (Or.inr (slot_ne (Or.inl (hw _ (List.mem_of_getElem? (i := 50) rfl))) (Or.inr (hw _ (List.mem_of_getElem? (i := 20) rfl))) (by decide) (t := .int) (t' := (.array .char)) (by decide) (by decide)))
  have K6 := K5.wr W6 (Or.inl (List.mem_of_getElem? (i := 0) rfl))
  have F_a_buffer_6 : Fld Z h6 a "com/example/virta/virta/Input" "buffer" "[C" (.ref r0) := Fld.same W6 F_a_buffer_5
  have N6 := Fr.snoc X6 N5 ga_a
  have sz_6 := Nat.le_trans sz_5 (Nat.le_of_eq (Wr.size W6).symm)
  refine own_go (T' := T6) (g' := (mkF m 29 #[.val (.ref a), .val (.ref r0)] [])) st6 ?_
  refine own_go (T' := T6) (g' := (mkF m 31 #[.val (.ref a), .val (.ref r0)] [.null, (.ref a)])) (fun t k => ?_) ?_
  · show Steps p.tables e below (T6.setTop (mkF m 29 #[.val (.ref a), .val (.ref r0)] [])) t
    refine XS.aloadN X6.here hx rfl (hb hby d1_29) rfl rfl ?_
    show Steps p.tables e below (T6.setTop (mkF m 30 #[.val (.ref a), .val (.ref r0)] [(.ref a)])) _
    refine XS.aconstNull X6.here hx rfl (hb hby d1_30) ?_
    show Steps p.tables e below (T6.setTop (mkF m 31 #[.val (.ref a), .val (.ref r0)] [.null, (.ref a)])) _
    exact k
  obtain ⟨T7, h7, X7, e7, W7, st7⟩ := putF X6 hx hZ hown (host := "") (Or.inl (hw _ (List.mem_of_getElem? (i := 21) rfl))) Via.refl e6 F_a_publicId_6 E_a_6 (Or.inr ⟨(hw _ (List.mem_of_getElem? (i := 22) rfl)), rfl, hnm⟩) (hw _ (List.mem_of_getElem? (i := 3) rfl)) (ty := (.object "java/lang/String")) (by decide) rfl rfl (g := (mkF m 31 #[.val (.ref a), .val (.ref r0)] [.null, (.ref a)])) rfl rfl (hb hby d1_31)
  have V_r0_7 := V_r0_6.other W7 (Nat.ne_of_lt lt_r)
  have E_a_7 := Exa.wr W7 E_a_6
  have F_a_line_7 := Fld.other W7 F_a_line_6 (Or.inr (slot_ne (Or.inl (hw _ (List.mem_of_getElem? (i := 12) rfl))) (Or.inr (hw _ (List.mem_of_getElem? (i := 22) rfl))) (by decide) (t := .int) (t' := (.object "java/lang/String")) (by decide) (by decide)))
  have F_a_column_7 := Fld.other W7 F_a_column_6 (Or.inr (slot_ne (Or.inl (hw _ (List.mem_of_getElem? (i := 14) rfl))) (Or.inr (hw _ (List.mem_of_getElem? (i := 22) rfl))) (by decide) (t := .int) (t' := (.object "java/lang/String")) (by decide) (by decide)))
  have F_a_buffer_7 := Fld.other W7 F_a_buffer_6 (Or.inr (slot_ne (Or.inr (hw _ (List.mem_of_getElem? (i := 20) rfl))) (Or.inr (hw _ (List.mem_of_getElem? (i := 22) rfl))) (by decide) (t := (.array .char)) (t' := (.object "java/lang/String")) (by decide) (by decide)))
  have F_a_systemId_7 := Fld.other W7 F_a_systemId_6 (Or.inr (slot_ne (Or.inr (hw _ (List.mem_of_getElem? (i := 24) rfl))) (Or.inr (hw _ (List.mem_of_getElem? (i := 22) rfl))) (by decide) (t := (.object "java/lang/String")) (t' := (.object "java/lang/String")) (by decide) (by decide)))
  have F_a_base_7 := Fld.other W7 F_a_base_6 (Or.inr (slot_ne (Or.inr (hw _ (List.mem_of_getElem? (i := 26) rfl))) (Or.inr (hw _ (List.mem_of_getElem? (i := 22) rfl))) (by decide) (t := (.object "java/lang/String")) (t' := (.object "java/lang/String")) (by decide) (by decide)))
  have F_a_givenEncoding_7 := Fld.other W7 F_a_givenEncoding_6 (Or.inr (slot_ne (Or.inr (hw _ (List.mem_of_getElem? (i := 28) rfl))) (Or.inr (hw _ (List.mem_of_getElem? (i := 22) rfl))) (by decide) (t := (.object "java/lang/String")) (t' := (.object "java/lang/String")) (by decide) (by decide)))
  have F_a_digestLanes_7 := Fld.other W7 F_a_digestLanes_6 (Or.inr (slot_ne (Or.inr (hw _ (List.mem_of_getElem? (i := 30) rfl))) (Or.inr (hw _ (List.mem_of_getElem? (i := 22) rfl))) (by decide) (t := (.array .long)) (t' := (.object "java/lang/String")) (by decide) (by decide)))
  have F_a_checked_7 := Fld.other W7 F_a_checked_6 (Or.inr (slot_ne (Or.inl (hw _ (List.mem_of_getElem? (i := 32) rfl))) (Or.inr (hw _ (List.mem_of_getElem? (i := 22) rfl))) (by decide) (t := .int) (t' := (.object "java/lang/String")) (by decide) (by decide)))
  have F_a_limit_7 := Fld.other W7 F_a_limit_6 (Or.inr (slot_ne (Or.inl (hw _ (List.mem_of_getElem? (i := 34) rfl))) (Or.inr (hw _ (List.mem_of_getElem? (i := 22) rfl))) (by decide) (t := .int) (t' := (.object "java/lang/String")) (by decide) (by decide)))
  have F_a_checkedSoFar_7 := Fld.other W7 F_a_checkedSoFar_6 (Or.inr (slot_ne (Or.inl (hw _ (List.mem_of_getElem? (i := 36) rfl))) (Or.inr (hw _ (List.mem_of_getElem? (i := 22) rfl))) (by decide) (t := .long) (t' := (.object "java/lang/String")) (by decide) (by decide)))
  have F_a_endOfText_7 := Fld.other W7 F_a_endOfText_6 (Or.inr (slot_ne (Or.inl (hw _ (List.mem_of_getElem? (i := 38) rfl))) (Or.inr (hw _ (List.mem_of_getElem? (i := 22) rfl))) (by decide) (t := .boolean) (t' := (.object "java/lang/String")) (by decide) (by decide)))
  have F_a_position_7 := Fld.other W7 F_a_position_6 (Or.inr (slot_ne (Or.inl (hw _ (List.mem_of_getElem? (i := 50) rfl))) (Or.inr (hw _ (List.mem_of_getElem? (i := 22) rfl))) (by decide) (t := .int) (t' := (.object "java/lang/String")) (by decide) (by decide)))
  have K7 := K6.wr W7 (Or.inl (List.mem_of_getElem? (i := 0) rfl))
  have F_a_publicId_7 : Fld Z h7 a "com/example/virta/virta/Input" "publicId" "Ljava/lang/String;" .null := Fld.same W7 F_a_publicId_6
  have N7 := Fr.snoc X7 N6 ga_a
  have sz_7 := Nat.le_trans sz_6 (Nat.le_of_eq (Wr.size W7).symm)
  refine own_go (T' := T7) (g' := (mkF m 34 #[.val (.ref a), .val (.ref r0)] [])) st7 ?_
  refine own_go (T' := T7) (g' := (mkF m 36 #[.val (.ref a), .val (.ref r0)] [.null, (.ref a)])) (fun t k => ?_) ?_
  · show Steps p.tables e below (T7.setTop (mkF m 34 #[.val (.ref a), .val (.ref r0)] [])) t
    refine XS.aloadN X7.here hx rfl (hb hby d1_34) rfl rfl ?_
    show Steps p.tables e below (T7.setTop (mkF m 35 #[.val (.ref a), .val (.ref r0)] [(.ref a)])) _
    refine XS.aconstNull X7.here hx rfl (hb hby d1_35) ?_
    show Steps p.tables e below (T7.setTop (mkF m 36 #[.val (.ref a), .val (.ref r0)] [.null, (.ref a)])) _
    exact k
  obtain ⟨T8, h8, X8, e8, W8, st8⟩ := putF X7 hx hZ hown (host := "") (Or.inl (hw _ (List.mem_of_getElem? (i := 23) rfl))) Via.refl e7 F_a_systemId_7 E_a_7 (Or.inr ⟨(hw _ (List.mem_of_getElem? (i := 24) rfl)), rfl, hnm⟩) (hw _ (List.mem_of_getElem? (i := 3) rfl)) (ty := (.object "java/lang/String")) (by decide) rfl rfl (g := (mkF m 36 #[.val (.ref a), .val (.ref r0)] [.null, (.ref a)])) rfl rfl (hb hby d1_36)
  have V_r0_8 := V_r0_7.other W8 (Nat.ne_of_lt lt_r)
  have E_a_8 := Exa.wr W8 E_a_7
  have F_a_line_8 := Fld.other W8 F_a_line_7 (Or.inr (slot_ne (Or.inl (hw _ (List.mem_of_getElem? (i := 12) rfl))) (Or.inr (hw _ (List.mem_of_getElem? (i := 24) rfl))) (by decide) (t := .int) (t' := (.object "java/lang/String")) (by decide) (by decide)))
  have F_a_column_8 := Fld.other W8 F_a_column_7 (Or.inr (slot_ne (Or.inl (hw _ (List.mem_of_getElem? (i := 14) rfl))) (Or.inr (hw _ (List.mem_of_getElem? (i := 24) rfl))) (by decide) (t := .int) (t' := (.object "java/lang/String")) (by decide) (by decide)))
  have F_a_buffer_8 := Fld.other W8 F_a_buffer_7 (Or.inr (slot_ne (Or.inr (hw _ (List.mem_of_getElem? (i := 20) rfl))) (Or.inr (hw _ (List.mem_of_getElem? (i := 24) rfl))) (by decide) (t := (.array .char)) (t' := (.object "java/lang/String")) (by decide) (by decide)))
  have F_a_base_8 := Fld.other W8 F_a_base_7 (Or.inr (slot_ne (Or.inr (hw _ (List.mem_of_getElem? (i := 26) rfl))) (Or.inr (hw _ (List.mem_of_getElem? (i := 24) rfl))) (by decide) (t := (.object "java/lang/String")) (t' := (.object "java/lang/String")) (by decide) (by decide)))
  have F_a_givenEncoding_8 := Fld.other W8 F_a_givenEncoding_7 (Or.inr (slot_ne (Or.inr (hw _ (List.mem_of_getElem? (i := 28) rfl))) (Or.inr (hw _ (List.mem_of_getElem? (i := 24) rfl))) (by decide) (t := (.object "java/lang/String")) (t' := (.object "java/lang/String")) (by decide) (by decide)))
  have F_a_digestLanes_8 := Fld.other W8 F_a_digestLanes_7 (Or.inr (slot_ne (Or.inr (hw _ (List.mem_of_getElem? (i := 30) rfl))) (Or.inr (hw _ (List.mem_of_getElem? (i := 24) rfl))) (by decide) (t := (.array .long)) (t' := (.object "java/lang/String")) (by decide) (by decide)))
  have F_a_checked_8 := Fld.other W8 F_a_checked_7 (Or.inr (slot_ne (Or.inl (hw _ (List.mem_of_getElem? (i := 32) rfl))) (Or.inr (hw _ (List.mem_of_getElem? (i := 24) rfl))) (by decide) (t := .int) (t' := (.object "java/lang/String")) (by decide) (by decide)))
  have F_a_limit_8 := Fld.other W8 F_a_limit_7 (Or.inr (slot_ne (Or.inl (hw _ (List.mem_of_getElem? (i := 34) rfl))) (Or.inr (hw _ (List.mem_of_getElem? (i := 24) rfl))) (by decide) (t := .int) (t' := (.object "java/lang/String")) (by decide) (by decide)))
  have F_a_checkedSoFar_8 := Fld.other W8 F_a_checkedSoFar_7 (Or.inr (slot_ne (Or.inl (hw _ (List.mem_of_getElem? (i := 36) rfl))) (Or.inr (hw _ (List.mem_of_getElem? (i := 24) rfl))) (by decide) (t := .long) (t' := (.object "java/lang/String")) (by decide) (by decide)))
  have F_a_endOfText_8 := Fld.other W8 F_a_endOfText_7 (Or.inr (slot_ne (Or.inl (hw _ (List.mem_of_getElem? (i := 38) rfl))) (Or.inr (hw _ (List.mem_of_getElem? (i := 24) rfl))) (by decide) (t := .boolean) (t' := (.object "java/lang/String")) (by decide) (by decide)))
  have F_a_position_8 := Fld.other W8 F_a_position_7 (Or.inr (slot_ne (Or.inl (hw _ (List.mem_of_getElem? (i := 50) rfl))) (Or.inr (hw _ (List.mem_of_getElem? (i := 24) rfl))) (by decide) (t := .int) (t' := (.object "java/lang/String")) (by decide) (by decide)))
  have K8 := K7.wr W8 (Or.inl (List.mem_of_getElem? (i := 0) rfl))
  have F_a_systemId_8 : Fld Z h8 a "com/example/virta/virta/Input" "systemId" "Ljava/lang/String;" .null := Fld.same W8 F_a_systemId_7
  have N8 := Fr.snoc X8 N7 ga_a
  have sz_8 := Nat.le_trans sz_7 (Nat.le_of_eq (Wr.size W8).symm)
  refine own_go (T' := T8) (g' := (mkF m 39 #[.val (.ref a), .val (.ref r0)] [])) st8 ?_
  refine own_go (T' := T8) (g' := (mkF m 41 #[.val (.ref a), .val (.ref r0)] [.null, (.ref a)])) (fun t k => ?_) ?_
  · show Steps p.tables e below (T8.setTop (mkF m 39 #[.val (.ref a), .val (.ref r0)] [])) t
    refine XS.aloadN X8.here hx rfl (hb hby d1_39) rfl rfl ?_
    show Steps p.tables e below (T8.setTop (mkF m 40 #[.val (.ref a), .val (.ref r0)] [(.ref a)])) _
    refine XS.aconstNull X8.here hx rfl (hb hby d1_40) ?_
    show Steps p.tables e below (T8.setTop (mkF m 41 #[.val (.ref a), .val (.ref r0)] [.null, (.ref a)])) _
    exact k
  obtain ⟨T9, h9, X9, e9, W9, st9⟩ := putF X8 hx hZ hown (host := "") (Or.inl (hw _ (List.mem_of_getElem? (i := 25) rfl))) Via.refl e8 F_a_base_8 E_a_8 (Or.inr ⟨(hw _ (List.mem_of_getElem? (i := 26) rfl)), rfl, hnm⟩) (hw _ (List.mem_of_getElem? (i := 3) rfl)) (ty := (.object "java/lang/String")) (by decide) rfl rfl (g := (mkF m 41 #[.val (.ref a), .val (.ref r0)] [.null, (.ref a)])) rfl rfl (hb hby d1_41)
  have V_r0_9 := V_r0_8.other W9 (Nat.ne_of_lt lt_r)
  have E_a_9 := Exa.wr W9 E_a_8
  have F_a_line_9 := Fld.other W9 F_a_line_8 (Or.inr (slot_ne (Or.inl (hw _ (List.mem_of_getElem? (i := 12) rfl))) (Or.inr (hw _ (List.mem_of_getElem? (i := 26) rfl))) (by decide) (t := .int) (t' := (.object "java/lang/String")) (by decide) (by decide)))
  have F_a_column_9 := Fld.other W9 F_a_column_8 (Or.inr (slot_ne (Or.inl (hw _ (List.mem_of_getElem? (i := 14) rfl))) (Or.inr (hw _ (List.mem_of_getElem? (i := 26) rfl))) (by decide) (t := .int) (t' := (.object "java/lang/String")) (by decide) (by decide)))
  have F_a_buffer_9 := Fld.other W9 F_a_buffer_8 (Or.inr (slot_ne (Or.inr (hw _ (List.mem_of_getElem? (i := 20) rfl))) (Or.inr (hw _ (List.mem_of_getElem? (i := 26) rfl))) (by decide) (t := (.array .char)) (t' := (.object "java/lang/String")) (by decide) (by decide)))
  have F_a_givenEncoding_9 := Fld.other W9 F_a_givenEncoding_8 (Or.inr (slot_ne (Or.inr (hw _ (List.mem_of_getElem? (i := 28) rfl))) (Or.inr (hw _ (List.mem_of_getElem? (i := 26) rfl))) (by decide) (t := (.object "java/lang/String")) (t' := (.object "java/lang/String")) (by decide) (by decide)))
  have F_a_digestLanes_9 := Fld.other W9 F_a_digestLanes_8 (Or.inr (slot_ne (Or.inr (hw _ (List.mem_of_getElem? (i := 30) rfl))) (Or.inr (hw _ (List.mem_of_getElem? (i := 26) rfl))) (by decide) (t := (.array .long)) (t' := (.object "java/lang/String")) (by decide) (by decide)))
  have F_a_checked_9 := Fld.other W9 F_a_checked_8 (Or.inr (slot_ne (Or.inl (hw _ (List.mem_of_getElem? (i := 32) rfl))) (Or.inr (hw _ (List.mem_of_getElem? (i := 26) rfl))) (by decide) (t := .int) (t' := (.object "java/lang/String")) (by decide) (by decide)))
  have F_a_limit_9 := Fld.other W9 F_a_limit_8 (Or.inr (slot_ne (Or.inl (hw _ (List.mem_of_getElem? (i := 34) rfl))) (Or.inr (hw _ (List.mem_of_getElem? (i := 26) rfl))) (by decide) (t := .int) (t' := (.object "java/lang/String")) (by decide) (by decide)))
  have F_a_checkedSoFar_9 := Fld.other W9 F_a_checkedSoFar_8 (Or.inr (slot_ne (Or.inl (hw _ (List.mem_of_getElem? (i := 36) rfl))) (Or.inr (hw _ (List.mem_of_getElem? (i := 26) rfl))) (by decide) (t := .long) (t' := (.object "java/lang/String")) (by decide) (by decide)))
  have F_a_endOfText_9 := Fld.other W9 F_a_endOfText_8 (Or.inr (slot_ne (Or.inl (hw _ (List.mem_of_getElem? (i := 38) rfl))) (Or.inr (hw _ (List.mem_of_getElem? (i := 26) rfl))) (by decide) (t := .boolean) (t' := (.object "java/lang/String")) (by decide) (by decide)))
  have F_a_position_9 := Fld.other W9 F_a_position_8 (Or.inr (slot_ne (Or.inl (hw _ (List.mem_of_getElem? (i := 50) rfl))) (Or.inr (hw _ (List.mem_of_getElem? (i := 26) rfl))) (by decide) (t := .int) (t' := (.object "java/lang/String")) (by decide) (by decide)))
  have K9 := K8.wr W9 (Or.inl (List.mem_of_getElem? (i := 0) rfl))
  have F_a_base_9 : Fld Z h9 a "com/example/virta/virta/Input" "base" "Ljava/lang/String;" .null := Fld.same W9 F_a_base_8
  have N9 := Fr.snoc X9 N8 ga_a
  have sz_9 := Nat.le_trans sz_8 (Nat.le_of_eq (Wr.size W9).symm)
  refine own_go (T' := T9) (g' := (mkF m 44 #[.val (.ref a), .val (.ref r0)] [])) st9 ?_
  refine own_go (T' := T9) (g' := (mkF m 46 #[.val (.ref a), .val (.ref r0)] [.null, (.ref a)])) (fun t k => ?_) ?_
  · show Steps p.tables e below (T9.setTop (mkF m 44 #[.val (.ref a), .val (.ref r0)] [])) t
    refine XS.aloadN X9.here hx rfl (hb hby d1_44) rfl rfl ?_
    show Steps p.tables e below (T9.setTop (mkF m 45 #[.val (.ref a), .val (.ref r0)] [(.ref a)])) _
    refine XS.aconstNull X9.here hx rfl (hb hby d1_45) ?_
    show Steps p.tables e below (T9.setTop (mkF m 46 #[.val (.ref a), .val (.ref r0)] [.null, (.ref a)])) _
    exact k
  obtain ⟨T10, h10, X10, e10, W10, st10⟩ := putF X9 hx hZ hown (host := "") (Or.inl (hw _ (List.mem_of_getElem? (i := 27) rfl))) Via.refl e9 F_a_givenEncoding_9 E_a_9 (Or.inr ⟨(hw _ (List.mem_of_getElem? (i := 28) rfl)), rfl, hnm⟩) (hw _ (List.mem_of_getElem? (i := 3) rfl)) (ty := (.object "java/lang/String")) (by decide) rfl rfl (g := (mkF m 46 #[.val (.ref a), .val (.ref r0)] [.null, (.ref a)])) rfl rfl (hb hby d1_46)
  have V_r0_10 := V_r0_9.other W10 (Nat.ne_of_lt lt_r)
  have E_a_10 := Exa.wr W10 E_a_9
  have F_a_line_10 := Fld.other W10 F_a_line_9 (Or.inr (slot_ne (Or.inl (hw _ (List.mem_of_getElem? (i := 12) rfl))) (Or.inr (hw _ (List.mem_of_getElem? (i := 28) rfl))) (by decide) (t := .int) (t' := (.object "java/lang/String")) (by decide) (by decide)))
  have F_a_column_10 := Fld.other W10 F_a_column_9 (Or.inr (slot_ne (Or.inl (hw _ (List.mem_of_getElem? (i := 14) rfl))) (Or.inr (hw _ (List.mem_of_getElem? (i := 28) rfl))) (by decide) (t := .int) (t' := (.object "java/lang/String")) (by decide) (by decide)))
  have F_a_buffer_10 := Fld.other W10 F_a_buffer_9 (Or.inr (slot_ne (Or.inr (hw _ (List.mem_of_getElem? (i := 20) rfl))) (Or.inr (hw _ (List.mem_of_getElem? (i := 28) rfl))) (by decide) (t := (.array .char)) (t' := (.object "java/lang/String")) (by decide) (by decide)))
  have F_a_digestLanes_10 := Fld.other W10 F_a_digestLanes_9 (Or.inr (slot_ne (Or.inr (hw _ (List.mem_of_getElem? (i := 30) rfl))) (Or.inr (hw _ (List.mem_of_getElem? (i := 28) rfl))) (by decide) (t := (.array .long)) (t' := (.object "java/lang/String")) (by decide) (by decide)))
  have F_a_checked_10 := Fld.other W10 F_a_checked_9 (Or.inr (slot_ne (Or.inl (hw _ (List.mem_of_getElem? (i := 32) rfl))) (Or.inr (hw _ (List.mem_of_getElem? (i := 28) rfl))) (by decide) (t := .int) (t' := (.object "java/lang/String")) (by decide) (by decide)))
  have F_a_limit_10 := Fld.other W10 F_a_limit_9 (Or.inr (slot_ne (Or.inl (hw _ (List.mem_of_getElem? (i := 34) rfl))) (Or.inr (hw _ (List.mem_of_getElem? (i := 28) rfl))) (by decide) (t := .int) (t' := (.object "java/lang/String")) (by decide) (by decide)))
  have F_a_checkedSoFar_10 := Fld.other W10 F_a_checkedSoFar_9 (Or.inr (slot_ne (Or.inl (hw _ (List.mem_of_getElem? (i := 36) rfl))) (Or.inr (hw _ (List.mem_of_getElem? (i := 28) rfl))) (by decide) (t := .long) (t' := (.object "java/lang/String")) (by decide) (by decide)))
  have F_a_endOfText_10 := Fld.other W10 F_a_endOfText_9 (Or.inr (slot_ne (Or.inl (hw _ (List.mem_of_getElem? (i := 38) rfl))) (Or.inr (hw _ (List.mem_of_getElem? (i := 28) rfl))) (by decide) (t := .boolean) (t' := (.object "java/lang/String")) (by decide) (by decide)))
  have F_a_position_10 := Fld.other W10 F_a_position_9 (Or.inr (slot_ne (Or.inl (hw _ (List.mem_of_getElem? (i := 50) rfl))) (Or.inr (hw _ (List.mem_of_getElem? (i := 28) rfl))) (by decide) (t := .int) (t' := (.object "java/lang/String")) (by decide) (by decide)))
  have K10 := K9.wr W10 (Or.inl (List.mem_of_getElem? (i := 0) rfl))
  have F_a_givenEncoding_10 : Fld Z h10 a "com/example/virta/virta/Input" "givenEncoding" "Ljava/lang/String;" .null := Fld.same W10 F_a_givenEncoding_9
  have N10 := Fr.snoc X10 N9 ga_a
  have sz_10 := Nat.le_trans sz_9 (Nat.le_of_eq (Wr.size W10).symm)
  refine own_go (T' := T10) (g' := (mkF m 49 #[.val (.ref a), .val (.ref r0)] [])) st10 ?_
  refine own_go (T' := T10) (g' := (mkF m 51 #[.val (.ref a), .val (.ref r0)] [.null, (.ref a)])) (fun t k => ?_) ?_
  · show Steps p.tables e below (T10.setTop (mkF m 49 #[.val (.ref a), .val (.ref r0)] [])) t
    refine XS.aloadN X10.here hx rfl (hb hby d1_49) rfl rfl ?_
    show Steps p.tables e below (T10.setTop (mkF m 50 #[.val (.ref a), .val (.ref r0)] [(.ref a)])) _
    refine XS.aconstNull X10.here hx rfl (hb hby d1_50) ?_
    show Steps p.tables e below (T10.setTop (mkF m 51 #[.val (.ref a), .val (.ref r0)] [.null, (.ref a)])) _
    exact k
  obtain ⟨T11, h11, X11, e11, W11, st11⟩ := putF X10 hx hZ hown (host := "") (Or.inl (hw _ (List.mem_of_getElem? (i := 29) rfl))) Via.refl e10 F_a_digestLanes_10 E_a_10 (Or.inr ⟨(hw _ (List.mem_of_getElem? (i := 30) rfl)), rfl, hnm⟩) (hw _ (List.mem_of_getElem? (i := 3) rfl)) (ty := (.array .long)) (by decide) rfl rfl (g := (mkF m 51 #[.val (.ref a), .val (.ref r0)] [.null, (.ref a)])) rfl rfl (hb hby d1_51)
  have V_r0_11 := V_r0_10.other W11 (Nat.ne_of_lt lt_r)
  have E_a_11 := Exa.wr W11 E_a_10
  have F_a_line_11 := Fld.other W11 F_a_line_10 (Or.inr (slot_ne (Or.inl (hw _ (List.mem_of_getElem? (i := 12) rfl))) (Or.inr (hw _ (List.mem_of_getElem? (i := 30) rfl))) (by decide) (t := .int) (t' := (.array .long)) (by decide) (by decide)))
  have F_a_column_11 := Fld.other W11 F_a_column_10 (Or.inr (slot_ne (Or.inl (hw _ (List.mem_of_getElem? (i := 14) rfl))) (Or.inr (hw _ (List.mem_of_getElem? (i := 30) rfl))) (by decide) (t := .int) (t' := (.array .long)) (by decide) (by decide)))
  have F_a_buffer_11 := Fld.other W11 F_a_buffer_10 (Or.inr (slot_ne (Or.inr (hw _ (List.mem_of_getElem? (i := 20) rfl))) (Or.inr (hw _ (List.mem_of_getElem? (i := 30) rfl))) (by decide) (t := (.array .char)) (t' := (.array .long)) (by decide) (by decide)))
  have F_a_checked_11 := Fld.other W11 F_a_checked_10 (Or.inr (slot_ne (Or.inl (hw _ (List.mem_of_getElem? (i := 32) rfl))) (Or.inr (hw _ (List.mem_of_getElem? (i := 30) rfl))) (by decide) (t := .int) (t' := (.array .long)) (by decide) (by decide)))
  have F_a_limit_11 := Fld.other W11 F_a_limit_10 (Or.inr (slot_ne (Or.inl (hw _ (List.mem_of_getElem? (i := 34) rfl))) (Or.inr (hw _ (List.mem_of_getElem? (i := 30) rfl))) (by decide) (t := .int) (t' := (.array .long)) (by decide) (by decide)))
  have F_a_checkedSoFar_11 := Fld.other W11 F_a_checkedSoFar_10 (Or.inr (slot_ne (Or.inl (hw _ (List.mem_of_getElem? (i := 36) rfl))) (Or.inr (hw _ (List.mem_of_getElem? (i := 30) rfl))) (by decide) (t := .long) (t' := (.array .long)) (by decide) (by decide)))
  have F_a_endOfText_11 := Fld.other W11 F_a_endOfText_10 (Or.inr (slot_ne (Or.inl (hw _ (List.mem_of_getElem? (i := 38) rfl))) (Or.inr (hw _ (List.mem_of_getElem? (i := 30) rfl))) (by decide) (t := .boolean) (t' := (.array .long)) (by decide) (by decide)))
  have F_a_position_11 := Fld.other W11 F_a_position_10 (Or.inr (slot_ne (Or.inl (hw _ (List.mem_of_getElem? (i := 50) rfl))) (Or.inr (hw _ (List.mem_of_getElem? (i := 30) rfl))) (by decide) (t := .int) (t' := (.array .long)) (by decide) (by decide)))
  have K11 := K10.wr W11 (Or.inl (List.mem_of_getElem? (i := 0) rfl))
  have F_a_digestLanes_11 : Fld Z h11 a "com/example/virta/virta/Input" "digestLanes" "[J" .null := Fld.same W11 F_a_digestLanes_10
  have N11 := Fr.snoc X11 N10 ga_a
  have sz_11 := Nat.le_trans sz_10 (Nat.le_of_eq (Wr.size W11).symm)
  refine own_go (T' := T11) (g' := (mkF m 54 #[.val (.ref a), .val (.ref r0)] [])) st11 ?_
  refine own_go (T' := T11) (g' := (mkF m 57 #[.val (.ref a), .val (.ref r0)] [(.int n), (.ref a)])) (fun t k => ?_) ?_
  · show Steps p.tables e below (T11.setTop (mkF m 54 #[.val (.ref a), .val (.ref r0)] [])) t
    refine XS.aloadN X11.here hx rfl (hb hby d1_54) rfl rfl ?_
    show Steps p.tables e below (T11.setTop (mkF m 55 #[.val (.ref a), .val (.ref r0)] [(.ref a)])) _
    refine XS.aloadN X11.here hx rfl (hb hby d1_55) rfl rfl ?_
    show Steps p.tables e below (T11.setTop (mkF m 56 #[.val (.ref a), .val (.ref r0)] [(.ref r0), (.ref a)])) _
    refine own_len X11 hx hZ e11 V_r0_11 (g := (mkF m 56 #[.val (.ref a), .val (.ref r0)] [(.ref r0), (.ref a)])) rfl rfl (hb hby d1_56) _ ?_
    show Steps p.tables e below (T11.setTop (mkF m 57 #[.val (.ref a), .val (.ref r0)] [(.int n), (.ref a)])) _
    exact k
  obtain ⟨T12, h12, X12, e12, W12, st12⟩ := putF X11 hx hZ hown (host := "") (Or.inl (hw _ (List.mem_of_getElem? (i := 31) rfl))) Via.refl e11 F_a_checked_11 E_a_11 (Or.inl (hw _ (List.mem_of_getElem? (i := 32) rfl))) (hw _ (List.mem_of_getElem? (i := 3) rfl)) (ty := .int) (by decide) rfl rfl (g := (mkF m 57 #[.val (.ref a), .val (.ref r0)] [(.int n), (.ref a)])) rfl rfl (hb hby d1_57)
  have V_r0_12 := V_r0_11.other W12 (Nat.ne_of_lt lt_r)
  have E_a_12 := Exa.wr W12 E_a_11
  have F_a_line_12 := Fld.other W12 F_a_line_11 (Or.inr (slot_ne (Or.inl (hw _ (List.mem_of_getElem? (i := 12) rfl))) (Or.inl (hw _ (List.mem_of_getElem? (i := 32) rfl))) (by decide) (t := .int) (t' := .int) (by decide) (by decide)))
  have F_a_column_12 := Fld.other W12 F_a_column_11 (Or.inr (slot_ne (Or.inl (hw _ (List.mem_of_getElem? (i := 14) rfl))) (Or.inl (hw _ (List.mem_of_getElem? (i := 32) rfl))) (by decide) (t := .int) (t' := .int) (by decide) (by decide)))
  have F_a_buffer_12 := Fld.other W12 F_a_buffer_11 (Or.inr (slot_ne (Or.inr (hw _ (List.mem_of_getElem? (i := 20) rfl))) (Or.inl (hw _ (List.mem_of_getElem? (i := 32) rfl))) (by decide) (t := (.array .char)) (t' := .int) (by decide) (by decide)))
  have F_a_limit_12 := Fld.other W12 F_a_limit_11 (Or.inr (slot_ne (Or.inl (hw _ (List.mem_of_getElem? (i := 34) rfl))) (Or.inl (hw _ (List.mem_of_getElem? (i := 32) rfl))) (by decide) (t := .int) (t' := .int) (by decide) (by decide)))
  have F_a_checkedSoFar_12 := Fld.other W12 F_a_checkedSoFar_11 (Or.inr (slot_ne (Or.inl (hw _ (List.mem_of_getElem? (i := 36) rfl))) (Or.inl (hw _ (List.mem_of_getElem? (i := 32) rfl))) (by decide) (t := .long) (t' := .int) (by decide) (by decide)))
  have F_a_endOfText_12 := Fld.other W12 F_a_endOfText_11 (Or.inr (slot_ne (Or.inl (hw _ (List.mem_of_getElem? (i := 38) rfl))) (Or.inl (hw _ (List.mem_of_getElem? (i := 32) rfl))) (by decide) (t := .boolean) (t' := .int) (by decide) (by decide)))
  have F_a_position_12 := Fld.other W12 F_a_position_11 (Or.inr (slot_ne (Or.inl (hw _ (List.mem_of_getElem? (i := 50) rfl))) (Or.inl (hw _ (List.mem_of_getElem? (i := 32) rfl))) (by decide) (t := .int) (t' := .int) (by decide) (by decide)))
  have K12 := K11.wr W12 (Or.inl (List.mem_of_getElem? (i := 0) rfl))
  have F_a_checked_12 : Fld Z h12 a "com/example/virta/virta/Input" "checked" "I" (.int n) := Fld.same W12 F_a_checked_11
  have N12 := Fr.snoc X12 N11 ga_a
  have sz_12 := Nat.le_trans sz_11 (Nat.le_of_eq (Wr.size W12).symm)
  refine own_go (T' := T12) (g' := (mkF m 60 #[.val (.ref a), .val (.ref r0)] [])) st12 ?_
  refine own_go (T' := T12) (g' := (mkF m 63 #[.val (.ref a), .val (.ref r0)] [(.int n), (.ref a)])) (fun t k => ?_) ?_
  · show Steps p.tables e below (T12.setTop (mkF m 60 #[.val (.ref a), .val (.ref r0)] [])) t
    refine XS.aloadN X12.here hx rfl (hb hby d1_60) rfl rfl ?_
    show Steps p.tables e below (T12.setTop (mkF m 61 #[.val (.ref a), .val (.ref r0)] [(.ref a)])) _
    refine XS.aloadN X12.here hx rfl (hb hby d1_61) rfl rfl ?_
    show Steps p.tables e below (T12.setTop (mkF m 62 #[.val (.ref a), .val (.ref r0)] [(.ref r0), (.ref a)])) _
    refine own_len X12 hx hZ e12 V_r0_12 (g := (mkF m 62 #[.val (.ref a), .val (.ref r0)] [(.ref r0), (.ref a)])) rfl rfl (hb hby d1_62) _ ?_
    show Steps p.tables e below (T12.setTop (mkF m 63 #[.val (.ref a), .val (.ref r0)] [(.int n), (.ref a)])) _
    exact k
  obtain ⟨T13, h13, X13, e13, W13, st13⟩ := putF X12 hx hZ hown (host := "") (Or.inl (hw _ (List.mem_of_getElem? (i := 33) rfl))) Via.refl e12 F_a_limit_12 E_a_12 (Or.inl (hw _ (List.mem_of_getElem? (i := 34) rfl))) (hw _ (List.mem_of_getElem? (i := 3) rfl)) (ty := .int) (by decide) rfl rfl (g := (mkF m 63 #[.val (.ref a), .val (.ref r0)] [(.int n), (.ref a)])) rfl rfl (hb hby d1_63)
  have V_r0_13 := V_r0_12.other W13 (Nat.ne_of_lt lt_r)
  have E_a_13 := Exa.wr W13 E_a_12
  have F_a_line_13 := Fld.other W13 F_a_line_12 (Or.inr (slot_ne (Or.inl (hw _ (List.mem_of_getElem? (i := 12) rfl))) (Or.inl (hw _ (List.mem_of_getElem? (i := 34) rfl))) (by decide) (t := .int) (t' := .int) (by decide) (by decide)))
  have F_a_column_13 := Fld.other W13 F_a_column_12 (Or.inr (slot_ne (Or.inl (hw _ (List.mem_of_getElem? (i := 14) rfl))) (Or.inl (hw _ (List.mem_of_getElem? (i := 34) rfl))) (by decide) (t := .int) (t' := .int) (by decide) (by decide)))
  have F_a_buffer_13 := Fld.other W13 F_a_buffer_12 (Or.inr (slot_ne (Or.inr (hw _ (List.mem_of_getElem? (i := 20) rfl))) (Or.inl (hw _ (List.mem_of_getElem? (i := 34) rfl))) (by decide) (t := (.array .char)) (t' := .int) (by decide) (by decide)))
  have F_a_checked_13 := Fld.other W13 F_a_checked_12 (Or.inr (slot_ne (Or.inl (hw _ (List.mem_of_getElem? (i := 32) rfl))) (Or.inl (hw _ (List.mem_of_getElem? (i := 34) rfl))) (by decide) (t := .int) (t' := .int) (by decide) (by decide)))
  have F_a_checkedSoFar_13 := Fld.other W13 F_a_checkedSoFar_12 (Or.inr (slot_ne (Or.inl (hw _ (List.mem_of_getElem? (i := 36) rfl))) (Or.inl (hw _ (List.mem_of_getElem? (i := 34) rfl))) (by decide) (t := .long) (t' := .int) (by decide) (by decide)))
  have F_a_endOfText_13 := Fld.other W13 F_a_endOfText_12 (Or.inr (slot_ne (Or.inl (hw _ (List.mem_of_getElem? (i := 38) rfl))) (Or.inl (hw _ (List.mem_of_getElem? (i := 34) rfl))) (by decide) (t := .boolean) (t' := .int) (by decide) (by decide)))
  have F_a_position_13 := Fld.other W13 F_a_position_12 (Or.inr (slot_ne (Or.inl (hw _ (List.mem_of_getElem? (i := 50) rfl))) (Or.inl (hw _ (List.mem_of_getElem? (i := 34) rfl))) (by decide) (t := .int) (t' := .int) (by decide) (by decide)))
  have K13 := K12.wr W13 (Or.inl (List.mem_of_getElem? (i := 0) rfl))
  have F_a_limit_13 : Fld Z h13 a "com/example/virta/virta/Input" "limit" "I" (.int n) := Fld.same W13 F_a_limit_12
  have N13 := Fr.snoc X13 N12 ga_a
  have sz_13 := Nat.le_trans sz_12 (Nat.le_of_eq (Wr.size W13).symm)
  refine own_go (T' := T13) (g' := (mkF m 66 #[.val (.ref a), .val (.ref r0)] [])) st13 ?_
  refine own_go (T' := T13) (g' := (mkF m 70 #[.val (.ref a), .val (.ref r0)] [(.long (n.toInt64)), (.ref a)])) (fun t k => ?_) ?_
  · show Steps p.tables e below (T13.setTop (mkF m 66 #[.val (.ref a), .val (.ref r0)] [])) t
    refine XS.aloadN X13.here hx rfl (hb hby d1_66) rfl rfl ?_
    show Steps p.tables e below (T13.setTop (mkF m 67 #[.val (.ref a), .val (.ref r0)] [(.ref a)])) _
    refine XS.aloadN X13.here hx rfl (hb hby d1_67) rfl rfl ?_
    show Steps p.tables e below (T13.setTop (mkF m 68 #[.val (.ref a), .val (.ref r0)] [(.ref r0), (.ref a)])) _
    refine own_len X13 hx hZ e13 V_r0_13 (g := (mkF m 68 #[.val (.ref a), .val (.ref r0)] [(.ref r0), (.ref a)])) rfl rfl (hb hby d1_68) _ ?_
    show Steps p.tables e below (T13.setTop (mkF m 69 #[.val (.ref a), .val (.ref r0)] [(.int n), (.ref a)])) _
    refine XS.i2l X13.here hx rfl (hb hby d1_69) rfl ?_
    show Steps p.tables e below (T13.setTop (mkF m 70 #[.val (.ref a), .val (.ref r0)] [(.long (n.toInt64)), (.ref a)])) _
    exact k
  obtain ⟨T14, h14, X14, e14, W14, st14⟩ := putF X13 hx hZ hown (host := "") (Or.inl (hw _ (List.mem_of_getElem? (i := 35) rfl))) Via.refl e13 F_a_checkedSoFar_13 E_a_13 (Or.inl (hw _ (List.mem_of_getElem? (i := 36) rfl))) (hw _ (List.mem_of_getElem? (i := 3) rfl)) (ty := .long) (by decide) rfl rfl (g := (mkF m 70 #[.val (.ref a), .val (.ref r0)] [(.long (n.toInt64)), (.ref a)])) rfl rfl (hb hby d1_70)
  have V_r0_14 := V_r0_13.other W14 (Nat.ne_of_lt lt_r)
  have E_a_14 := Exa.wr W14 E_a_13
  have F_a_line_14 := Fld.other W14 F_a_line_13 (Or.inr (slot_ne (Or.inl (hw _ (List.mem_of_getElem? (i := 12) rfl))) (Or.inl (hw _ (List.mem_of_getElem? (i := 36) rfl))) (by decide) (t := .int) (t' := .long) (by decide) (by decide)))
  have F_a_column_14 := Fld.other W14 F_a_column_13 (Or.inr (slot_ne (Or.inl (hw _ (List.mem_of_getElem? (i := 14) rfl))) (Or.inl (hw _ (List.mem_of_getElem? (i := 36) rfl))) (by decide) (t := .int) (t' := .long) (by decide) (by decide)))
  have F_a_buffer_14 := Fld.other W14 F_a_buffer_13 (Or.inr (slot_ne (Or.inr (hw _ (List.mem_of_getElem? (i := 20) rfl))) (Or.inl (hw _ (List.mem_of_getElem? (i := 36) rfl))) (by decide) (t := (.array .char)) (t' := .long) (by decide) (by decide)))
  have F_a_checked_14 := Fld.other W14 F_a_checked_13 (Or.inr (slot_ne (Or.inl (hw _ (List.mem_of_getElem? (i := 32) rfl))) (Or.inl (hw _ (List.mem_of_getElem? (i := 36) rfl))) (by decide) (t := .int) (t' := .long) (by decide) (by decide)))
  have F_a_endOfText_14 := Fld.other W14 F_a_endOfText_13 (Or.inr (slot_ne (Or.inl (hw _ (List.mem_of_getElem? (i := 38) rfl))) (Or.inl (hw _ (List.mem_of_getElem? (i := 36) rfl))) (by decide) (t := .boolean) (t' := .long) (by decide) (by decide)))
  have F_a_position_14 := Fld.other W14 F_a_position_13 (Or.inr (slot_ne (Or.inl (hw _ (List.mem_of_getElem? (i := 50) rfl))) (Or.inl (hw _ (List.mem_of_getElem? (i := 36) rfl))) (by decide) (t := .int) (t' := .long) (by decide) (by decide)))
  have K14 := K13.wr W14 (Or.inl (List.mem_of_getElem? (i := 0) rfl))
  have F_a_checkedSoFar_14 : Fld Z h14 a "com/example/virta/virta/Input" "checkedSoFar" "J" (.long (n.toInt64)) := Fld.same W14 F_a_checkedSoFar_13
  have N14 := Fr.snoc X14 N13 ga_a
  have sz_14 := Nat.le_trans sz_13 (Nat.le_of_eq (Wr.size W14).symm)
  refine own_go (T' := T14) (g' := (mkF m 73 #[.val (.ref a), .val (.ref r0)] [])) st14 ?_
  refine own_go (T' := T14) (g' := (mkF m 75 #[.val (.ref a), .val (.ref r0)] [(.int (1 : Int32)), (.ref a)])) (fun t k => ?_) ?_
  · show Steps p.tables e below (T14.setTop (mkF m 73 #[.val (.ref a), .val (.ref r0)] [])) t
    refine XS.aloadN X14.here hx rfl (hb hby d1_73) rfl rfl ?_
    show Steps p.tables e below (T14.setTop (mkF m 74 #[.val (.ref a), .val (.ref r0)] [(.ref a)])) _
    refine XS.iconst X14.here hx rfl (hb hby d1_74) ?_
    show Steps p.tables e below (T14.setTop (mkF m 75 #[.val (.ref a), .val (.ref r0)] [(.int (1 : Int32)), (.ref a)])) _
    exact k
  obtain ⟨T15, h15, X15, e15, W15, st15⟩ := putFN X14 hx hZ hown (hw _ (List.mem_of_getElem? (i := 37) rfl)) Via.refl e14 F_a_endOfText_14 E_a_14 (Or.inl (hw _ (List.mem_of_getElem? (i := 38) rfl))) (hw _ (List.mem_of_getElem? (i := 3) rfl)) (ty := .boolean) (v' := .int (nar .boolean (1 : Int32))) (by decide) rfl (fits_nar_bool _) (g := (mkF m 75 #[.val (.ref a), .val (.ref r0)] [(.int (1 : Int32)), (.ref a)])) rfl rfl (hb hby d1_75)
  have V_r0_15 := V_r0_14.other W15 (Nat.ne_of_lt lt_r)
  have E_a_15 := Exa.wr W15 E_a_14
  have F_a_line_15 := Fld.other W15 F_a_line_14 (Or.inr (slot_ne (Or.inl (hw _ (List.mem_of_getElem? (i := 12) rfl))) (Or.inl (hw _ (List.mem_of_getElem? (i := 38) rfl))) (by decide) (t := .int) (t' := .boolean) (by decide) (by decide)))
  have F_a_column_15 := Fld.other W15 F_a_column_14 (Or.inr (slot_ne (Or.inl (hw _ (List.mem_of_getElem? (i := 14) rfl))) (Or.inl (hw _ (List.mem_of_getElem? (i := 38) rfl))) (by decide) (t := .int) (t' := .boolean) (by decide) (by decide)))
  have F_a_buffer_15 := Fld.other W15 F_a_buffer_14 (Or.inr (slot_ne (Or.inr (hw _ (List.mem_of_getElem? (i := 20) rfl))) (Or.inl (hw _ (List.mem_of_getElem? (i := 38) rfl))) (by decide) (t := (.array .char)) (t' := .boolean) (by decide) (by decide)))
  have F_a_checked_15 := Fld.other W15 F_a_checked_14 (Or.inr (slot_ne (Or.inl (hw _ (List.mem_of_getElem? (i := 32) rfl))) (Or.inl (hw _ (List.mem_of_getElem? (i := 38) rfl))) (by decide) (t := .int) (t' := .boolean) (by decide) (by decide)))
  have F_a_position_15 := Fld.other W15 F_a_position_14 (Or.inr (slot_ne (Or.inl (hw _ (List.mem_of_getElem? (i := 50) rfl))) (Or.inl (hw _ (List.mem_of_getElem? (i := 38) rfl))) (by decide) (t := .int) (t' := .boolean) (by decide) (by decide)))
  have K15 := K14.wr W15 (Or.inl (List.mem_of_getElem? (i := 0) rfl))
  have F_a_endOfText_15 : Fld Z h15 a "com/example/virta/virta/Input" "endOfText" "Z" (.int (1 : Int32)) := Fld.same W15 F_a_endOfText_14
  have N15 := Fr.snoc X15 N14 ga_a
  have sz_15 := Nat.le_trans sz_14 (Nat.le_of_eq (Wr.size W15).symm)
  refine own_go (T' := T15) (g' := (mkF m 78 #[.val (.ref a), .val (.ref r0)] [])) st15 ?_
  exact own_retV X15 hx hlk hret (hb hby d1_78) (by decide) (by decide) N15 (by rw [e15]; exact ⟨rfl, K15, ⟨E_a_15, F_a_position_15, F_a_column_15, F_a_line_15, F_a_buffer_15, F_a_checked_15⟩⟩)
abbrev own_r4 : Room := { frames := 0, cells := 0, slots := 0, locals := 0 }
theorem d4_0 : decode prog_42_method_20_code 0 = .ok (.aload_n 0, 1) := by decide +kernel
theorem d4_1 : decode prog_42_method_20_code 1 = .ok (.dup, 1) := by decide +kernel
theorem d4_2 : decode prog_42_method_20_code 2 = .ok (.getfield 78, 3) := by decide +kernel
theorem d4_5 : decode prog_42_method_20_code 5 = .ok (.iload_n 1, 1) := by decide +kernel
theorem d4_6 : decode prog_42_method_20_code 6 = .ok (.iadd, 1) := by decide +kernel
theorem d4_7 : decode prog_42_method_20_code 7 = .ok (.putfield 78, 3) := by decide +kernel
theorem d4_10 : decode prog_42_method_20_code 10 = .ok (.aload_n 0, 1) := by decide +kernel
theorem d4_11 : decode prog_42_method_20_code 11 = .ok (.dup, 1) := by decide +kernel
theorem d4_12 : decode prog_42_method_20_code 12 = .ok (.getfield 13, 3) := by decide +kernel
theorem d4_15 : decode prog_42_method_20_code 15 = .ok (.iload_n 2, 1) := by decide +kernel
theorem d4_16 : decode prog_42_method_20_code 16 = .ok (.iadd, 1) := by decide +kernel
theorem d4_17 : decode prog_42_method_20_code 17 = .ok (.putfield 13, 3) := by decide +kernel
theorem d4_20 : decode prog_42_method_20_code 20 = .ok (.return_, 1) := by decide +kernel
theorem ef_4 (m : MethodId) (a : Addr) (p0 : Int32) (p1 : Int32) : entryFrame m #[(.ref a), (.int p0), (.int p1)] 3 = mkF m 0 #[.val (.ref a), .val (.int p0), .val (.int p1)] [] := by first | (simp [entryFrame, mkF, argsToLocals, Value.category]; done) | rfl
set_option maxRecDepth 65536 in
set_option maxHeartbeats 40000000 in
theorem rm4 (l : Launch) (Z : State) (a0 : Array Value) (hw : ∀ d ∈ tables_1, d.before a0 Z = true) (a : Addr) (p0 p1 : Int32) (ps cl ln : Int32) (rb : Addr) (ck : Int32) (h0 : Heap) (n0 : Nat) (Z0 : n0 ≤ h0.size) (ga_a : n0 ≤ a) (I0 : own_In Z h0 a ps cl ln rb ck) : own_Con [] l Z (⟨"com/example/virta/virta/Input", "skip", "(II)V"⟩ : MethodName) prog_42_method_20_code 3 none own_r4 n0 #[(.ref a), (.int p0), (.int p1)] h0 (own_Qv Z a (ps + p0) (cl + p1) ln rb ck h0) := by
  refine own_body (plainFor_of_name (by first | (simp [plainName, overriddenIn]; done) | decide +kernel)) (fun m => mkF m 0 #[.val (.ref a), .val (.int p0), .val (.int p1)] []) (fun m => ef_4 m a p0 p1) ?_
  intro p e s m below meth c s₁ hx hby hml hown hnm hZ hret hlk X0 e0 N0
  have K0 := Keep.refl h0 [a]
  obtain ⟨I0e, I0p, I0c, I0l, I0b, I0h⟩ := I0
  refine own_go (T' := s₁) (g' := (mkF m 2 #[.val (.ref a), .val (.int p0), .val (.int p1)] [(.ref a), (.ref a)])) (fun t k => ?_) ?_
  · show Steps p.tables e below (s₁.setTop (mkF m 0 #[.val (.ref a), .val (.int p0), .val (.int p1)] [])) t
    refine XS.aloadN X0.here hx rfl (hb hby d4_0) rfl rfl ?_
    show Steps p.tables e below (s₁.setTop (mkF m 1 #[.val (.ref a), .val (.int p0), .val (.int p1)] [(.ref a)])) _
    refine XS.dup X0.here hx rfl (hb hby d4_1) rfl rfl ?_
    show Steps p.tables e below (s₁.setTop (mkF m 2 #[.val (.ref a), .val (.int p0), .val (.int p1)] [(.ref a), (.ref a)])) _
    exact k
  obtain ⟨T1, X1, e1, st1⟩ := getF X0 hx hZ hown (host := "") (Or.inl (hw _ (List.mem_of_getElem? (i := 49) rfl))) Via.refl e0 I0p (g := (mkF m 2 #[.val (.ref a), .val (.int p0), .val (.int p1)] [(.ref a), (.ref a)])) rfl rfl (hb hby d4_2)
  refine own_go (T' := T1) (g' := (mkF m 5 #[.val (.ref a), .val (.int p0), .val (.int p1)] [(.int ps), (.ref a)])) st1 ?_
  refine own_go (T' := T1) (g' := (mkF m 7 #[.val (.ref a), .val (.int p0), .val (.int p1)] [(.int (ps + p0)), (.ref a)])) (fun t k => ?_) ?_
  · show Steps p.tables e below (T1.setTop (mkF m 5 #[.val (.ref a), .val (.int p0), .val (.int p1)] [(.int ps), (.ref a)])) t
    refine XS.iloadN X1.here hx rfl (hb hby d4_5) rfl ?_
    show Steps p.tables e below (T1.setTop (mkF m 6 #[.val (.ref a), .val (.int p0), .val (.int p1)] [(.int p0), (.int ps), (.ref a)])) _
    refine XS.iadd X1.here hx rfl (hb hby d4_6) rfl ?_
    show Steps p.tables e below (T1.setTop (mkF m 7 #[.val (.ref a), .val (.int p0), .val (.int p1)] [(.int (ps + p0)), (.ref a)])) _
    exact k
  obtain ⟨T2, h2, X2, e2, W2, st2⟩ := putF X1 hx hZ hown (host := "") (Or.inl (hw _ (List.mem_of_getElem? (i := 49) rfl))) Via.refl e1 I0p I0e (Or.inl (hw _ (List.mem_of_getElem? (i := 50) rfl))) (hw _ (List.mem_of_getElem? (i := 3) rfl)) (ty := .int) (by decide) rfl rfl (g := (mkF m 7 #[.val (.ref a), .val (.int p0), .val (.int p1)] [(.int (ps + p0)), (.ref a)])) rfl rfl (hb hby d4_7)
  have E_a_2 := Exa.wr W2 I0e
  have F_a_column_2 := Fld.other W2 I0c (Or.inr (slot_ne (Or.inl (hw _ (List.mem_of_getElem? (i := 14) rfl))) (Or.inl (hw _ (List.mem_of_getElem? (i := 50) rfl))) (by decide) (t := .int) (t' := .int) (by decide) (by decide)))
  have F_a_line_2 := Fld.other W2 I0l (Or.inr (slot_ne (Or.inl (hw _ (List.mem_of_getElem? (i := 12) rfl))) (Or.inl (hw _ (List.mem_of_getElem? (i := 50) rfl))) (by decide) (t := .int) (t' := .int) (by decide) (by decide)))
  have F_a_buffer_2 := Fld.other W2 I0b (Or.inr (slot_ne (Or.inr (hw _ (List.mem_of_getElem? (i := 20) rfl))) (Or.inl (hw _ (List.mem_of_getElem? (i := 50) rfl))) (by decide) (t := (.array .char)) (t' := .int) (by decide) (by decide)))
  have F_a_checked_2 := Fld.other W2 I0h (Or.inr (slot_ne (Or.inl (hw _ (List.mem_of_getElem? (i := 32) rfl))) (Or.inl (hw _ (List.mem_of_getElem? (i := 50) rfl))) (by decide) (t := .int) (t' := .int) (by decide) (by decide)))
  have K2 := K0.wr W2 (Or.inl (List.mem_of_getElem? (i := 0) rfl))
  have F_a_position_2 : Fld Z h2 a "com/example/virta/virta/Input" "position" "I" (.int (ps + p0)) := Fld.same W2 I0p
  have N2 := Fr.snoc X2 N0 ga_a
  have sz_2 := Nat.le_trans Z0 (Nat.le_of_eq (Wr.size W2).symm)
  refine own_go (T' := T2) (g' := (mkF m 10 #[.val (.ref a), .val (.int p0), .val (.int p1)] [])) st2 ?_
  refine own_go (T' := T2) (g' := (mkF m 12 #[.val (.ref a), .val (.int p0), .val (.int p1)] [(.ref a), (.ref a)])) (fun t k => ?_) ?_
  · show Steps p.tables e below (T2.setTop (mkF m 10 #[.val (.ref a), .val (.int p0), .val (.int p1)] [])) t
    refine XS.aloadN X2.here hx rfl (hb hby d4_10) rfl rfl ?_
    show Steps p.tables e below (T2.setTop (mkF m 11 #[.val (.ref a), .val (.int p0), .val (.int p1)] [(.ref a)])) _
    refine XS.dup X2.here hx rfl (hb hby d4_11) rfl rfl ?_
    show Steps p.tables e below (T2.setTop (mkF m 12 #[.val (.ref a), .val (.int p0), .val (.int p1)] [(.ref a), (.ref a)])) _
    exact k
  obtain ⟨T3, X3, e3, st3⟩ := getF X2 hx hZ hown (host := "") (Or.inl (hw _ (List.mem_of_getElem? (i := 13) rfl))) Via.refl e2 F_a_column_2 (g := (mkF m 12 #[.val (.ref a), .val (.int p0), .val (.int p1)] [(.ref a), (.ref a)])) rfl rfl (hb hby d4_12)
  refine own_go (T' := T3) (g' := (mkF m 15 #[.val (.ref a), .val (.int p0), .val (.int p1)] [(.int cl), (.ref a)])) st3 ?_
  refine own_go (T' := T3) (g' := (mkF m 17 #[.val (.ref a), .val (.int p0), .val (.int p1)] [(.int (cl + p1)), (.ref a)])) (fun t k => ?_) ?_
  · show Steps p.tables e below (T3.setTop (mkF m 15 #[.val (.ref a), .val (.int p0), .val (.int p1)] [(.int cl), (.ref a)])) t
    refine XS.iloadN X3.here hx rfl (hb hby d4_15) rfl ?_
    show Steps p.tables e below (T3.setTop (mkF m 16 #[.val (.ref a), .val (.int p0), .val (.int p1)] [(.int p1), (.int cl), (.ref a)])) _
    refine XS.iadd X3.here hx rfl (hb hby d4_16) rfl ?_
    show Steps p.tables e below (T3.setTop (mkF m 17 #[.val (.ref a), .val (.int p0), .val (.int p1)] [(.int (cl + p1)), (.ref a)])) _
    exact k
  obtain ⟨T4, h4, X4, e4, W4, st4⟩ := putF X3 hx hZ hown (host := "") (Or.inl (hw _ (List.mem_of_getElem? (i := 13) rfl))) Via.refl e3 F_a_column_2 E_a_2 (Or.inl (hw _ (List.mem_of_getElem? (i := 14) rfl))) (hw _ (List.mem_of_getElem? (i := 3) rfl)) (ty := .int) (by decide) rfl rfl (g := (mkF m 17 #[.val (.ref a), .val (.int p0), .val (.int p1)] [(.int (cl + p1)), (.ref a)])) rfl rfl (hb hby d4_17)
  have E_a_4 := Exa.wr W4 E_a_2
  have F_a_position_4 := Fld.other W4 F_a_position_2 (Or.inr (slot_ne (Or.inl (hw _ (List.mem_of_getElem? (i := 50) rfl))) (Or.inl (hw _ (List.mem_of_getElem? (i := 14) rfl))) (by decide) (t := .int) (t' := .int) (by decide) (by decide)))
  have F_a_line_4 := Fld.other W4 F_a_line_2 (Or.inr (slot_ne (Or.inl (hw _ (List.mem_of_getElem? (i := 12) rfl))) (Or.inl (hw _ (List.mem_of_getElem? (i := 14) rfl))) (by decide) (t := .int) (t' := .int) (by decide) (by decide)))
  have F_a_buffer_4 := Fld.other W4 F_a_buffer_2 (Or.inr (slot_ne (Or.inr (hw _ (List.mem_of_getElem? (i := 20) rfl))) (Or.inl (hw _ (List.mem_of_getElem? (i := 14) rfl))) (by decide) (t := (.array .char)) (t' := .int) (by decide) (by decide)))
  have F_a_checked_4 := Fld.other W4 F_a_checked_2 (Or.inr (slot_ne (Or.inl (hw _ (List.mem_of_getElem? (i := 32) rfl))) (Or.inl (hw _ (List.mem_of_getElem? (i := 14) rfl))) (by decide) (t := .int) (t' := .int) (by decide) (by decide)))
  have K4 := K2.wr W4 (Or.inl (List.mem_of_getElem? (i := 0) rfl))
  have F_a_column_4 : Fld Z h4 a "com/example/virta/virta/Input" "column" "I" (.int (cl + p1)) := Fld.same W4 F_a_column_2
  have N4 := Fr.snoc X4 N2 ga_a
  have sz_4 := Nat.le_trans sz_2 (Nat.le_of_eq (Wr.size W4).symm)
  refine own_go (T' := T4) (g' := (mkF m 20 #[.val (.ref a), .val (.int p0), .val (.int p1)] [])) st4 ?_
  exact own_retV X4 hx hlk hret (hb hby d4_20) (by decide) (by decide) N4 (by rw [e4]; exact ⟨rfl, K4, ⟨E_a_4, F_a_position_4, F_a_column_4, F_a_line_4, F_a_buffer_4, F_a_checked_4⟩⟩)
abbrev own_r3 : Room := { frames := 1, cells := 0, slots := 0, locals := 14 }
theorem d3_0 : decode prog_42_method_19_code 0 = .ok (.aload_n 0, 1) := by decide +kernel
theorem d3_1 : decode prog_42_method_19_code 1 = .ok (.iload_n 1, 1) := by decide +kernel
theorem d3_2 : decode prog_42_method_19_code 2 = .ok (.iload_n 1, 1) := by decide +kernel
theorem d3_3 : decode prog_42_method_19_code 3 = .ok (.invokevirtual 147, 3) := by decide +kernel
theorem pd_0 : parseMethodDescriptor "(II)V" = some ⟨[.int, .int], none⟩ := by decide +kernel
theorem d3_6 : decode prog_42_method_19_code 6 = .ok (.return_, 1) := by decide +kernel
theorem ef_3 (m : MethodId) (a : Addr) (p0 : Int32) : entryFrame m #[(.ref a), (.int p0)] 2 = mkF m 0 #[.val (.ref a), .val (.int p0)] [] := by first | (simp [entryFrame, mkF, argsToLocals, Value.category]; done) | rfl
set_option maxRecDepth 65536 in
set_option maxHeartbeats 40000000 in
theorem rm3 (l : Launch) (Z : State) (a0 : Array Value) (hw : ∀ d ∈ tables_1, d.before a0 Z = true) (a : Addr) (p0 : Int32) (ps cl ln : Int32) (rb : Addr) (ck : Int32) (h0 : Heap) (n0 : Nat) (Z0 : n0 ≤ h0.size) (ga_a : n0 ≤ a) (I0 : own_In Z h0 a ps cl ln rb ck) : own_Con [] l Z (⟨"com/example/virta/virta/Input", "skip", "(I)V"⟩ : MethodName) prog_42_method_19_code 2 none own_r3 n0 #[(.ref a), (.int p0)] h0 (own_Qv Z a (ps + p0) (cl + p0) ln rb ck h0) := by
  refine own_body (plainFor_of_name (by first | (simp [plainName, overriddenIn]; done) | decide +kernel)) (fun m => mkF m 0 #[.val (.ref a), .val (.int p0)] []) (fun m => ef_3 m a p0) ?_
  intro p e s m below meth c s₁ hx hby hml hown hnm hZ hret hlk X0 e0 N0
  have E0 := I0.1
  refine own_go (T' := s₁) (g' := (mkF m 3 #[.val (.ref a), .val (.int p0)] [(.int p0), (.int p0), (.ref a)])) (fun t k => ?_) ?_
  · show Steps p.tables e below (s₁.setTop (mkF m 0 #[.val (.ref a), .val (.int p0)] [])) t
    refine XS.aloadN X0.here hx rfl (hb hby d3_0) rfl rfl ?_
    show Steps p.tables e below (s₁.setTop (mkF m 1 #[.val (.ref a), .val (.int p0)] [(.ref a)])) _
    refine XS.iloadN X0.here hx rfl (hb hby d3_1) rfl ?_
    show Steps p.tables e below (s₁.setTop (mkF m 2 #[.val (.ref a), .val (.int p0)] [(.int p0), (.ref a)])) _
    refine XS.iloadN X0.here hx rfl (hb hby d3_2) rfl ?_
    show Steps p.tables e below (s₁.setTop (mkF m 3 #[.val (.ref a), .val (.int p0)] [(.int p0), (.int p0), (.ref a)])) _
    exact k
  obtain ⟨_, T1, L1, X1, N1, ⟨rfl, hQ1⟩, st1⟩ := own_callV X0 hx hZ hown (hw _ (List.mem_of_getElem? (i := 44) rfl)) (hw _ (List.mem_of_getElem? (i := 45) rfl)) (hw _ (List.mem_of_getElem? (i := 47) rfl)) (hw _ (List.mem_of_getElem? (i := 46) rfl)) (hw _ (List.mem_of_getElem? (i := 4) rfl)) (hw _ (List.mem_of_getElem? (i := 48) rfl)) (by decide) (a := a) (argsL := [(.int p0), (.int p0)]) (rest := []) (rm4 l Z a0 hw a p0 p0 ps cl ln rb ck h0 n0 Z0 ga_a I0) (W := 0) (by decide) (by decide) E0 (g := (mkF m 3 #[.val (.ref a), .val (.int p0)] [(.int p0), (.int p0), (.ref a)])) rfl (by rw [hml]; rfl) pd_0 rfl rfl (by show 2 * 0 + _ ≤ _; exact Nat.le_of_eq rfl) (hb hby d3_3) e0 (by decide) (by decide) N0
  refine own_go (T' := T1) (g' := (mkF m 6 #[.val (.ref a), .val (.int p0)] [])) st1 ?_
  exact own_retV X1 hx hlk hret (hb hby d3_6) (by decide) (by decide) N1 ⟨rfl, hQ1⟩
theorem own_ti {n : Nat} (h : n < 2 ^ 31) : (Int32.ofNat n).toInt = n := Jvm.LawKit.toInt_of rfl h
theorem own_ci {n : Nat} (h : n < 2 ^ 31) : (Int32.ofNat n).toNatClampNeg = n := Jvm.LawKit.clamp_of rfl h
theorem own_addN (a b : Nat) : Int32.ofNat a + Int32.ofNat b = Int32.ofNat (a + b) := by
  apply Int32.toBitVec_inj.mp
  simp [BitVec.ofNat_add]
theorem own_inc {n : Nat} : Int32.ofNat n + 1 = Int32.ofNat (n + 1) := (inc_ofNat n).symm
theorem own_ix {nn : Int32} {i : Nat} (hnn : nn = 6) (h : i < 6) : ¬ Int32.ofNat i < 0 ∧ Int32.ofNat i < nn := by
  rw [hnn, Int32.lt_iff_toInt_lt, Int32.lt_iff_toInt_lt, own_ti (by omega), show (0 : Int32).toInt = 0 from rfl, show (6 : Int32).toInt = 6 from rfl]
  omega
theorem own_gd' (cs : List Int32) (j : Nat) : (cs.map Value.int).getD j (.int 0) = .int (cs.getD j 0) := by
  simp only [List.getD_eq_getElem?_getD, List.getElem?_map]
  cases cs[j]? <;> rfl
theorem own_gd (cs : List Int32) {i : Nat} (h : i < 6) : (cs.map Value.int).getD (Int32.ofNat i).toNatClampNeg (.int 0) = .int (cs.getD i 0) := by
  rw [own_ci (by omega)]
  exact own_gd' cs i
theorem own_narc (x : Int32) : nar .char x.toUInt32.toUInt16.toUInt32.toInt32 = x.toUInt32.toUInt16.toUInt32.toInt32 := by
  show x.toUInt32.toUInt16.toUInt32.toInt32.toUInt32.toUInt16.toUInt32.toInt32 = _
  generalize x.toUInt32.toUInt16 = y
  have e : y.toUInt32.toInt32.toUInt32.toUInt16 = y := by simp
  rw [e]
theorem own_nat {v : Int32} {b : Nat} (h0 : 0 ≤ v.toInt) (h1 : v.toInt ≤ b) : ∃ n : Nat, v = Int32.ofNat n ∧ n ≤ b := by
  refine ⟨v.toInt.toNat, ?_, by omega⟩
  apply Int32.toInt_inj.mp
  have := rng32 v
  rw [own_ti (by omega)]
  omega
theorem own_lt6 {i : Nat} (h : ¬ Int32.ofNat i < 6) (hi : i ≤ 6) : ¬ i < 6 := by
  rw [Int32.lt_iff_toInt_lt, own_ti (by omega), show (6 : Int32).toInt = 6 from rfl] at h
  omega
theorem own_lt6' {i : Nat} (h : Int32.ofNat i < 6) (hi : i ≤ 6) : i < 6 := by
  rw [Int32.lt_iff_toInt_lt, own_ti (by omega), show (6 : Int32).toInt = 6 from rfl] at h
  omega
theorem own_is6 {i : Nat} (h : i < 6) : Int32.ofNat i < 6 := by
  rw [Int32.lt_iff_toInt_lt, own_ti (by omega), show (6 : Int32).toInt = 6 from rfl]
  omega
theorem own_no6 {i : Nat} (h : ¬ i < 6) (hi : i ≤ 6) : ¬ Int32.ofNat i < 6 := by
  rw [Int32.lt_iff_toInt_lt, own_ti (by omega), show (6 : Int32).toInt = 6 from rfl]
  omega
theorem own_subN {a b : Nat} (h : b ≤ a) (ha : a ≤ 6) : Int32.ofNat a - Int32.ofNat b = Int32.ofNat (a - b) := by
  have hs := c_isub (Int32.ofNat a) (Int32.ofNat b)
  have := rng32 (Int32.ofNat a - Int32.ofNat b)
  apply Int32.toInt_inj.mp
  rw [own_ti (by omega), own_ti (by omega)] at hs
  rw [own_ti (by omega)]
  omega
theorem own_j6 (y : Int32) : ¬ ((y &&& (2147483647 : Int32)) % (6 : Int32)) < 0 ∧ ((y &&& (2147483647 : Int32)) % (6 : Int32)) < 6 := by
  have h1 := c_mask y 2147483647 31 (by decide) (by decide)
  have h2 := c_irem (y &&& (2147483647 : Int32)) 6 6 (by decide)
  have h3 : 0 ≤ (y &&& (2147483647 : Int32)).toInt := by rw [h1]; omega
  have h4 := h2.1 h3
  rw [Int32.lt_iff_toInt_lt, Int32.lt_iff_toInt_lt, h4, show (0 : Int32).toInt = 0 from rfl, show (6 : Int32).toInt = 6 from rfl]
  omega

def own_any (cs : List Int32) : Nat → Nat → Int32 → Bool
  | _, 0, _ => false
  | i, q + 1, c => decide (cs.getD i 0 = c) || own_any cs (i + 1) q c
theorem own_any_hit {cs : List Int32} {i q : Nat} {c : Int32} (h : cs.getD i 0 = c) : own_any cs i (q + 1) c = true := by
  show (decide (cs.getD i 0 = c) || own_any cs (i + 1) q c) = true
  rw [decide_eq_true h, Bool.true_or]
theorem own_any_miss {cs : List Int32} {i q : Nat} {c : Int32} (h : ¬ cs.getD i 0 = c) : own_any cs i (q + 1) c = own_any cs (i + 1) q c := by
  show (decide (cs.getD i 0 = c) || own_any cs (i + 1) q c) = _
  rw [decide_eq_false h, Bool.false_or]
theorem own_any_iff {cs : List Int32} {c : Int32} : ∀ (q i : Nat), own_any cs i q c = true ↔ ∃ j, j < q ∧ cs.getD (i + j) 0 = c
  | 0, i => ⟨fun h => (by simp [own_any] at h), fun ⟨j, h, _⟩ => absurd h (by omega)⟩
  | q + 1, i => by
    by_cases h : cs.getD i 0 = c
    · exact ⟨fun _ => ⟨0, by omega, h⟩, fun _ => own_any_hit h⟩
    · rw [own_any_miss h, own_any_iff q (i + 1)]
      constructor
      · rintro ⟨j, hj, e⟩
        exact ⟨j + 1, by omega, by rw [show i + (j + 1) = i + 1 + j by omega]; exact e⟩
      · rintro ⟨j, hj, e⟩
        match j, hj, e with
        | 0, _, e => exact absurd e h
        | j + 1, hj, e => exact ⟨j, by omega, by rw [show i + 1 + j = i + (j + 1) by omega]; exact e⟩
def own_at (cs : List Int32) (p1 p2 p3 p4 : Int32) : Int32 := if p3 < p2 then if cs.getD (p1 + p3).toNatClampNeg 0 = p4 then 1 else 0 else 0
theorem own_end {F p1 : Int32} {f g i : Nat} (hF : F = Int32.ofNat f) (hp1 : p1 = Int32.ofNat g) (h1 : i = f + g) (h2 : f + g ≤ 6) : ¬ Int32.ofNat i < F + p1 := by
  rw [hF, hp1, own_addN, Int32.lt_iff_toInt_lt, own_ti (by omega), own_ti (by omega)]
  omega
theorem own_in {F p1 : Int32} {f g i : Nat} (hF : F = Int32.ofNat f) (hp1 : p1 = Int32.ofNat g) (h1 : i < f + g) (h2 : f + g ≤ 6) : Int32.ofNat i < F + p1 := by
  rw [hF, hp1, own_addN, Int32.lt_iff_toInt_lt, own_ti (by omega), own_ti (by omega)]
  omega
theorem own_s (p4 sv : Int32) (h : sv = ((p4 &&& (255 : Int32)) % (7 : Int32))) : ∃ n : Nat, sv = Int32.ofNat n ∧ n ≤ 6 := by
  have h1 := c_mask p4 255 8 (by decide) (by decide)
  have h2 := c_irem (p4 &&& (255 : Int32)) 7 7 (by decide)
  have h3 : 0 ≤ (p4 &&& (255 : Int32)).toInt := by rw [h1]; omega
  have h4 := h2.1 h3
  rw [← h] at h4
  exact own_nat (by omega) (by omega)
theorem own_rem {sN : Nat} (h : sN ≤ 6) : (6 : Int32) - Int32.ofNat sN = Int32.ofNat (6 - sN) := by
  have hs := c_isub 6 (Int32.ofNat sN)
  have := rng32 ((6 : Int32) - Int32.ofNat sN)
  apply Int32.toInt_inj.mp
  rw [own_ti (by omega), show (6 : Int32).toInt = 6 from rfl] at hs
  rw [own_ti (by omega)]
  omega
theorem own_nz1 {sN : Nat} (h : sN ≤ 6) : Int32.ofNat (6 - sN) + (1 : Int32) ≠ 0 := by
  intro e
  have e2 := congrArg Int32.toInt e
  rw [own_inc, own_ti (by omega)] at e2
  have : (0 : Int32).toInt = 0 := rfl
  omega
theorem own_o (p4 ov : Int32) (sN : Nat) (hs : sN ≤ 6) (h : ov = (((p4.toUInt32 >>> ((8 : Int32) &&& 31).toUInt32).toInt32) % (Int32.ofNat (6 - sN) + (1 : Int32)))) : ∃ n : Nat, ov = Int32.ofNat n ∧ sN + n ≤ 6 := by
  have h1 := c_iushr p4 8 8 (by decide) (by decide)
  have r := rng32 p4
  have h3 : 0 ≤ ((p4.toUInt32 >>> ((8 : Int32) &&& 31).toUInt32).toInt32).toInt := by rw [h1]; omega
  have h5 : (Int32.ofNat (6 - sN) + (1 : Int32)).toInt = (6 - sN : Nat) + 1 := by rw [own_inc, own_ti (by omega)]; omega
  obtain ⟨q1, q2, -⟩ := (c_iremV ((p4.toUInt32 >>> ((8 : Int32) &&& 31).toUInt32).toInt32) (Int32.ofNat (6 - sN) + (1 : Int32))).1 h3 (by rw [h5]; omega)
  rw [← h, h5] at q2
  rw [← h] at q1
  obtain ⟨n, e, hn⟩ := own_nat (b := 6 - sN) q1 (by omega)
  exact ⟨n, e, by omega⟩
theorem own_nz2 {sN oN : Nat} (h : sN ≤ 6) (ho : sN + oN ≤ 6) : (Int32.ofNat (6 - sN) - Int32.ofNat oN) + (1 : Int32) ≠ 0 := by
  intro e
  have e2 := congrArg Int32.toInt e
  rw [own_subN (by omega) (by omega), own_inc, own_ti (by omega)] at e2
  have : (0 : Int32).toInt = 0 := rfl
  omega
theorem own_l (p5 lv : Int32) (sN oN : Nat) (hs : sN ≤ 6) (ho : sN + oN ≤ 6) (h : lv = ((p5 &&& (2147483647 : Int32)) % ((Int32.ofNat (6 - sN) - Int32.ofNat oN) + (1 : Int32)))) : ∃ n : Nat, lv = Int32.ofNat n ∧ sN + oN + n ≤ 6 := by
  have h1 := c_mask p5 2147483647 31 (by decide) (by decide)
  have h3 : 0 ≤ (p5 &&& (2147483647 : Int32)).toInt := by rw [h1]; omega
  have h5 : ((Int32.ofNat (6 - sN) - Int32.ofNat oN) + (1 : Int32)).toInt = (6 - sN - oN : Nat) + 1 := by rw [own_subN (by omega) (by omega), own_inc, own_ti (by omega)]; omega
  obtain ⟨q1, q2, -⟩ := (c_iremV (p5 &&& (2147483647 : Int32)) ((Int32.ofNat (6 - sN) - Int32.ofNat oN) + (1 : Int32))).1 h3 (by rw [h5]; omega)
  rw [← h, h5] at q2
  rw [← h] at q1
  obtain ⟨n, e, hn⟩ := own_nat (b := 6 - sN - oN) q1 (by omega)
  exact ⟨n, e, by omega⟩
theorem own_f {sN oN : Nat} (h : sN ≤ 6) (ho : sN + oN ≤ 6) : ((0 : Int32) + Int32.ofNat sN) + Int32.ofNat oN = Int32.ofNat (sN + oN) := by
  rw [Int32.zero_add, own_addN]
theorem own_fr {sN oN : Nat} : Int32.ofNat sN + Int32.ofNat oN = Int32.ofNat (sN + oN) := own_addN _ _
theorem own_atin {sN oN lN : Nat} {p3 : Int32} (h : sN ≤ 6) (ho : sN + oN ≤ 6) (hl : sN + oN + lN ≤ 6) (h0 : 0 ≤ p3.toInt) : p3 < Int32.ofNat lN → ¬ (Int32.ofNat (sN + oN) + p3) < 0 ∧ (Int32.ofNat (sN + oN) + p3) < 6 := by
  intro q
  rw [Int32.lt_iff_toInt_lt, own_ti (by omega)] at q
  have hs := c_iadd (Int32.ofNat (sN + oN)) p3
  have := rng32 (Int32.ofNat (sN + oN) + p3)
  rw [own_ti (by omega)] at hs
  rw [Int32.lt_iff_toInt_lt, Int32.lt_iff_toInt_lt, show (0 : Int32).toInt = 0 from rfl, show (6 : Int32).toInt = 6 from rfl]
  omega
theorem own_atv {cs : List Int32} {f l i : Nat} {c : Int32} (hl : f + l ≤ 6) (hi : i < 6) : own_at cs (Int32.ofNat f) (Int32.ofNat l) (Int32.ofNat i) c = if i < l ∧ cs.getD (f + i) 0 = c then 1 else 0 := by
  have k : (Int32.ofNat i < Int32.ofNat l) ↔ i < l := by
    rw [Int32.lt_iff_toInt_lt, own_ti (by omega), own_ti (by omega)]
    omega
  unfold own_at
  rw [own_addN, own_ci (by omega)]
  by_cases h1 : i < l
  · rw [if_pos (k.mpr h1)]
    by_cases h2 : cs.getD (f + i) 0 = c
    · rw [if_pos h2, if_pos ⟨h1, h2⟩]
    · rw [if_neg h2, if_neg (fun q => h2 q.2)]
  · rw [if_neg (mt k.mp h1), if_neg (fun q => h1 q.1)]
theorem own_law {cs : List Int32} {sN oN lN : Nat} {c act b : Int32} (h : sN ≤ 6) (ho : sN + oN ≤ 6) (hl : sN + oN + lN ≤ 6) (h1 : act = (if own_any cs (sN + oN) lN c then 1 else 0))
    (h2 : b = (if (own_at cs (Int32.ofNat (sN + oN)) (Int32.ofNat lN) (0 : Int32) c) = (0 : Int32) then (if (own_at cs (Int32.ofNat (sN + oN)) (Int32.ofNat lN) (1 : Int32) c) = (0 : Int32) then (if (own_at cs (Int32.ofNat (sN + oN)) (Int32.ofNat lN) (2 : Int32) c) = (0 : Int32) then (if (own_at cs (Int32.ofNat (sN + oN)) (Int32.ofNat lN) (3 : Int32) c) = (0 : Int32) then (if (own_at cs (Int32.ofNat (sN + oN)) (Int32.ofNat lN) (4 : Int32) c) = (0 : Int32) then (if (own_at cs (Int32.ofNat (sN + oN)) (Int32.ofNat lN) (5 : Int32) c) = (0 : Int32) then (0 : Int32) else (1 : Int32)) else (1 : Int32)) else (1 : Int32)) else (1 : Int32)) else (1 : Int32)) else (1 : Int32))) : act = b := by
  have L : ∀ i : Nat, i < 6 → own_at cs (Int32.ofNat (sN + oN)) (Int32.ofNat lN) (Int32.ofNat i) c = if i < lN ∧ cs.getD (sN + oN + i) 0 = c then 1 else 0 := fun i hi => own_atv (by omega) hi
  have e0 := L 0 (by omega)
  have e1 := L 1 (by omega)
  have e2 := L 2 (by omega)
  have e3 := L 3 (by omega)
  have e4 := L 4 (by omega)
  have e5 := L 5 (by omega)
  rw [show Int32.ofNat 0 = 0 from rfl] at e0
  rw [show Int32.ofNat 1 = 1 from rfl] at e1
  rw [show Int32.ofNat 2 = 2 from rfl] at e2
  rw [show Int32.ofNat 3 = 3 from rfl] at e3
  rw [show Int32.ofNat 4 = 4 from rfl] at e4
  rw [show Int32.ofNat 5 = 5 from rfl] at e5
  rw [e0, e1, e2, e3, e4, e5] at h2
  rw [h1, h2]
  clear h1 h2 e0 e1 e2 e3 e4 e5 L
  generalize sN + oN = f at *
  have z : ∀ (P : Prop) [Decidable P], ((if P then (1 : Int32) else 0) = 0) ↔ ¬ P := fun P _ => by by_cases q : P <;> simp [q]
  simp only [z]
  have A : own_any cs f lN c = true ↔ (0 < lN ∧ cs.getD f 0 = c) ∨ (1 < lN ∧ cs.getD (f + 1) 0 = c) ∨ (2 < lN ∧ cs.getD (f + 2) 0 = c) ∨ (3 < lN ∧ cs.getD (f + 3) 0 = c) ∨ (4 < lN ∧ cs.getD (f + 4) 0 = c) ∨ (5 < lN ∧ cs.getD (f + 5) 0 = c) := by
    rw [own_any_iff]
    constructor
    · rintro ⟨j, hj, e⟩
      have hj6 : j < 6 := by omega
      match j, hj6, hj, e with
      | 0, _, hj, e => exact Or.inl ⟨hj, e⟩
      | 1, _, hj, e => exact Or.inr (Or.inl ⟨hj, e⟩)
      | 2, _, hj, e => exact Or.inr (Or.inr (Or.inl ⟨hj, e⟩))
      | 3, _, hj, e => exact Or.inr (Or.inr (Or.inr (Or.inl ⟨hj, e⟩)))
      | 4, _, hj, e => exact Or.inr (Or.inr (Or.inr (Or.inr (Or.inl ⟨hj, e⟩))))
      | 5, _, hj, e => exact Or.inr (Or.inr (Or.inr (Or.inr (Or.inr (⟨hj, e⟩)))))
    · rintro (⟨h, e⟩ | ⟨h, e⟩ | ⟨h, e⟩ | ⟨h, e⟩ | ⟨h, e⟩ | ⟨h, e⟩)
      · exact ⟨0, h, e⟩
      · exact ⟨1, h, e⟩
      · exact ⟨2, h, e⟩
      · exact ⟨3, h, e⟩
      · exact ⟨4, h, e⟩
      · exact ⟨5, h, e⟩
  by_cases p0 : (0 < lN ∧ cs.getD f 0 = c)
  · rw [if_pos (A.mpr (Or.inl p0)), if_neg (fun q => q p0)]
  by_cases p1 : (1 < lN ∧ cs.getD (f + 1) 0 = c)
  · rw [if_pos (A.mpr (Or.inr (Or.inl p1))), if_pos p0, if_neg (fun q => q p1)]
  by_cases p2 : (2 < lN ∧ cs.getD (f + 2) 0 = c)
  · rw [if_pos (A.mpr (Or.inr (Or.inr (Or.inl p2)))), if_pos p0, if_pos p1, if_neg (fun q => q p2)]
  by_cases p3 : (3 < lN ∧ cs.getD (f + 3) 0 = c)
  · rw [if_pos (A.mpr (Or.inr (Or.inr (Or.inr (Or.inl p3))))), if_pos p0, if_pos p1, if_pos p2, if_neg (fun q => q p3)]
  by_cases p4 : (4 < lN ∧ cs.getD (f + 4) 0 = c)
  · rw [if_pos (A.mpr (Or.inr (Or.inr (Or.inr (Or.inr (Or.inl p4)))))), if_pos p0, if_pos p1, if_pos p2, if_pos p3, if_neg (fun q => q p4)]
  by_cases p5 : (5 < lN ∧ cs.getD (f + 5) 0 = c)
  · rw [if_pos (A.mpr (Or.inr (Or.inr (Or.inr (Or.inr (Or.inr (p5))))))), if_pos p0, if_pos p1, if_pos p2, if_pos p3, if_pos p4, if_neg (fun q => q p5)]
  have nA : ¬ own_any cs f lN c = true := fun q => (A.mp q).elim p0 fun q => q.elim p1 fun q => q.elim p2 fun q => q.elim p3 fun q => q.elim p4 p5
  rw [if_neg nA, if_pos p0, if_pos p1, if_pos p2, if_pos p3, if_pos p4, if_pos p5]

abbrev own_r5 : Room := { frames := 0, cells := 0, slots := 0, locals := 0 }
theorem d5_12 : decode prog_42_method_24_code 12 = .ok (.iload 5, 2) := by decide +kernel
theorem d5_14 : decode prog_42_method_24_code 14 = .ok (.iload 4, 2) := by decide +kernel
theorem d5_16 : decode prog_42_method_24_code 16 = .ok (.iload_n 2, 1) := by decide +kernel
theorem d5_17 : decode prog_42_method_24_code 17 = .ok (.iadd, 1) := by decide +kernel
theorem d5_18 : decode prog_42_method_24_code 18 = .ok (.if_icmp .ge 20, 3) := by decide +kernel
theorem d5_38 : decode prog_42_method_24_code 38 = .ok (.iload 5, 2) := by decide +kernel
theorem d5_40 : decode prog_42_method_24_code 40 = .ok (.iload 4, 2) := by decide +kernel
theorem d5_42 : decode prog_42_method_24_code 42 = .ok (.iload_n 2, 1) := by decide +kernel
theorem d5_43 : decode prog_42_method_24_code 43 = .ok (.iadd, 1) := by decide +kernel
theorem d5_44 : decode prog_42_method_24_code 44 = .ok (.if_icmp .ge 7, 3) := by decide +kernel
theorem d5_51 : decode prog_42_method_24_code 51 = .ok (.iconst 0, 1) := by decide +kernel
theorem d5_52 : decode prog_42_method_24_code 52 = .ok (.ireturn, 1) := by decide +kernel
theorem d5_21 : decode prog_42_method_24_code 21 = .ok (.aload_n 0, 1) := by decide +kernel
theorem d5_22 : decode prog_42_method_24_code 22 = .ok (.getfield 24, 3) := by decide +kernel
theorem d5_25 : decode prog_42_method_24_code 25 = .ok (.iload 5, 2) := by decide +kernel
theorem d5_27 : decode prog_42_method_24_code 27 = .ok (.caload, 1) := by decide +kernel
theorem d5_28 : decode prog_42_method_24_code 28 = .ok (.iload_n 3, 1) := by decide +kernel
theorem d5_29 : decode prog_42_method_24_code 29 = .ok (.if_icmp .eq 9, 3) := by decide +kernel
theorem d5_47 : decode prog_42_method_24_code 47 = .ok (.iconst 1, 1) := by decide +kernel
theorem d5_48 : decode prog_42_method_24_code 48 = .ok (.goto 4, 3) := by decide +kernel
theorem d5_32 : decode prog_42_method_24_code 32 = .ok (.iinc 5 1, 3) := by decide +kernel
theorem d5_35 : decode prog_42_method_24_code 35 = .ok (.goto (-23), 3) := by decide +kernel
theorem d5_0 : decode prog_42_method_24_code 0 = .ok (.aload_n 0, 1) := by decide +kernel
theorem d5_1 : decode prog_42_method_24_code 1 = .ok (.getfield 78, 3) := by decide +kernel
theorem d5_4 : decode prog_42_method_24_code 4 = .ok (.iload_n 1, 1) := by decide +kernel
theorem d5_5 : decode prog_42_method_24_code 5 = .ok (.iadd, 1) := by decide +kernel
theorem d5_6 : decode prog_42_method_24_code 6 = .ok (.istore 4, 2) := by decide +kernel
theorem d5_8 : decode prog_42_method_24_code 8 = .ok (.iload 4, 2) := by decide +kernel
theorem d5_10 : decode prog_42_method_24_code 10 = .ok (.istore 5, 2) := by decide +kernel
theorem ef_5 (m : MethodId) (a : Addr) (p0 : Int32) (p1 : Int32) (p2 : Int32) : entryFrame m #[(.ref a), (.int p0), (.int p1), (.int p2)] 6 = mkF m 0 #[.val (.ref a), .val (.int p0), .val (.int p1), .val (.int p2), .unset, .unset] [] := by first | (simp [entryFrame, mkF, argsToLocals, Value.category]; done) | rfl
set_option maxRecDepth 65536 in
set_option maxHeartbeats 40000000 in
theorem rm5 (l : Launch) (Z : State) (a0 : Array Value) (hw : ∀ d ∈ tables_1, d.before a0 Z = true) (a : Addr) (p0 p1 p2 : Int32) (ps cl ln : Int32) (rb : Addr) (ck : Int32) (k : ClassId) (nn : Int32) (cs : List Int32) (f g : Nat) (h0 : Heap) (n0 : Nat) (I0 : own_In Z h0 a ps cl ln rb ck) (V0 : Arv Z h0 rb k .char nn (cs.map Value.int) (.int 0)) (hnn : nn = 6) (hcs : cs.length = 6) (hF0 : ps + p0 = Int32.ofNat f) (hp1 : p1 = Int32.ofNat g) (hfg : f + g ≤ 6) : own_Con [] l Z (⟨"com/example/virta/virta/Input", "holdsAhead", "(IIC)Z"⟩ : MethodName) prog_42_method_24_code 6 (some .boolean) own_r5 n0 #[(.ref a), (.int p0), (.int p1), (.int p2)] h0 (own_P (.int (if own_any cs f g p2 then 1 else 0)) h0) := by
  refine own_body (plainFor_of_name (by first | (simp [plainName, overriddenIn]; done) | decide +kernel)) (fun m => mkF m 0 #[.val (.ref a), .val (.int p0), .val (.int p1), .val (.int p2), .unset, .unset] []) (fun m => ef_5 m a p0 p1 p2) ?_
  intro p e s m below meth c s₁ hx hby hml hown hnm hZ hret hlk X0 e0 N0
  obtain ⟨I0e, I0p, I0c, I0l, I0b, I0h⟩ := I0
  have loop : ∀ (F : Int32) (hF : F = Int32.ofNat f) (q i : Nat) (hq : i + q = f + g) (hi : f ≤ i) (T : State) (locs : List Loc) (X : Stand p l e own_r5 s m #[(.ref a), (.int p0), (.int p1), (.int p2)] below meth c T locs 0 0) (eT : T.heap = h0) (N : Fr n0 locs), own_Ends p e below s n0 own_r5.cells own_r5.slots T (mkF m 12 #[.val (.ref a), .val (.int p0), .val (.int p1), .val (.int p2), .val (.int F), .val (.int (Int32.ofNat i))] []) (own_P (.int (if own_any cs i q p2 then 1 else 0)) h0) := by
    intro F hF q
    induction q with
    | zero =>
      intro i hq hi T locs X eT N
      refine own_go (T' := T) (g' := (mkF m 18 #[.val (.ref a), .val (.int p0), .val (.int p1), .val (.int p2), .val (.int F), .val (.int (Int32.ofNat i))] [(.int (F + p1)), (.int (Int32.ofNat i))])) (fun t k => ?_) ?_
      · show Steps p.tables e below (T.setTop (mkF m 12 #[.val (.ref a), .val (.int p0), .val (.int p1), .val (.int p2), .val (.int F), .val (.int (Int32.ofNat i))] [])) t
        refine XS.iload X.here hx rfl (hb hby d5_12) rfl ?_
        show Steps p.tables e below (T.setTop (mkF m 14 #[.val (.ref a), .val (.int p0), .val (.int p1), .val (.int p2), .val (.int F), .val (.int (Int32.ofNat i))] [(.int (Int32.ofNat i))])) _
        refine XS.iload X.here hx rfl (hb hby d5_14) rfl ?_
        show Steps p.tables e below (T.setTop (mkF m 16 #[.val (.ref a), .val (.int p0), .val (.int p1), .val (.int p2), .val (.int F), .val (.int (Int32.ofNat i))] [(.int F), (.int (Int32.ofNat i))])) _
        refine XS.iloadN X.here hx rfl (hb hby d5_16) rfl ?_
        show Steps p.tables e below (T.setTop (mkF m 17 #[.val (.ref a), .val (.int p0), .val (.int p1), .val (.int p2), .val (.int F), .val (.int (Int32.ofNat i))] [(.int p1), (.int F), (.int (Int32.ofNat i))])) _
        refine XS.iadd X.here hx rfl (hb hby d5_17) rfl ?_
        show Steps p.tables e below (T.setTop (mkF m 18 #[.val (.ref a), .val (.int p0), .val (.int p1), .val (.int p2), .val (.int F), .val (.int (Int32.ofNat i))] [(.int (F + p1)), (.int (Int32.ofNat i))])) _
        exact k
      have hE : ¬ Int32.ofNat i < F + p1 := own_end hF hp1 (by omega) (by omega)
      refine own_go (T' := T) (g' := (mkF m 44 #[.val (.ref a), .val (.int p0), .val (.int p1), .val (.int p2), .val (.int F), .val (.int (Int32.ofNat i))] [(.int (F + p1)), (.int (Int32.ofNat i))])) (fun t k => ?_) ?_
      · show Steps p.tables e below (T.setTop (mkF m 18 #[.val (.ref a), .val (.int p0), .val (.int p1), .val (.int p2), .val (.int F), .val (.int (Int32.ofNat i))] [(.int (F + p1)), (.int (Int32.ofNat i))])) t
        refine XS.icmpYes X.here hx rfl (pc0 := 18) (pc' := 38) rfl (hb hby d5_18) rfl (flt hE).2.1 (by decide) (by decide) ?_
        show Steps p.tables e below (T.setTop (mkF m 38 #[.val (.ref a), .val (.int p0), .val (.int p1), .val (.int p2), .val (.int F), .val (.int (Int32.ofNat i))] [])) _
        refine XS.iload X.here hx rfl (hb hby d5_38) rfl ?_
        show Steps p.tables e below (T.setTop (mkF m 40 #[.val (.ref a), .val (.int p0), .val (.int p1), .val (.int p2), .val (.int F), .val (.int (Int32.ofNat i))] [(.int (Int32.ofNat i))])) _
        refine XS.iload X.here hx rfl (hb hby d5_40) rfl ?_
        show Steps p.tables e below (T.setTop (mkF m 42 #[.val (.ref a), .val (.int p0), .val (.int p1), .val (.int p2), .val (.int F), .val (.int (Int32.ofNat i))] [(.int F), (.int (Int32.ofNat i))])) _
        refine XS.iloadN X.here hx rfl (hb hby d5_42) rfl ?_
        show Steps p.tables e below (T.setTop (mkF m 43 #[.val (.ref a), .val (.int p0), .val (.int p1), .val (.int p2), .val (.int F), .val (.int (Int32.ofNat i))] [(.int p1), (.int F), (.int (Int32.ofNat i))])) _
        refine XS.iadd X.here hx rfl (hb hby d5_43) rfl ?_
        show Steps p.tables e below (T.setTop (mkF m 44 #[.val (.ref a), .val (.int p0), .val (.int p1), .val (.int p2), .val (.int F), .val (.int (Int32.ofNat i))] [(.int (F + p1)), (.int (Int32.ofNat i))])) _
        exact k
      refine own_go (T' := T) (g' := (mkF m 52 #[.val (.ref a), .val (.int p0), .val (.int p1), .val (.int p2), .val (.int F), .val (.int (Int32.ofNat i))] [(.int (0 : Int32))])) (fun t k => ?_) ?_
      · show Steps p.tables e below (T.setTop (mkF m 44 #[.val (.ref a), .val (.int p0), .val (.int p1), .val (.int p2), .val (.int F), .val (.int (Int32.ofNat i))] [(.int (F + p1)), (.int (Int32.ofNat i))])) t
        refine XS.icmpYes X.here hx rfl (pc0 := 44) (pc' := 51) rfl (hb hby d5_44) rfl (flt hE).2.1 (by decide) (by decide) ?_
        show Steps p.tables e below (T.setTop (mkF m 51 #[.val (.ref a), .val (.int p0), .val (.int p1), .val (.int p2), .val (.int F), .val (.int (Int32.ofNat i))] [])) _
        refine XS.iconst X.here hx rfl (hb hby d5_51) ?_
        show Steps p.tables e below (T.setTop (mkF m 52 #[.val (.ref a), .val (.int p0), .val (.int p1), .val (.int p2), .val (.int F), .val (.int (Int32.ofNat i))] [(.int (0 : Int32))])) _
        exact k
      exact own_retN X hx hlk hret (by simp) (hb hby d5_52) (by decide) (by decide) N ⟨rfl, eT⟩
    | succ q ih =>
      intro i hq hi T locs X eT N
      refine own_go (T' := T) (g' := (mkF m 18 #[.val (.ref a), .val (.int p0), .val (.int p1), .val (.int p2), .val (.int F), .val (.int (Int32.ofNat i))] [(.int (F + p1)), (.int (Int32.ofNat i))])) (fun t k => ?_) ?_
      · show Steps p.tables e below (T.setTop (mkF m 12 #[.val (.ref a), .val (.int p0), .val (.int p1), .val (.int p2), .val (.int F), .val (.int (Int32.ofNat i))] [])) t
        refine XS.iload X.here hx rfl (hb hby d5_12) rfl ?_
        show Steps p.tables e below (T.setTop (mkF m 14 #[.val (.ref a), .val (.int p0), .val (.int p1), .val (.int p2), .val (.int F), .val (.int (Int32.ofNat i))] [(.int (Int32.ofNat i))])) _
        refine XS.iload X.here hx rfl (hb hby d5_14) rfl ?_
        show Steps p.tables e below (T.setTop (mkF m 16 #[.val (.ref a), .val (.int p0), .val (.int p1), .val (.int p2), .val (.int F), .val (.int (Int32.ofNat i))] [(.int F), (.int (Int32.ofNat i))])) _
        refine XS.iloadN X.here hx rfl (hb hby d5_16) rfl ?_
        show Steps p.tables e below (T.setTop (mkF m 17 #[.val (.ref a), .val (.int p0), .val (.int p1), .val (.int p2), .val (.int F), .val (.int (Int32.ofNat i))] [(.int p1), (.int F), (.int (Int32.ofNat i))])) _
        refine XS.iadd X.here hx rfl (hb hby d5_17) rfl ?_
        show Steps p.tables e below (T.setTop (mkF m 18 #[.val (.ref a), .val (.int p0), .val (.int p1), .val (.int p2), .val (.int F), .val (.int (Int32.ofNat i))] [(.int (F + p1)), (.int (Int32.ofNat i))])) _
        exact k
      have hE : Int32.ofNat i < F + p1 := own_in hF hp1 (by omega) (by omega)
      refine own_go (T' := T) (g' := (mkF m 22 #[.val (.ref a), .val (.int p0), .val (.int p1), .val (.int p2), .val (.int F), .val (.int (Int32.ofNat i))] [(.ref a)])) (fun t k => ?_) ?_
      · show Steps p.tables e below (T.setTop (mkF m 18 #[.val (.ref a), .val (.int p0), .val (.int p1), .val (.int p2), .val (.int F), .val (.int (Int32.ofNat i))] [(.int (F + p1)), (.int (Int32.ofNat i))])) t
        refine XS.icmpNo X.here hx rfl (hb hby d5_18) rfl (tlt hE).2.1 ?_
        show Steps p.tables e below (T.setTop (mkF m 21 #[.val (.ref a), .val (.int p0), .val (.int p1), .val (.int p2), .val (.int F), .val (.int (Int32.ofNat i))] [])) _
        refine XS.aloadN X.here hx rfl (hb hby d5_21) rfl rfl ?_
        show Steps p.tables e below (T.setTop (mkF m 22 #[.val (.ref a), .val (.int p0), .val (.int p1), .val (.int p2), .val (.int F), .val (.int (Int32.ofNat i))] [(.ref a)])) _
        exact k
      obtain ⟨T1, X1, e1, st1⟩ := getF X hx hZ hown (host := "") (Or.inl (hw _ (List.mem_of_getElem? (i := 19) rfl))) Via.refl eT I0b (g := (mkF m 22 #[.val (.ref a), .val (.int p0), .val (.int p1), .val (.int p2), .val (.int F), .val (.int (Int32.ofNat i))] [(.ref a)])) rfl rfl (hb hby d5_22)
      refine own_go (T' := T1) (g' := (mkF m 25 #[.val (.ref a), .val (.int p0), .val (.int p1), .val (.int p2), .val (.int F), .val (.int (Int32.ofNat i))] [(.ref rb)])) st1 ?_
      refine own_go (T' := T1) (g' := (mkF m 29 #[.val (.ref a), .val (.int p0), .val (.int p1), .val (.int p2), .val (.int F), .val (.int (Int32.ofNat i))] [(.int p2), (.int (cs.getD i 0))])) (fun t k => ?_) ?_
      · show Steps p.tables e below (T1.setTop (mkF m 25 #[.val (.ref a), .val (.int p0), .val (.int p1), .val (.int p2), .val (.int F), .val (.int (Int32.ofNat i))] [(.ref rb)])) t
        refine XS.iload X1.here hx rfl (hb hby d5_25) rfl ?_
        show Steps p.tables e below (T1.setTop (mkF m 27 #[.val (.ref a), .val (.int p0), .val (.int p1), .val (.int p2), .val (.int F), .val (.int (Int32.ofNat i))] [(.int (Int32.ofNat i)), (.ref rb)])) _
        refine own_ldC X1 hx hZ e1 V0 (j := (Int32.ofNat i)) (own_ix hnn (by omega)) (v := (.int (cs.getD i 0))) (own_gd cs (i := i) (by omega)) (g := (mkF m 27 #[.val (.ref a), .val (.int p0), .val (.int p1), .val (.int p2), .val (.int F), .val (.int (Int32.ofNat i))] [(.int (Int32.ofNat i)), (.ref rb)])) rfl rfl (hb hby d5_27) _ ?_
        show Steps p.tables e below (T1.setTop (mkF m 28 #[.val (.ref a), .val (.int p0), .val (.int p1), .val (.int p2), .val (.int F), .val (.int (Int32.ofNat i))] [(.int (cs.getD i 0))])) _
        refine XS.iloadN X1.here hx rfl (hb hby d5_28) rfl ?_
        show Steps p.tables e below (T1.setTop (mkF m 29 #[.val (.ref a), .val (.int p0), .val (.int p1), .val (.int p2), .val (.int F), .val (.int (Int32.ofNat i))] [(.int p2), (.int (cs.getD i 0))])) _
        exact k
      by_cases hc29_2 : (cs.getD i 0) = p2
      · refine own_go (T' := T1) (g' := (mkF m 38 #[.val (.ref a), .val (.int p0), .val (.int p1), .val (.int p2), .val (.int F), .val (.int (Int32.ofNat i))] [])) (fun t k => ?_) ?_
        · refine XS.icmpYes X1.here hx rfl (pc0 := 29) (pc' := 38) rfl (hb hby d5_29) rfl (teq hc29_2).1 (by decide) (by decide) ?_
          exact k
        rw [own_any_hit hc29_2]
        refine own_go (T' := T1) (g' := (mkF m 44 #[.val (.ref a), .val (.int p0), .val (.int p1), .val (.int p2), .val (.int F), .val (.int (Int32.ofNat i))] [(.int (F + p1)), (.int (Int32.ofNat i))])) (fun t k => ?_) ?_
        · show Steps p.tables e below (T1.setTop (mkF m 38 #[.val (.ref a), .val (.int p0), .val (.int p1), .val (.int p2), .val (.int F), .val (.int (Int32.ofNat i))] [])) t
          refine XS.iload X1.here hx rfl (hb hby d5_38) rfl ?_
          show Steps p.tables e below (T1.setTop (mkF m 40 #[.val (.ref a), .val (.int p0), .val (.int p1), .val (.int p2), .val (.int F), .val (.int (Int32.ofNat i))] [(.int (Int32.ofNat i))])) _
          refine XS.iload X1.here hx rfl (hb hby d5_40) rfl ?_
          show Steps p.tables e below (T1.setTop (mkF m 42 #[.val (.ref a), .val (.int p0), .val (.int p1), .val (.int p2), .val (.int F), .val (.int (Int32.ofNat i))] [(.int F), (.int (Int32.ofNat i))])) _
          refine XS.iloadN X1.here hx rfl (hb hby d5_42) rfl ?_
          show Steps p.tables e below (T1.setTop (mkF m 43 #[.val (.ref a), .val (.int p0), .val (.int p1), .val (.int p2), .val (.int F), .val (.int (Int32.ofNat i))] [(.int p1), (.int F), (.int (Int32.ofNat i))])) _
          refine XS.iadd X1.here hx rfl (hb hby d5_43) rfl ?_
          show Steps p.tables e below (T1.setTop (mkF m 44 #[.val (.ref a), .val (.int p0), .val (.int p1), .val (.int p2), .val (.int F), .val (.int (Int32.ofNat i))] [(.int (F + p1)), (.int (Int32.ofNat i))])) _
          exact k
        refine own_go (T' := T1) (g' := (mkF m 52 #[.val (.ref a), .val (.int p0), .val (.int p1), .val (.int p2), .val (.int F), .val (.int (Int32.ofNat i))] [(.int (1 : Int32))])) (fun t k => ?_) ?_
        · show Steps p.tables e below (T1.setTop (mkF m 44 #[.val (.ref a), .val (.int p0), .val (.int p1), .val (.int p2), .val (.int F), .val (.int (Int32.ofNat i))] [(.int (F + p1)), (.int (Int32.ofNat i))])) t
          refine XS.icmpNo X1.here hx rfl (hb hby d5_44) rfl (tlt hE).2.1 ?_
          show Steps p.tables e below (T1.setTop (mkF m 47 #[.val (.ref a), .val (.int p0), .val (.int p1), .val (.int p2), .val (.int F), .val (.int (Int32.ofNat i))] [])) _
          refine XS.iconst X1.here hx rfl (hb hby d5_47) ?_
          show Steps p.tables e below (T1.setTop (mkF m 48 #[.val (.ref a), .val (.int p0), .val (.int p1), .val (.int p2), .val (.int F), .val (.int (Int32.ofNat i))] [(.int (1 : Int32))])) _
          refine XS.goto X1.here hx rfl (pc0 := 48) (pc' := 52) rfl (hb hby d5_48) (by decide) (by decide) ?_
          show Steps p.tables e below (T1.setTop (mkF m 52 #[.val (.ref a), .val (.int p0), .val (.int p1), .val (.int p2), .val (.int F), .val (.int (Int32.ofNat i))] [(.int (1 : Int32))])) _
          exact k
        exact own_retN X1 hx hlk hret (by simp) (hb hby d5_52) (by decide) (by decide) N ⟨rfl, e1⟩
      · refine own_go (T' := T1) (g' := (mkF m 32 #[.val (.ref a), .val (.int p0), .val (.int p1), .val (.int p2), .val (.int F), .val (.int (Int32.ofNat i))] [])) (fun t k => ?_) ?_
        · refine XS.icmpNo X1.here hx rfl (hb hby d5_29) rfl (feq hc29_2).1 ?_
          exact k
        rw [own_any_miss hc29_2]
        refine own_go (T' := T1) (g' := (mkF m 12 #[.val (.ref a), .val (.int p0), .val (.int p1), .val (.int p2), .val (.int F), .val (.int ((Int32.ofNat i) + (1 : Int32)))] [])) (fun t k => ?_) ?_
        · show Steps p.tables e below (T1.setTop (mkF m 32 #[.val (.ref a), .val (.int p0), .val (.int p1), .val (.int p2), .val (.int F), .val (.int (Int32.ofNat i))] [])) t
          refine XS.iinc X1.here hx rfl (hb hby d5_32) rfl (l' := #[.val (.ref a), .val (.int p0), .val (.int p1), .val (.int p2), .val (.int F), .val (.int ((Int32.ofNat i) + (1 : Int32)))]) rfl ?_
          show Steps p.tables e below (T1.setTop (mkF m 35 #[.val (.ref a), .val (.int p0), .val (.int p1), .val (.int p2), .val (.int F), .val (.int ((Int32.ofNat i) + (1 : Int32)))] [])) _
          refine XS.goto X1.here hx rfl (pc0 := 35) (pc' := 12) rfl (hb hby d5_35) (by decide) (by decide) ?_
          show Steps p.tables e below (T1.setTop (mkF m 12 #[.val (.ref a), .val (.int p0), .val (.int p1), .val (.int p2), .val (.int F), .val (.int ((Int32.ofNat i) + (1 : Int32)))] [])) _
          exact k
        rw [← inc_ofNat i]
        exact ih (i + 1) (by omega) (by omega) T1 _ X1 e1 N
  refine own_go (T' := s₁) (g' := (mkF m 1 #[.val (.ref a), .val (.int p0), .val (.int p1), .val (.int p2), .unset, .unset] [(.ref a)])) (fun t k => ?_) ?_
  · show Steps p.tables e below (s₁.setTop (mkF m 0 #[.val (.ref a), .val (.int p0), .val (.int p1), .val (.int p2), .unset, .unset] [])) t
    refine XS.aloadN X0.here hx rfl (hb hby d5_0) rfl rfl ?_
    show Steps p.tables e below (s₁.setTop (mkF m 1 #[.val (.ref a), .val (.int p0), .val (.int p1), .val (.int p2), .unset, .unset] [(.ref a)])) _
    exact k
  obtain ⟨T3, X3, e3, st3⟩ := getF X0 hx hZ hown (host := "") (Or.inl (hw _ (List.mem_of_getElem? (i := 49) rfl))) Via.refl e0 I0p (g := (mkF m 1 #[.val (.ref a), .val (.int p0), .val (.int p1), .val (.int p2), .unset, .unset] [(.ref a)])) rfl rfl (hb hby d5_1)
  refine own_go (T' := T3) (g' := (mkF m 4 #[.val (.ref a), .val (.int p0), .val (.int p1), .val (.int p2), .unset, .unset] [(.int ps)])) st3 ?_
  refine own_go (T' := T3) (g' := (mkF m 12 #[.val (.ref a), .val (.int p0), .val (.int p1), .val (.int p2), .val (.int (ps + p0)), .val (.int (ps + p0))] [])) (fun t k => ?_) ?_
  · show Steps p.tables e below (T3.setTop (mkF m 4 #[.val (.ref a), .val (.int p0), .val (.int p1), .val (.int p2), .unset, .unset] [(.int ps)])) t
    refine XS.iloadN X3.here hx rfl (hb hby d5_4) rfl ?_
    show Steps p.tables e below (T3.setTop (mkF m 5 #[.val (.ref a), .val (.int p0), .val (.int p1), .val (.int p2), .unset, .unset] [(.int p0), (.int ps)])) _
    refine XS.iadd X3.here hx rfl (hb hby d5_5) rfl ?_
    show Steps p.tables e below (T3.setTop (mkF m 6 #[.val (.ref a), .val (.int p0), .val (.int p1), .val (.int p2), .unset, .unset] [(.int (ps + p0))])) _
    refine XS.istore X3.here hx rfl (hb hby d5_6) rfl (l' := #[.val (.ref a), .val (.int p0), .val (.int p1), .val (.int p2), .val (.int (ps + p0)), .unset]) rfl ?_
    show Steps p.tables e below (T3.setTop (mkF m 8 #[.val (.ref a), .val (.int p0), .val (.int p1), .val (.int p2), .val (.int (ps + p0)), .unset] [])) _
    refine XS.iload X3.here hx rfl (hb hby d5_8) rfl ?_
    show Steps p.tables e below (T3.setTop (mkF m 10 #[.val (.ref a), .val (.int p0), .val (.int p1), .val (.int p2), .val (.int (ps + p0)), .unset] [(.int (ps + p0))])) _
    refine XS.istore X3.here hx rfl (hb hby d5_10) rfl (l' := #[.val (.ref a), .val (.int p0), .val (.int p1), .val (.int p2), .val (.int (ps + p0)), .val (.int (ps + p0))]) rfl ?_
    show Steps p.tables e below (T3.setTop (mkF m 12 #[.val (.ref a), .val (.int p0), .val (.int p1), .val (.int p2), .val (.int (ps + p0)), .val (.int (ps + p0))] [])) _
    exact k
  rw [hF0]
  exact loop _ rfl g f rfl (Nat.le_refl _) T3 _ X3 e3 N0
abbrev own_r6 : Room := { frames := 0, cells := 0, slots := 0, locals := 0 }
theorem d6_0 : decode method_2_code 0 = .ok (.iload_n 3, 1) := by decide +kernel
theorem d6_1 : decode method_2_code 1 = .ok (.iload_n 2, 1) := by decide +kernel
theorem d6_2 : decode method_2_code 2 = .ok (.if_icmp .ge 17, 3) := by decide +kernel
theorem d6_5 : decode method_2_code 5 = .ok (.aload_n 0, 1) := by decide +kernel
theorem d6_6 : decode method_2_code 6 = .ok (.iload_n 1, 1) := by decide +kernel
theorem d6_7 : decode method_2_code 7 = .ok (.iload_n 3, 1) := by decide +kernel
theorem d6_8 : decode method_2_code 8 = .ok (.iadd, 1) := by decide +kernel
theorem d6_9 : decode method_2_code 9 = .ok (.caload, 1) := by decide +kernel
theorem d6_10 : decode method_2_code 10 = .ok (.iload 4, 2) := by decide +kernel
theorem d6_12 : decode method_2_code 12 = .ok (.if_icmp .ne 7, 3) := by decide +kernel
theorem d6_15 : decode method_2_code 15 = .ok (.iconst 1, 1) := by decide +kernel
theorem d6_16 : decode method_2_code 16 = .ok (.goto 4, 3) := by decide +kernel
theorem d6_20 : decode method_2_code 20 = .ok (.ireturn, 1) := by decide +kernel
theorem d6_19 : decode method_2_code 19 = .ok (.iconst 0, 1) := by decide +kernel
theorem ef_6 (m : MethodId) (r0 : Addr) (p1 : Int32) (p2 : Int32) (p3 : Int32) (p4 : Int32) : entryFrame m #[(.ref r0), (.int p1), (.int p2), (.int p3), (.int p4)] 5 = mkF m 0 #[.val (.ref r0), .val (.int p1), .val (.int p2), .val (.int p3), .val (.int p4)] [] := by first | (simp [entryFrame, mkF, argsToLocals, Value.category]; done) | rfl
set_option maxRecDepth 65536 in
set_option maxHeartbeats 40000000 in
theorem rm6 (l : Launch) (Z : State) (a0 : Array Value) (hw : ∀ d ∈ tables_1, d.before a0 Z = true) (r0 : Addr) (p1 p2 p3 p4 : Int32) (k : ClassId) (nn : Int32) (cs : List Int32) (h0 : Heap) (n0 : Nat) (V0 : Arv Z h0 r0 k .char nn (cs.map Value.int) (.int 0)) (hin : p3 < p2 → ¬ (p1 + p3) < 0 ∧ (p1 + p3) < nn) : own_Con [] l Z (⟨"com/example/virta/virta/InputHoldsAheadPinLaw", "at", "([CIIIC)Z"⟩ : MethodName) method_2_code 5 (some .boolean) own_r6 n0 #[(.ref r0), (.int p1), (.int p2), (.int p3), (.int p4)] h0 (own_P (.int (own_at cs p1 p2 p3 p4)) h0) := by
  refine own_body (plainFor_of_name (by first | (simp [plainName, overriddenIn]; done) | decide +kernel)) (fun m => mkF m 0 #[.val (.ref r0), .val (.int p1), .val (.int p2), .val (.int p3), .val (.int p4)] []) (fun m => ef_6 m r0 p1 p2 p3 p4) ?_
  intro p e s m below meth c s₁ hx hby hml hown hnm hZ hret hlk X0 e0 N0
  refine own_go (T' := s₁) (g' := (mkF m 2 #[.val (.ref r0), .val (.int p1), .val (.int p2), .val (.int p3), .val (.int p4)] [(.int p2), (.int p3)])) (fun t k => ?_) ?_
  · show Steps p.tables e below (s₁.setTop (mkF m 0 #[.val (.ref r0), .val (.int p1), .val (.int p2), .val (.int p3), .val (.int p4)] [])) t
    refine XS.iloadN X0.here hx rfl (hb hby d6_0) rfl ?_
    show Steps p.tables e below (s₁.setTop (mkF m 1 #[.val (.ref r0), .val (.int p1), .val (.int p2), .val (.int p3), .val (.int p4)] [(.int p3)])) _
    refine XS.iloadN X0.here hx rfl (hb hby d6_1) rfl ?_
    show Steps p.tables e below (s₁.setTop (mkF m 2 #[.val (.ref r0), .val (.int p1), .val (.int p2), .val (.int p3), .val (.int p4)] [(.int p2), (.int p3)])) _
    exact k
  by_cases hc2_1 : p3 < p2
  · refine own_go (T' := s₁) (g' := (mkF m 5 #[.val (.ref r0), .val (.int p1), .val (.int p2), .val (.int p3), .val (.int p4)] [])) (fun t k => ?_) ?_
    · refine XS.icmpNo X0.here hx rfl (hb hby d6_2) rfl (tlt hc2_1).2.1 ?_
      exact k
    refine own_go (T' := s₁) (g' := (mkF m 12 #[.val (.ref r0), .val (.int p1), .val (.int p2), .val (.int p3), .val (.int p4)] [(.int p4), (.int (cs.getD (p1 + p3).toNatClampNeg 0))])) (fun t k => ?_) ?_
    · show Steps p.tables e below (s₁.setTop (mkF m 5 #[.val (.ref r0), .val (.int p1), .val (.int p2), .val (.int p3), .val (.int p4)] [])) t
      refine XS.aloadN X0.here hx rfl (hb hby d6_5) rfl rfl ?_
      show Steps p.tables e below (s₁.setTop (mkF m 6 #[.val (.ref r0), .val (.int p1), .val (.int p2), .val (.int p3), .val (.int p4)] [(.ref r0)])) _
      refine XS.iloadN X0.here hx rfl (hb hby d6_6) rfl ?_
      show Steps p.tables e below (s₁.setTop (mkF m 7 #[.val (.ref r0), .val (.int p1), .val (.int p2), .val (.int p3), .val (.int p4)] [(.int p1), (.ref r0)])) _
      refine XS.iloadN X0.here hx rfl (hb hby d6_7) rfl ?_
      show Steps p.tables e below (s₁.setTop (mkF m 8 #[.val (.ref r0), .val (.int p1), .val (.int p2), .val (.int p3), .val (.int p4)] [(.int p3), (.int p1), (.ref r0)])) _
      refine XS.iadd X0.here hx rfl (hb hby d6_8) rfl ?_
      show Steps p.tables e below (s₁.setTop (mkF m 9 #[.val (.ref r0), .val (.int p1), .val (.int p2), .val (.int p3), .val (.int p4)] [(.int (p1 + p3)), (.ref r0)])) _
      refine own_ldC X0 hx hZ e0 V0 (j := (p1 + p3)) (hin hc2_1) (v := (.int (cs.getD (p1 + p3).toNatClampNeg 0))) (own_gd' cs _) (g := (mkF m 9 #[.val (.ref r0), .val (.int p1), .val (.int p2), .val (.int p3), .val (.int p4)] [(.int (p1 + p3)), (.ref r0)])) rfl rfl (hb hby d6_9) _ ?_
      show Steps p.tables e below (s₁.setTop (mkF m 10 #[.val (.ref r0), .val (.int p1), .val (.int p2), .val (.int p3), .val (.int p4)] [(.int (cs.getD (p1 + p3).toNatClampNeg 0))])) _
      refine XS.iload X0.here hx rfl (hb hby d6_10) rfl ?_
      show Steps p.tables e below (s₁.setTop (mkF m 12 #[.val (.ref r0), .val (.int p1), .val (.int p2), .val (.int p3), .val (.int p4)] [(.int p4), (.int (cs.getD (p1 + p3).toNatClampNeg 0))])) _
      exact k
    by_cases hc12_2 : (cs.getD (p1 + p3).toNatClampNeg 0) = p4
    · refine own_go (T' := s₁) (g' := (mkF m 15 #[.val (.ref r0), .val (.int p1), .val (.int p2), .val (.int p3), .val (.int p4)] [])) (fun t k => ?_) ?_
      · refine XS.icmpNo X0.here hx rfl (hb hby d6_12) rfl (teq hc12_2).2 ?_
        exact k
      refine own_go (T' := s₁) (g' := (mkF m 20 #[.val (.ref r0), .val (.int p1), .val (.int p2), .val (.int p3), .val (.int p4)] [(.int (1 : Int32))])) (fun t k => ?_) ?_
      · show Steps p.tables e below (s₁.setTop (mkF m 15 #[.val (.ref r0), .val (.int p1), .val (.int p2), .val (.int p3), .val (.int p4)] [])) t
        refine XS.iconst X0.here hx rfl (hb hby d6_15) ?_
        show Steps p.tables e below (s₁.setTop (mkF m 16 #[.val (.ref r0), .val (.int p1), .val (.int p2), .val (.int p3), .val (.int p4)] [(.int (1 : Int32))])) _
        refine XS.goto X0.here hx rfl (pc0 := 16) (pc' := 20) rfl (hb hby d6_16) (by decide) (by decide) ?_
        show Steps p.tables e below (s₁.setTop (mkF m 20 #[.val (.ref r0), .val (.int p1), .val (.int p2), .val (.int p3), .val (.int p4)] [(.int (1 : Int32))])) _
        exact k
      exact own_retN X0 hx hlk hret (by simp) (hb hby d6_20) (by decide) (by decide) N0 ⟨by unfold own_at; rw [if_pos hc2_1, if_pos hc12_2]; rfl, e0⟩
    · refine own_go (T' := s₁) (g' := (mkF m 19 #[.val (.ref r0), .val (.int p1), .val (.int p2), .val (.int p3), .val (.int p4)] [])) (fun t k => ?_) ?_
      · refine XS.icmpYes X0.here hx rfl (pc0 := 12) (pc' := 19) rfl (hb hby d6_12) rfl (feq hc12_2).2 (by decide) (by decide) ?_
        exact k
      refine own_go (T' := s₁) (g' := (mkF m 20 #[.val (.ref r0), .val (.int p1), .val (.int p2), .val (.int p3), .val (.int p4)] [(.int (0 : Int32))])) (fun t k => ?_) ?_
      · show Steps p.tables e below (s₁.setTop (mkF m 19 #[.val (.ref r0), .val (.int p1), .val (.int p2), .val (.int p3), .val (.int p4)] [])) t
        refine XS.iconst X0.here hx rfl (hb hby d6_19) ?_
        show Steps p.tables e below (s₁.setTop (mkF m 20 #[.val (.ref r0), .val (.int p1), .val (.int p2), .val (.int p3), .val (.int p4)] [(.int (0 : Int32))])) _
        exact k
      exact own_retN X0 hx hlk hret (by simp) (hb hby d6_20) (by decide) (by decide) N0 ⟨by unfold own_at; rw [if_pos hc2_1, if_neg hc12_2]; rfl, e0⟩
  · refine own_go (T' := s₁) (g' := (mkF m 19 #[.val (.ref r0), .val (.int p1), .val (.int p2), .val (.int p3), .val (.int p4)] [])) (fun t k => ?_) ?_
    · refine XS.icmpYes X0.here hx rfl (pc0 := 2) (pc' := 19) rfl (hb hby d6_2) rfl (flt hc2_1).2.1 (by decide) (by decide) ?_
      exact k
    refine own_go (T' := s₁) (g' := (mkF m 20 #[.val (.ref r0), .val (.int p1), .val (.int p2), .val (.int p3), .val (.int p4)] [(.int (0 : Int32))])) (fun t k => ?_) ?_
    · show Steps p.tables e below (s₁.setTop (mkF m 19 #[.val (.ref r0), .val (.int p1), .val (.int p2), .val (.int p3), .val (.int p4)] [])) t
      refine XS.iconst X0.here hx rfl (hb hby d6_19) ?_
      show Steps p.tables e below (s₁.setTop (mkF m 20 #[.val (.ref r0), .val (.int p1), .val (.int p2), .val (.int p3), .val (.int p4)] [(.int (0 : Int32))])) _
      exact k
    exact own_retN X0 hx hlk hret (by simp) (hb hby d6_20) (by decide) (by decide) N0 ⟨by unfold own_at; rw [if_neg hc2_1]; rfl, e0⟩
def own_Q0 : Option Value → Heap → Prop := fun v _ => v = some (.int 1) ∧ True
theorem pd_1 : parseMethodDescriptor "([C)V" = some ⟨[(.array .char)], none⟩ := by decide +kernel
theorem pd_2 : parseMethodDescriptor "(I)V" = some ⟨[.int], none⟩ := by decide +kernel
theorem pd_3 : parseMethodDescriptor "(IIC)Z" = some ⟨[.int, .int, .char], some .boolean⟩ := by decide +kernel
theorem pd_4 : parseMethodDescriptor "([CIIIC)Z" = some ⟨[(.array .char), .int, .int, .int, .char], some .boolean⟩ := by decide +kernel
theorem ef_0 (m : MethodId) (p0 : Int32) (p1 : Int32) (p2 : Int32) (p3 : Int32) (p4 : Int32) (p5 : Int32) : entryFrame m #[(.int p0), (.int p1), (.int p2), (.int p3), (.int p4), (.int p5)] maxLocals = mkF m 0 #[.val (.int p0), .val (.int p1), .val (.int p2), .val (.int p3), .val (.int p4), .val (.int p5), .unset, .unset, .unset, .unset, .unset, .unset, .unset, .unset, .unset, .unset, .unset] [] := by first | (simp [entryFrame, mkF, argsToLocals, Value.category, maxLocals]; done) | rfl
set_option maxRecDepth 65536 in
set_option maxHeartbeats 40000000 in
theorem rm0 (l : Launch) (Z : State) (a0 : Array Value) (hw : ∀ d ∈ tables_1, d.before a0 Z = true) (p0 p1 p2 p3 p4 p5 : Int32) (h0 : Heap) (n0 : Nat) (Z0 : n0 ≤ h0.size) : own_Con tables_1 l Z x code maxLocals ret room_1 n0 #[(.int p0), (.int p1), (.int p2), (.int p3), (.int p4), (.int p5)] h0 own_Q0 := by
  refine own_body (plainFor_of_name (by first | (simp [plainName, overriddenIn]; done) | decide +kernel)) (fun m => mkF m 0 #[.val (.int p0), .val (.int p1), .val (.int p2), .val (.int p3), .val (.int p4), .val (.int p5), .unset, .unset, .unset, .unset, .unset, .unset, .unset, .unset, .unset, .unset, .unset] []) (fun m => ef_0 m p0 p1 p2 p3 p4 p5) ?_
  intro p e s m below meth c s₁ hx hby hml hown hnm hZ hret hlk X0 e0 N0
  have hml : c.maxLocals = 17 := hml
  have hown : s.vm.findClass "com/example/virta/virta/InputHoldsAheadPinLaw" = some m.cls := hown
  have hret : meth.sig.returnType = some .boolean := hret
  refine own_go (T' := s₁) (g' := (mkF m 2 #[.val (.int p0), .val (.int p1), .val (.int p2), .val (.int p3), .val (.int p4), .val (.int p5), .unset, .unset, .unset, .unset, .unset, .unset, .unset, .unset, .unset, .unset, .unset] [(.int (6 : Int32))])) (fun t k => ?_) ?_
  · show Steps p.tables e below (s₁.setTop (mkF m 0 #[.val (.int p0), .val (.int p1), .val (.int p2), .val (.int p3), .val (.int p4), .val (.int p5), .unset, .unset, .unset, .unset, .unset, .unset, .unset, .unset, .unset, .unset, .unset] [])) t
    refine XS.bipush X0.here hx rfl (hb hby at_0) ?_
    show Steps p.tables e below (s₁.setTop (mkF m 2 #[.val (.int p0), .val (.int p1), .val (.int p2), .val (.int p3), .val (.int p4), .val (.int p5), .unset, .unset, .unset, .unset, .unset, .unset, .unset, .unset, .unset, .unset, .unset] [(.int (6 : Int32))])) _
    exact k
  obtain ⟨T1, h1, k1, b1, g1, X1, e1, E1, A1, st1⟩ := own_new X0 hx hZ (hw _ (List.mem_of_getElem? (i := 0) rfl)) e0 (g := (mkF m 2 #[.val (.int p0), .val (.int p1), .val (.int p2), .val (.int p3), .val (.int p4), .val (.int p5), .unset, .unset, .unset, .unset, .unset, .unset, .unset, .unset, .unset, .unset, .unset] [(.int (6 : Int32))])) rfl (hb hby at_2) rfl (by decide) (cap := 6) (by decide) (by decide) (by decide) (by decide)
  have ga_b1 : n0 ≤ b1 := Nat.le_trans Z0 (Nat.le_of_eq g1.symm)
  have sz_1 := Nat.le_trans Z0 E1.1
  have V_b1_1 : Arv Z h1 b1 k1 .char (6 : Int32) [(.int (0 : Int32)), (.int (0 : Int32)), (.int (0 : Int32)), (.int (0 : Int32)), (.int (0 : Int32)), (.int (0 : Int32))] (.int (0 : Int32)) := A1.pad (pad_rep [] (.int (0 : Int32)) 6)
  refine own_go (T' := T1) (g' := (mkF m 4 #[.val (.int p0), .val (.int p1), .val (.int p2), .val (.int p3), .val (.int p4), .val (.int p5), .unset, .unset, .unset, .unset, .unset, .unset, .unset, .unset, .unset, .unset, .unset] [(.ref b1)])) st1 ?_
  refine own_go (T' := T1) (g' := (mkF m 11 #[.val (.int p0), .val (.int p1), .val (.int p2), .val (.int p3), .val (.int p4), .val (.int p5), .val (.ref b1), .unset, .unset, .unset, .unset, .unset, .unset, .unset, .unset, .unset, .unset] [(.int (p0.toUInt32.toUInt16.toUInt32.toInt32)), (.int (0 : Int32)), (.ref b1)])) (fun t k => ?_) ?_
  · show Steps p.tables e below (T1.setTop (mkF m 4 #[.val (.int p0), .val (.int p1), .val (.int p2), .val (.int p3), .val (.int p4), .val (.int p5), .unset, .unset, .unset, .unset, .unset, .unset, .unset, .unset, .unset, .unset, .unset] [(.ref b1)])) t
    refine XS.astore X1.here hx rfl (hb hby at_4) rfl rfl (l' := #[.val (.int p0), .val (.int p1), .val (.int p2), .val (.int p3), .val (.int p4), .val (.int p5), .val (.ref b1), .unset, .unset, .unset, .unset, .unset, .unset, .unset, .unset, .unset, .unset]) rfl ?_
    show Steps p.tables e below (T1.setTop (mkF m 6 #[.val (.int p0), .val (.int p1), .val (.int p2), .val (.int p3), .val (.int p4), .val (.int p5), .val (.ref b1), .unset, .unset, .unset, .unset, .unset, .unset, .unset, .unset, .unset, .unset] [])) _
    refine XS.aload X1.here hx rfl (hb hby at_6) rfl rfl ?_
    show Steps p.tables e below (T1.setTop (mkF m 8 #[.val (.int p0), .val (.int p1), .val (.int p2), .val (.int p3), .val (.int p4), .val (.int p5), .val (.ref b1), .unset, .unset, .unset, .unset, .unset, .unset, .unset, .unset, .unset, .unset] [(.ref b1)])) _
    refine XS.iconst X1.here hx rfl (hb hby at_8) ?_
    show Steps p.tables e below (T1.setTop (mkF m 9 #[.val (.int p0), .val (.int p1), .val (.int p2), .val (.int p3), .val (.int p4), .val (.int p5), .val (.ref b1), .unset, .unset, .unset, .unset, .unset, .unset, .unset, .unset, .unset, .unset] [(.int (0 : Int32)), (.ref b1)])) _
    refine XS.iloadN X1.here hx rfl (hb hby at_9) rfl ?_
    show Steps p.tables e below (T1.setTop (mkF m 10 #[.val (.int p0), .val (.int p1), .val (.int p2), .val (.int p3), .val (.int p4), .val (.int p5), .val (.ref b1), .unset, .unset, .unset, .unset, .unset, .unset, .unset, .unset, .unset, .unset] [(.int p0), (.int (0 : Int32)), (.ref b1)])) _
    refine XS.i2c X1.here hx rfl (hb hby at_10) rfl ?_
    show Steps p.tables e below (T1.setTop (mkF m 11 #[.val (.int p0), .val (.int p1), .val (.int p2), .val (.int p3), .val (.int p4), .val (.int p5), .val (.ref b1), .unset, .unset, .unset, .unset, .unset, .unset, .unset, .unset, .unset, .unset] [(.int (p0.toUInt32.toUInt16.toUInt32.toInt32)), (.int (0 : Int32)), (.ref b1)])) _
    exact k
  obtain ⟨c0, h_c0⟩ : ∃ z : Int32, z = (p0.toUInt32.toUInt16.toUInt32.toInt32) := ⟨_, rfl⟩
  rw [← h_c0]
  have n_c0 : nar .char c0 = c0 := by rw [h_c0]; exact own_narc _
  obtain ⟨T2, h2, L2, X2, N2, e2, W2, Y2, st2⟩ := own_stC X1 hx hZ e1 V_b1_1 (j := (0 : Int32)) (by decide) 0 rfl (Nat.le_of_ble_eq_true rfl) N0 ga_b1 (g := (mkF m 11 #[.val (.int p0), .val (.int p1), .val (.int p2), .val (.int p3), .val (.int p4), .val (.int p5), .val (.ref b1), .unset, .unset, .unset, .unset, .unset, .unset, .unset, .unset, .unset, .unset] [(.int c0), (.int (0 : Int32)), (.ref b1)])) rfl rfl (hb hby at_11)
  rw [n_c0] at W2 Y2
  have V_b1_2 : Arv Z h2 b1 k1 .char (6 : Int32) [(.int c0), (.int (0 : Int32)), (.int (0 : Int32)), (.int (0 : Int32)), (.int (0 : Int32)), (.int (0 : Int32))] (.int (0 : Int32)) := Y2
  have sz_2 := Nat.le_trans sz_1 (Nat.le_of_eq (Wr.size W2).symm)
  refine own_go (T' := T2) (g' := (mkF m 12 #[.val (.int p0), .val (.int p1), .val (.int p2), .val (.int p3), .val (.int p4), .val (.int p5), .val (.ref b1), .unset, .unset, .unset, .unset, .unset, .unset, .unset, .unset, .unset, .unset] [])) st2 ?_
  refine own_go (T' := T2) (g' := (mkF m 20 #[.val (.int p0), .val (.int p1), .val (.int p2), .val (.int p3), .val (.int p4), .val (.int p5), .val (.ref b1), .unset, .unset, .unset, .unset, .unset, .unset, .unset, .unset, .unset, .unset] [(.int (((p0.toUInt32 >>> ((16 : Int32) &&& 31).toUInt32).toInt32).toUInt32.toUInt16.toUInt32.toInt32)), (.int (1 : Int32)), (.ref b1)])) (fun t k => ?_) ?_
  · show Steps p.tables e below (T2.setTop (mkF m 12 #[.val (.int p0), .val (.int p1), .val (.int p2), .val (.int p3), .val (.int p4), .val (.int p5), .val (.ref b1), .unset, .unset, .unset, .unset, .unset, .unset, .unset, .unset, .unset, .unset] [])) t
    refine XS.aload X2.here hx rfl (hb hby at_12) rfl rfl ?_
    show Steps p.tables e below (T2.setTop (mkF m 14 #[.val (.int p0), .val (.int p1), .val (.int p2), .val (.int p3), .val (.int p4), .val (.int p5), .val (.ref b1), .unset, .unset, .unset, .unset, .unset, .unset, .unset, .unset, .unset, .unset] [(.ref b1)])) _
    refine XS.iconst X2.here hx rfl (hb hby at_14) ?_
    show Steps p.tables e below (T2.setTop (mkF m 15 #[.val (.int p0), .val (.int p1), .val (.int p2), .val (.int p3), .val (.int p4), .val (.int p5), .val (.ref b1), .unset, .unset, .unset, .unset, .unset, .unset, .unset, .unset, .unset, .unset] [(.int (1 : Int32)), (.ref b1)])) _
    refine XS.iloadN X2.here hx rfl (hb hby at_15) rfl ?_
    show Steps p.tables e below (T2.setTop (mkF m 16 #[.val (.int p0), .val (.int p1), .val (.int p2), .val (.int p3), .val (.int p4), .val (.int p5), .val (.ref b1), .unset, .unset, .unset, .unset, .unset, .unset, .unset, .unset, .unset, .unset] [(.int p0), (.int (1 : Int32)), (.ref b1)])) _
    refine XS.bipush X2.here hx rfl (hb hby at_16) ?_
    show Steps p.tables e below (T2.setTop (mkF m 18 #[.val (.int p0), .val (.int p1), .val (.int p2), .val (.int p3), .val (.int p4), .val (.int p5), .val (.ref b1), .unset, .unset, .unset, .unset, .unset, .unset, .unset, .unset, .unset, .unset] [(.int (16 : Int32)), (.int p0), (.int (1 : Int32)), (.ref b1)])) _
    refine XS.iushr X2.here hx rfl (hb hby at_18) rfl ?_
    show Steps p.tables e below (T2.setTop (mkF m 19 #[.val (.int p0), .val (.int p1), .val (.int p2), .val (.int p3), .val (.int p4), .val (.int p5), .val (.ref b1), .unset, .unset, .unset, .unset, .unset, .unset, .unset, .unset, .unset, .unset] [(.int ((p0.toUInt32 >>> ((16 : Int32) &&& 31).toUInt32).toInt32)), (.int (1 : Int32)), (.ref b1)])) _
    refine XS.i2c X2.here hx rfl (hb hby at_19) rfl ?_
    show Steps p.tables e below (T2.setTop (mkF m 20 #[.val (.int p0), .val (.int p1), .val (.int p2), .val (.int p3), .val (.int p4), .val (.int p5), .val (.ref b1), .unset, .unset, .unset, .unset, .unset, .unset, .unset, .unset, .unset, .unset] [(.int (((p0.toUInt32 >>> ((16 : Int32) &&& 31).toUInt32).toInt32).toUInt32.toUInt16.toUInt32.toInt32)), (.int (1 : Int32)), (.ref b1)])) _
    exact k
  obtain ⟨c1, h_c1⟩ : ∃ z : Int32, z = (((p0.toUInt32 >>> ((16 : Int32) &&& 31).toUInt32).toInt32).toUInt32.toUInt16.toUInt32.toInt32) := ⟨_, rfl⟩
  rw [← h_c1]
  have n_c1 : nar .char c1 = c1 := by rw [h_c1]; exact own_narc _
  obtain ⟨T3, h3, L3, X3, N3, e3, W3, Y3, st3⟩ := own_stC X2 hx hZ e2 V_b1_2 (j := (1 : Int32)) (by decide) 1 rfl (Nat.le_of_ble_eq_true rfl) N2 ga_b1 (g := (mkF m 20 #[.val (.int p0), .val (.int p1), .val (.int p2), .val (.int p3), .val (.int p4), .val (.int p5), .val (.ref b1), .unset, .unset, .unset, .unset, .unset, .unset, .unset, .unset, .unset, .unset] [(.int c1), (.int (1 : Int32)), (.ref b1)])) rfl rfl (hb hby at_20)
  rw [n_c1] at W3 Y3
  have V_b1_3 : Arv Z h3 b1 k1 .char (6 : Int32) [(.int c0), (.int c1), (.int (0 : Int32)), (.int (0 : Int32)), (.int (0 : Int32)), (.int (0 : Int32))] (.int (0 : Int32)) := Y3
  have sz_3 := Nat.le_trans sz_2 (Nat.le_of_eq (Wr.size W3).symm)
  refine own_go (T' := T3) (g' := (mkF m 21 #[.val (.int p0), .val (.int p1), .val (.int p2), .val (.int p3), .val (.int p4), .val (.int p5), .val (.ref b1), .unset, .unset, .unset, .unset, .unset, .unset, .unset, .unset, .unset, .unset] [])) st3 ?_
  refine own_go (T' := T3) (g' := (mkF m 26 #[.val (.int p0), .val (.int p1), .val (.int p2), .val (.int p3), .val (.int p4), .val (.int p5), .val (.ref b1), .unset, .unset, .unset, .unset, .unset, .unset, .unset, .unset, .unset, .unset] [(.int (p1.toUInt32.toUInt16.toUInt32.toInt32)), (.int (2 : Int32)), (.ref b1)])) (fun t k => ?_) ?_
  · show Steps p.tables e below (T3.setTop (mkF m 21 #[.val (.int p0), .val (.int p1), .val (.int p2), .val (.int p3), .val (.int p4), .val (.int p5), .val (.ref b1), .unset, .unset, .unset, .unset, .unset, .unset, .unset, .unset, .unset, .unset] [])) t
    refine XS.aload X3.here hx rfl (hb hby at_21) rfl rfl ?_
    show Steps p.tables e below (T3.setTop (mkF m 23 #[.val (.int p0), .val (.int p1), .val (.int p2), .val (.int p3), .val (.int p4), .val (.int p5), .val (.ref b1), .unset, .unset, .unset, .unset, .unset, .unset, .unset, .unset, .unset, .unset] [(.ref b1)])) _
    refine XS.iconst X3.here hx rfl (hb hby at_23) ?_
    show Steps p.tables e below (T3.setTop (mkF m 24 #[.val (.int p0), .val (.int p1), .val (.int p2), .val (.int p3), .val (.int p4), .val (.int p5), .val (.ref b1), .unset, .unset, .unset, .unset, .unset, .unset, .unset, .unset, .unset, .unset] [(.int (2 : Int32)), (.ref b1)])) _
    refine XS.iloadN X3.here hx rfl (hb hby at_24) rfl ?_
    show Steps p.tables e below (T3.setTop (mkF m 25 #[.val (.int p0), .val (.int p1), .val (.int p2), .val (.int p3), .val (.int p4), .val (.int p5), .val (.ref b1), .unset, .unset, .unset, .unset, .unset, .unset, .unset, .unset, .unset, .unset] [(.int p1), (.int (2 : Int32)), (.ref b1)])) _
    refine XS.i2c X3.here hx rfl (hb hby at_25) rfl ?_
    show Steps p.tables e below (T3.setTop (mkF m 26 #[.val (.int p0), .val (.int p1), .val (.int p2), .val (.int p3), .val (.int p4), .val (.int p5), .val (.ref b1), .unset, .unset, .unset, .unset, .unset, .unset, .unset, .unset, .unset, .unset] [(.int (p1.toUInt32.toUInt16.toUInt32.toInt32)), (.int (2 : Int32)), (.ref b1)])) _
    exact k
  obtain ⟨c2, h_c2⟩ : ∃ z : Int32, z = (p1.toUInt32.toUInt16.toUInt32.toInt32) := ⟨_, rfl⟩
  rw [← h_c2]
  have n_c2 : nar .char c2 = c2 := by rw [h_c2]; exact own_narc _
  obtain ⟨T4, h4, L4, X4, N4, e4, W4, Y4, st4⟩ := own_stC X3 hx hZ e3 V_b1_3 (j := (2 : Int32)) (by decide) 2 rfl (Nat.le_of_ble_eq_true rfl) N3 ga_b1 (g := (mkF m 26 #[.val (.int p0), .val (.int p1), .val (.int p2), .val (.int p3), .val (.int p4), .val (.int p5), .val (.ref b1), .unset, .unset, .unset, .unset, .unset, .unset, .unset, .unset, .unset, .unset] [(.int c2), (.int (2 : Int32)), (.ref b1)])) rfl rfl (hb hby at_26)
  rw [n_c2] at W4 Y4
  have V_b1_4 : Arv Z h4 b1 k1 .char (6 : Int32) [(.int c0), (.int c1), (.int c2), (.int (0 : Int32)), (.int (0 : Int32)), (.int (0 : Int32))] (.int (0 : Int32)) := Y4
  have sz_4 := Nat.le_trans sz_3 (Nat.le_of_eq (Wr.size W4).symm)
  refine own_go (T' := T4) (g' := (mkF m 27 #[.val (.int p0), .val (.int p1), .val (.int p2), .val (.int p3), .val (.int p4), .val (.int p5), .val (.ref b1), .unset, .unset, .unset, .unset, .unset, .unset, .unset, .unset, .unset, .unset] [])) st4 ?_
  refine own_go (T' := T4) (g' := (mkF m 35 #[.val (.int p0), .val (.int p1), .val (.int p2), .val (.int p3), .val (.int p4), .val (.int p5), .val (.ref b1), .unset, .unset, .unset, .unset, .unset, .unset, .unset, .unset, .unset, .unset] [(.int (((p1.toUInt32 >>> ((16 : Int32) &&& 31).toUInt32).toInt32).toUInt32.toUInt16.toUInt32.toInt32)), (.int (3 : Int32)), (.ref b1)])) (fun t k => ?_) ?_
  · show Steps p.tables e below (T4.setTop (mkF m 27 #[.val (.int p0), .val (.int p1), .val (.int p2), .val (.int p3), .val (.int p4), .val (.int p5), .val (.ref b1), .unset, .unset, .unset, .unset, .unset, .unset, .unset, .unset, .unset, .unset] [])) t
    refine XS.aload X4.here hx rfl (hb hby at_27) rfl rfl ?_
    show Steps p.tables e below (T4.setTop (mkF m 29 #[.val (.int p0), .val (.int p1), .val (.int p2), .val (.int p3), .val (.int p4), .val (.int p5), .val (.ref b1), .unset, .unset, .unset, .unset, .unset, .unset, .unset, .unset, .unset, .unset] [(.ref b1)])) _
    refine XS.iconst X4.here hx rfl (hb hby at_29) ?_
    show Steps p.tables e below (T4.setTop (mkF m 30 #[.val (.int p0), .val (.int p1), .val (.int p2), .val (.int p3), .val (.int p4), .val (.int p5), .val (.ref b1), .unset, .unset, .unset, .unset, .unset, .unset, .unset, .unset, .unset, .unset] [(.int (3 : Int32)), (.ref b1)])) _
    refine XS.iloadN X4.here hx rfl (hb hby at_30) rfl ?_
    show Steps p.tables e below (T4.setTop (mkF m 31 #[.val (.int p0), .val (.int p1), .val (.int p2), .val (.int p3), .val (.int p4), .val (.int p5), .val (.ref b1), .unset, .unset, .unset, .unset, .unset, .unset, .unset, .unset, .unset, .unset] [(.int p1), (.int (3 : Int32)), (.ref b1)])) _
    refine XS.bipush X4.here hx rfl (hb hby at_31) ?_
    show Steps p.tables e below (T4.setTop (mkF m 33 #[.val (.int p0), .val (.int p1), .val (.int p2), .val (.int p3), .val (.int p4), .val (.int p5), .val (.ref b1), .unset, .unset, .unset, .unset, .unset, .unset, .unset, .unset, .unset, .unset] [(.int (16 : Int32)), (.int p1), (.int (3 : Int32)), (.ref b1)])) _
    refine XS.iushr X4.here hx rfl (hb hby at_33) rfl ?_
    show Steps p.tables e below (T4.setTop (mkF m 34 #[.val (.int p0), .val (.int p1), .val (.int p2), .val (.int p3), .val (.int p4), .val (.int p5), .val (.ref b1), .unset, .unset, .unset, .unset, .unset, .unset, .unset, .unset, .unset, .unset] [(.int ((p1.toUInt32 >>> ((16 : Int32) &&& 31).toUInt32).toInt32)), (.int (3 : Int32)), (.ref b1)])) _
    refine XS.i2c X4.here hx rfl (hb hby at_34) rfl ?_
    show Steps p.tables e below (T4.setTop (mkF m 35 #[.val (.int p0), .val (.int p1), .val (.int p2), .val (.int p3), .val (.int p4), .val (.int p5), .val (.ref b1), .unset, .unset, .unset, .unset, .unset, .unset, .unset, .unset, .unset, .unset] [(.int (((p1.toUInt32 >>> ((16 : Int32) &&& 31).toUInt32).toInt32).toUInt32.toUInt16.toUInt32.toInt32)), (.int (3 : Int32)), (.ref b1)])) _
    exact k
  obtain ⟨c3, h_c3⟩ : ∃ z : Int32, z = (((p1.toUInt32 >>> ((16 : Int32) &&& 31).toUInt32).toInt32).toUInt32.toUInt16.toUInt32.toInt32) := ⟨_, rfl⟩
  rw [← h_c3]
  have n_c3 : nar .char c3 = c3 := by rw [h_c3]; exact own_narc _
  obtain ⟨T5, h5, L5, X5, N5, e5, W5, Y5, st5⟩ := own_stC X4 hx hZ e4 V_b1_4 (j := (3 : Int32)) (by decide) 3 rfl (Nat.le_of_ble_eq_true rfl) N4 ga_b1 (g := (mkF m 35 #[.val (.int p0), .val (.int p1), .val (.int p2), .val (.int p3), .val (.int p4), .val (.int p5), .val (.ref b1), .unset, .unset, .unset, .unset, .unset, .unset, .unset, .unset, .unset, .unset] [(.int c3), (.int (3 : Int32)), (.ref b1)])) rfl rfl (hb hby at_35)
  rw [n_c3] at W5 Y5
  have V_b1_5 : Arv Z h5 b1 k1 .char (6 : Int32) [(.int c0), (.int c1), (.int c2), (.int c3), (.int (0 : Int32)), (.int (0 : Int32))] (.int (0 : Int32)) := Y5
  have sz_5 := Nat.le_trans sz_4 (Nat.le_of_eq (Wr.size W5).symm)
  refine own_go (T' := T5) (g' := (mkF m 36 #[.val (.int p0), .val (.int p1), .val (.int p2), .val (.int p3), .val (.int p4), .val (.int p5), .val (.ref b1), .unset, .unset, .unset, .unset, .unset, .unset, .unset, .unset, .unset, .unset] [])) st5 ?_
  refine own_go (T' := T5) (g' := (mkF m 41 #[.val (.int p0), .val (.int p1), .val (.int p2), .val (.int p3), .val (.int p4), .val (.int p5), .val (.ref b1), .unset, .unset, .unset, .unset, .unset, .unset, .unset, .unset, .unset, .unset] [(.int (p2.toUInt32.toUInt16.toUInt32.toInt32)), (.int (4 : Int32)), (.ref b1)])) (fun t k => ?_) ?_
  · show Steps p.tables e below (T5.setTop (mkF m 36 #[.val (.int p0), .val (.int p1), .val (.int p2), .val (.int p3), .val (.int p4), .val (.int p5), .val (.ref b1), .unset, .unset, .unset, .unset, .unset, .unset, .unset, .unset, .unset, .unset] [])) t
    refine XS.aload X5.here hx rfl (hb hby at_36) rfl rfl ?_
    show Steps p.tables e below (T5.setTop (mkF m 38 #[.val (.int p0), .val (.int p1), .val (.int p2), .val (.int p3), .val (.int p4), .val (.int p5), .val (.ref b1), .unset, .unset, .unset, .unset, .unset, .unset, .unset, .unset, .unset, .unset] [(.ref b1)])) _
    refine XS.iconst X5.here hx rfl (hb hby at_38) ?_
    show Steps p.tables e below (T5.setTop (mkF m 39 #[.val (.int p0), .val (.int p1), .val (.int p2), .val (.int p3), .val (.int p4), .val (.int p5), .val (.ref b1), .unset, .unset, .unset, .unset, .unset, .unset, .unset, .unset, .unset, .unset] [(.int (4 : Int32)), (.ref b1)])) _
    refine XS.iloadN X5.here hx rfl (hb hby at_39) rfl ?_
    show Steps p.tables e below (T5.setTop (mkF m 40 #[.val (.int p0), .val (.int p1), .val (.int p2), .val (.int p3), .val (.int p4), .val (.int p5), .val (.ref b1), .unset, .unset, .unset, .unset, .unset, .unset, .unset, .unset, .unset, .unset] [(.int p2), (.int (4 : Int32)), (.ref b1)])) _
    refine XS.i2c X5.here hx rfl (hb hby at_40) rfl ?_
    show Steps p.tables e below (T5.setTop (mkF m 41 #[.val (.int p0), .val (.int p1), .val (.int p2), .val (.int p3), .val (.int p4), .val (.int p5), .val (.ref b1), .unset, .unset, .unset, .unset, .unset, .unset, .unset, .unset, .unset, .unset] [(.int (p2.toUInt32.toUInt16.toUInt32.toInt32)), (.int (4 : Int32)), (.ref b1)])) _
    exact k
  obtain ⟨c4, h_c4⟩ : ∃ z : Int32, z = (p2.toUInt32.toUInt16.toUInt32.toInt32) := ⟨_, rfl⟩
  rw [← h_c4]
  have n_c4 : nar .char c4 = c4 := by rw [h_c4]; exact own_narc _
  obtain ⟨T6, h6, L6, X6, N6, e6, W6, Y6, st6⟩ := own_stC X5 hx hZ e5 V_b1_5 (j := (4 : Int32)) (by decide) 4 rfl (Nat.le_of_ble_eq_true rfl) N5 ga_b1 (g := (mkF m 41 #[.val (.int p0), .val (.int p1), .val (.int p2), .val (.int p3), .val (.int p4), .val (.int p5), .val (.ref b1), .unset, .unset, .unset, .unset, .unset, .unset, .unset, .unset, .unset, .unset] [(.int c4), (.int (4 : Int32)), (.ref b1)])) rfl rfl (hb hby at_41)
  rw [n_c4] at W6 Y6
  have V_b1_6 : Arv Z h6 b1 k1 .char (6 : Int32) [(.int c0), (.int c1), (.int c2), (.int c3), (.int c4), (.int (0 : Int32))] (.int (0 : Int32)) := Y6
  have sz_6 := Nat.le_trans sz_5 (Nat.le_of_eq (Wr.size W6).symm)
  refine own_go (T' := T6) (g' := (mkF m 42 #[.val (.int p0), .val (.int p1), .val (.int p2), .val (.int p3), .val (.int p4), .val (.int p5), .val (.ref b1), .unset, .unset, .unset, .unset, .unset, .unset, .unset, .unset, .unset, .unset] [])) st6 ?_
  refine own_go (T' := T6) (g' := (mkF m 50 #[.val (.int p0), .val (.int p1), .val (.int p2), .val (.int p3), .val (.int p4), .val (.int p5), .val (.ref b1), .unset, .unset, .unset, .unset, .unset, .unset, .unset, .unset, .unset, .unset] [(.int (((p2.toUInt32 >>> ((16 : Int32) &&& 31).toUInt32).toInt32).toUInt32.toUInt16.toUInt32.toInt32)), (.int (5 : Int32)), (.ref b1)])) (fun t k => ?_) ?_
  · show Steps p.tables e below (T6.setTop (mkF m 42 #[.val (.int p0), .val (.int p1), .val (.int p2), .val (.int p3), .val (.int p4), .val (.int p5), .val (.ref b1), .unset, .unset, .unset, .unset, .unset, .unset, .unset, .unset, .unset, .unset] [])) t
    refine XS.aload X6.here hx rfl (hb hby at_42) rfl rfl ?_
    show Steps p.tables e below (T6.setTop (mkF m 44 #[.val (.int p0), .val (.int p1), .val (.int p2), .val (.int p3), .val (.int p4), .val (.int p5), .val (.ref b1), .unset, .unset, .unset, .unset, .unset, .unset, .unset, .unset, .unset, .unset] [(.ref b1)])) _
    refine XS.iconst X6.here hx rfl (hb hby at_44) ?_
    show Steps p.tables e below (T6.setTop (mkF m 45 #[.val (.int p0), .val (.int p1), .val (.int p2), .val (.int p3), .val (.int p4), .val (.int p5), .val (.ref b1), .unset, .unset, .unset, .unset, .unset, .unset, .unset, .unset, .unset, .unset] [(.int (5 : Int32)), (.ref b1)])) _
    refine XS.iloadN X6.here hx rfl (hb hby at_45) rfl ?_
    show Steps p.tables e below (T6.setTop (mkF m 46 #[.val (.int p0), .val (.int p1), .val (.int p2), .val (.int p3), .val (.int p4), .val (.int p5), .val (.ref b1), .unset, .unset, .unset, .unset, .unset, .unset, .unset, .unset, .unset, .unset] [(.int p2), (.int (5 : Int32)), (.ref b1)])) _
    refine XS.bipush X6.here hx rfl (hb hby at_46) ?_
    show Steps p.tables e below (T6.setTop (mkF m 48 #[.val (.int p0), .val (.int p1), .val (.int p2), .val (.int p3), .val (.int p4), .val (.int p5), .val (.ref b1), .unset, .unset, .unset, .unset, .unset, .unset, .unset, .unset, .unset, .unset] [(.int (16 : Int32)), (.int p2), (.int (5 : Int32)), (.ref b1)])) _
    refine XS.iushr X6.here hx rfl (hb hby at_48) rfl ?_
    show Steps p.tables e below (T6.setTop (mkF m 49 #[.val (.int p0), .val (.int p1), .val (.int p2), .val (.int p3), .val (.int p4), .val (.int p5), .val (.ref b1), .unset, .unset, .unset, .unset, .unset, .unset, .unset, .unset, .unset, .unset] [(.int ((p2.toUInt32 >>> ((16 : Int32) &&& 31).toUInt32).toInt32)), (.int (5 : Int32)), (.ref b1)])) _
    refine XS.i2c X6.here hx rfl (hb hby at_49) rfl ?_
    show Steps p.tables e below (T6.setTop (mkF m 50 #[.val (.int p0), .val (.int p1), .val (.int p2), .val (.int p3), .val (.int p4), .val (.int p5), .val (.ref b1), .unset, .unset, .unset, .unset, .unset, .unset, .unset, .unset, .unset, .unset] [(.int (((p2.toUInt32 >>> ((16 : Int32) &&& 31).toUInt32).toInt32).toUInt32.toUInt16.toUInt32.toInt32)), (.int (5 : Int32)), (.ref b1)])) _
    exact k
  obtain ⟨c5, h_c5⟩ : ∃ z : Int32, z = (((p2.toUInt32 >>> ((16 : Int32) &&& 31).toUInt32).toInt32).toUInt32.toUInt16.toUInt32.toInt32) := ⟨_, rfl⟩
  rw [← h_c5]
  have n_c5 : nar .char c5 = c5 := by rw [h_c5]; exact own_narc _
  obtain ⟨T7, h7, L7, X7, N7, e7, W7, Y7, st7⟩ := own_stC X6 hx hZ e6 V_b1_6 (j := (5 : Int32)) (by decide) 5 rfl (Nat.le_of_ble_eq_true rfl) N6 ga_b1 (g := (mkF m 50 #[.val (.int p0), .val (.int p1), .val (.int p2), .val (.int p3), .val (.int p4), .val (.int p5), .val (.ref b1), .unset, .unset, .unset, .unset, .unset, .unset, .unset, .unset, .unset, .unset] [(.int c5), (.int (5 : Int32)), (.ref b1)])) rfl rfl (hb hby at_50)
  rw [n_c5] at W7 Y7
  have V_b1_7 : Arv Z h7 b1 k1 .char (6 : Int32) [(.int c0), (.int c1), (.int c2), (.int c3), (.int c4), (.int c5)] (.int (0 : Int32)) := Y7
  have sz_7 := Nat.le_trans sz_6 (Nat.le_of_eq (Wr.size W7).symm)
  refine own_go (T' := T7) (g' := (mkF m 51 #[.val (.int p0), .val (.int p1), .val (.int p2), .val (.int p3), .val (.int p4), .val (.int p5), .val (.ref b1), .unset, .unset, .unset, .unset, .unset, .unset, .unset, .unset, .unset, .unset] [])) st7 ?_
  refine own_go (T' := T7) (g' := (mkF m 53 #[.val (.int p0), .val (.int p1), .val (.int p2), .val (.int p3), .val (.int p4), .val (.int p5), .val (.ref b1), .unset, .unset, .unset, .unset, .unset, .unset, .unset, .unset, .unset, .unset] [(.int (6 : Int32))])) (fun t k => ?_) ?_
  · show Steps p.tables e below (T7.setTop (mkF m 51 #[.val (.int p0), .val (.int p1), .val (.int p2), .val (.int p3), .val (.int p4), .val (.int p5), .val (.ref b1), .unset, .unset, .unset, .unset, .unset, .unset, .unset, .unset, .unset, .unset] [])) t
    refine XS.bipush X7.here hx rfl (hb hby at_51) ?_
    show Steps p.tables e below (T7.setTop (mkF m 53 #[.val (.int p0), .val (.int p1), .val (.int p2), .val (.int p3), .val (.int p4), .val (.int p5), .val (.ref b1), .unset, .unset, .unset, .unset, .unset, .unset, .unset, .unset, .unset, .unset] [(.int (6 : Int32))])) _
    exact k
  obtain ⟨T8, h8, k8, b8, g8, X8, e8, E8, A8, st8⟩ := own_new X7 hx hZ (hw _ (List.mem_of_getElem? (i := 0) rfl)) e7 (g := (mkF m 53 #[.val (.int p0), .val (.int p1), .val (.int p2), .val (.int p3), .val (.int p4), .val (.int p5), .val (.ref b1), .unset, .unset, .unset, .unset, .unset, .unset, .unset, .unset, .unset, .unset] [(.int (6 : Int32))])) rfl (hb hby at_53) rfl (by decide) (cap := 6) (by decide) (by decide) (by decide) (by decide)
  have lt_b1_b8 : b1 < b8 := Nat.lt_of_lt_of_le V_b1_7.lt (Nat.le_of_eq g8.symm)
  have ga_b8 : n0 ≤ b8 := Nat.le_trans sz_7 (Nat.le_of_eq g8.symm)
  have sz_8 := Nat.le_trans sz_7 E8.1
  have V_b1_8 := V_b1_7.ext E8
  have V_b8_8 : Arv Z h8 b8 k8 .char (6 : Int32) [(.int (0 : Int32)), (.int (0 : Int32)), (.int (0 : Int32)), (.int (0 : Int32)), (.int (0 : Int32)), (.int (0 : Int32))] (.int (0 : Int32)) := A8.pad (pad_rep [] (.int (0 : Int32)) 6)
  refine own_go (T' := T8) (g' := (mkF m 55 #[.val (.int p0), .val (.int p1), .val (.int p2), .val (.int p3), .val (.int p4), .val (.int p5), .val (.ref b1), .unset, .unset, .unset, .unset, .unset, .unset, .unset, .unset, .unset, .unset] [(.ref b8)])) st8 ?_
  refine own_go (T' := T8) (g' := (mkF m 64 #[.val (.int p0), .val (.int p1), .val (.int p2), .val (.int p3), .val (.int p4), .val (.int p5), .val (.ref b1), .val (.ref b8), .unset, .unset, .unset, .unset, .unset, .unset, .unset, .unset, .unset] [(.int c0), (.int (0 : Int32)), (.ref b8)])) (fun t k => ?_) ?_
  · show Steps p.tables e below (T8.setTop (mkF m 55 #[.val (.int p0), .val (.int p1), .val (.int p2), .val (.int p3), .val (.int p4), .val (.int p5), .val (.ref b1), .unset, .unset, .unset, .unset, .unset, .unset, .unset, .unset, .unset, .unset] [(.ref b8)])) t
    refine XS.astore X8.here hx rfl (hb hby at_55) rfl rfl (l' := #[.val (.int p0), .val (.int p1), .val (.int p2), .val (.int p3), .val (.int p4), .val (.int p5), .val (.ref b1), .val (.ref b8), .unset, .unset, .unset, .unset, .unset, .unset, .unset, .unset, .unset]) rfl ?_
    show Steps p.tables e below (T8.setTop (mkF m 57 #[.val (.int p0), .val (.int p1), .val (.int p2), .val (.int p3), .val (.int p4), .val (.int p5), .val (.ref b1), .val (.ref b8), .unset, .unset, .unset, .unset, .unset, .unset, .unset, .unset, .unset] [])) _
    refine XS.aload X8.here hx rfl (hb hby at_57) rfl rfl ?_
    show Steps p.tables e below (T8.setTop (mkF m 59 #[.val (.int p0), .val (.int p1), .val (.int p2), .val (.int p3), .val (.int p4), .val (.int p5), .val (.ref b1), .val (.ref b8), .unset, .unset, .unset, .unset, .unset, .unset, .unset, .unset, .unset] [(.ref b8)])) _
    refine XS.iconst X8.here hx rfl (hb hby at_59) ?_
    show Steps p.tables e below (T8.setTop (mkF m 60 #[.val (.int p0), .val (.int p1), .val (.int p2), .val (.int p3), .val (.int p4), .val (.int p5), .val (.ref b1), .val (.ref b8), .unset, .unset, .unset, .unset, .unset, .unset, .unset, .unset, .unset] [(.int (0 : Int32)), (.ref b8)])) _
    refine XS.aload X8.here hx rfl (hb hby at_60) rfl rfl ?_
    show Steps p.tables e below (T8.setTop (mkF m 62 #[.val (.int p0), .val (.int p1), .val (.int p2), .val (.int p3), .val (.int p4), .val (.int p5), .val (.ref b1), .val (.ref b8), .unset, .unset, .unset, .unset, .unset, .unset, .unset, .unset, .unset] [(.ref b1), (.int (0 : Int32)), (.ref b8)])) _
    refine XS.iconst X8.here hx rfl (hb hby at_62) ?_
    show Steps p.tables e below (T8.setTop (mkF m 63 #[.val (.int p0), .val (.int p1), .val (.int p2), .val (.int p3), .val (.int p4), .val (.int p5), .val (.ref b1), .val (.ref b8), .unset, .unset, .unset, .unset, .unset, .unset, .unset, .unset, .unset] [(.int (0 : Int32)), (.ref b1), (.int (0 : Int32)), (.ref b8)])) _
    refine own_ldC X8 hx hZ e8 V_b1_8 (j := (0 : Int32)) (by decide) (v := (.int c0)) rfl (g := (mkF m 63 #[.val (.int p0), .val (.int p1), .val (.int p2), .val (.int p3), .val (.int p4), .val (.int p5), .val (.ref b1), .val (.ref b8), .unset, .unset, .unset, .unset, .unset, .unset, .unset, .unset, .unset] [(.int (0 : Int32)), (.ref b1), (.int (0 : Int32)), (.ref b8)])) rfl rfl (hb hby at_63) _ ?_
    show Steps p.tables e below (T8.setTop (mkF m 64 #[.val (.int p0), .val (.int p1), .val (.int p2), .val (.int p3), .val (.int p4), .val (.int p5), .val (.ref b1), .val (.ref b8), .unset, .unset, .unset, .unset, .unset, .unset, .unset, .unset, .unset] [(.int c0), (.int (0 : Int32)), (.ref b8)])) _
    exact k
  obtain ⟨T9, h9, L9, X9, N9, e9, W9, Y9, st9⟩ := own_stC X8 hx hZ e8 V_b8_8 (j := (0 : Int32)) (by decide) 0 rfl (Nat.le_of_ble_eq_true rfl) N7 ga_b8 (g := (mkF m 64 #[.val (.int p0), .val (.int p1), .val (.int p2), .val (.int p3), .val (.int p4), .val (.int p5), .val (.ref b1), .val (.ref b8), .unset, .unset, .unset, .unset, .unset, .unset, .unset, .unset, .unset] [(.int c0), (.int (0 : Int32)), (.ref b8)])) rfl rfl (hb hby at_64)
  rw [n_c0] at W9 Y9
  have V_b1_9 := V_b1_8.other W9 (Nat.ne_of_lt lt_b1_b8)
  have V_b8_9 : Arv Z h9 b8 k8 .char (6 : Int32) [(.int c0), (.int (0 : Int32)), (.int (0 : Int32)), (.int (0 : Int32)), (.int (0 : Int32)), (.int (0 : Int32))] (.int (0 : Int32)) := Y9
  have sz_9 := Nat.le_trans sz_8 (Nat.le_of_eq (Wr.size W9).symm)
  refine own_go (T' := T9) (g' := (mkF m 65 #[.val (.int p0), .val (.int p1), .val (.int p2), .val (.int p3), .val (.int p4), .val (.int p5), .val (.ref b1), .val (.ref b8), .unset, .unset, .unset, .unset, .unset, .unset, .unset, .unset, .unset] [])) st9 ?_
  refine own_go (T' := T9) (g' := (mkF m 72 #[.val (.int p0), .val (.int p1), .val (.int p2), .val (.int p3), .val (.int p4), .val (.int p5), .val (.ref b1), .val (.ref b8), .unset, .unset, .unset, .unset, .unset, .unset, .unset, .unset, .unset] [(.int c1), (.int (1 : Int32)), (.ref b8)])) (fun t k => ?_) ?_
  · show Steps p.tables e below (T9.setTop (mkF m 65 #[.val (.int p0), .val (.int p1), .val (.int p2), .val (.int p3), .val (.int p4), .val (.int p5), .val (.ref b1), .val (.ref b8), .unset, .unset, .unset, .unset, .unset, .unset, .unset, .unset, .unset] [])) t
    refine XS.aload X9.here hx rfl (hb hby at_65) rfl rfl ?_
    show Steps p.tables e below (T9.setTop (mkF m 67 #[.val (.int p0), .val (.int p1), .val (.int p2), .val (.int p3), .val (.int p4), .val (.int p5), .val (.ref b1), .val (.ref b8), .unset, .unset, .unset, .unset, .unset, .unset, .unset, .unset, .unset] [(.ref b8)])) _
    refine XS.iconst X9.here hx rfl (hb hby at_67) ?_
    show Steps p.tables e below (T9.setTop (mkF m 68 #[.val (.int p0), .val (.int p1), .val (.int p2), .val (.int p3), .val (.int p4), .val (.int p5), .val (.ref b1), .val (.ref b8), .unset, .unset, .unset, .unset, .unset, .unset, .unset, .unset, .unset] [(.int (1 : Int32)), (.ref b8)])) _
    refine XS.aload X9.here hx rfl (hb hby at_68) rfl rfl ?_
    show Steps p.tables e below (T9.setTop (mkF m 70 #[.val (.int p0), .val (.int p1), .val (.int p2), .val (.int p3), .val (.int p4), .val (.int p5), .val (.ref b1), .val (.ref b8), .unset, .unset, .unset, .unset, .unset, .unset, .unset, .unset, .unset] [(.ref b1), (.int (1 : Int32)), (.ref b8)])) _
    refine XS.iconst X9.here hx rfl (hb hby at_70) ?_
    show Steps p.tables e below (T9.setTop (mkF m 71 #[.val (.int p0), .val (.int p1), .val (.int p2), .val (.int p3), .val (.int p4), .val (.int p5), .val (.ref b1), .val (.ref b8), .unset, .unset, .unset, .unset, .unset, .unset, .unset, .unset, .unset] [(.int (1 : Int32)), (.ref b1), (.int (1 : Int32)), (.ref b8)])) _
    refine own_ldC X9 hx hZ e9 V_b1_9 (j := (1 : Int32)) (by decide) (v := (.int c1)) rfl (g := (mkF m 71 #[.val (.int p0), .val (.int p1), .val (.int p2), .val (.int p3), .val (.int p4), .val (.int p5), .val (.ref b1), .val (.ref b8), .unset, .unset, .unset, .unset, .unset, .unset, .unset, .unset, .unset] [(.int (1 : Int32)), (.ref b1), (.int (1 : Int32)), (.ref b8)])) rfl rfl (hb hby at_71) _ ?_
    show Steps p.tables e below (T9.setTop (mkF m 72 #[.val (.int p0), .val (.int p1), .val (.int p2), .val (.int p3), .val (.int p4), .val (.int p5), .val (.ref b1), .val (.ref b8), .unset, .unset, .unset, .unset, .unset, .unset, .unset, .unset, .unset] [(.int c1), (.int (1 : Int32)), (.ref b8)])) _
    exact k
  obtain ⟨T10, h10, L10, X10, N10, e10, W10, Y10, st10⟩ := own_stC X9 hx hZ e9 V_b8_9 (j := (1 : Int32)) (by decide) 1 rfl (Nat.le_of_ble_eq_true rfl) N9 ga_b8 (g := (mkF m 72 #[.val (.int p0), .val (.int p1), .val (.int p2), .val (.int p3), .val (.int p4), .val (.int p5), .val (.ref b1), .val (.ref b8), .unset, .unset, .unset, .unset, .unset, .unset, .unset, .unset, .unset] [(.int c1), (.int (1 : Int32)), (.ref b8)])) rfl rfl (hb hby at_72)
  rw [n_c1] at W10 Y10
  have V_b1_10 := V_b1_9.other W10 (Nat.ne_of_lt lt_b1_b8)
  have V_b8_10 : Arv Z h10 b8 k8 .char (6 : Int32) [(.int c0), (.int c1), (.int (0 : Int32)), (.int (0 : Int32)), (.int (0 : Int32)), (.int (0 : Int32))] (.int (0 : Int32)) := Y10
  have sz_10 := Nat.le_trans sz_9 (Nat.le_of_eq (Wr.size W10).symm)
  refine own_go (T' := T10) (g' := (mkF m 73 #[.val (.int p0), .val (.int p1), .val (.int p2), .val (.int p3), .val (.int p4), .val (.int p5), .val (.ref b1), .val (.ref b8), .unset, .unset, .unset, .unset, .unset, .unset, .unset, .unset, .unset] [])) st10 ?_
  refine own_go (T' := T10) (g' := (mkF m 80 #[.val (.int p0), .val (.int p1), .val (.int p2), .val (.int p3), .val (.int p4), .val (.int p5), .val (.ref b1), .val (.ref b8), .unset, .unset, .unset, .unset, .unset, .unset, .unset, .unset, .unset] [(.int c2), (.int (2 : Int32)), (.ref b8)])) (fun t k => ?_) ?_
  · show Steps p.tables e below (T10.setTop (mkF m 73 #[.val (.int p0), .val (.int p1), .val (.int p2), .val (.int p3), .val (.int p4), .val (.int p5), .val (.ref b1), .val (.ref b8), .unset, .unset, .unset, .unset, .unset, .unset, .unset, .unset, .unset] [])) t
    refine XS.aload X10.here hx rfl (hb hby at_73) rfl rfl ?_
    show Steps p.tables e below (T10.setTop (mkF m 75 #[.val (.int p0), .val (.int p1), .val (.int p2), .val (.int p3), .val (.int p4), .val (.int p5), .val (.ref b1), .val (.ref b8), .unset, .unset, .unset, .unset, .unset, .unset, .unset, .unset, .unset] [(.ref b8)])) _
    refine XS.iconst X10.here hx rfl (hb hby at_75) ?_
    show Steps p.tables e below (T10.setTop (mkF m 76 #[.val (.int p0), .val (.int p1), .val (.int p2), .val (.int p3), .val (.int p4), .val (.int p5), .val (.ref b1), .val (.ref b8), .unset, .unset, .unset, .unset, .unset, .unset, .unset, .unset, .unset] [(.int (2 : Int32)), (.ref b8)])) _
    refine XS.aload X10.here hx rfl (hb hby at_76) rfl rfl ?_
    show Steps p.tables e below (T10.setTop (mkF m 78 #[.val (.int p0), .val (.int p1), .val (.int p2), .val (.int p3), .val (.int p4), .val (.int p5), .val (.ref b1), .val (.ref b8), .unset, .unset, .unset, .unset, .unset, .unset, .unset, .unset, .unset] [(.ref b1), (.int (2 : Int32)), (.ref b8)])) _
    refine XS.iconst X10.here hx rfl (hb hby at_78) ?_
    show Steps p.tables e below (T10.setTop (mkF m 79 #[.val (.int p0), .val (.int p1), .val (.int p2), .val (.int p3), .val (.int p4), .val (.int p5), .val (.ref b1), .val (.ref b8), .unset, .unset, .unset, .unset, .unset, .unset, .unset, .unset, .unset] [(.int (2 : Int32)), (.ref b1), (.int (2 : Int32)), (.ref b8)])) _
    refine own_ldC X10 hx hZ e10 V_b1_10 (j := (2 : Int32)) (by decide) (v := (.int c2)) rfl (g := (mkF m 79 #[.val (.int p0), .val (.int p1), .val (.int p2), .val (.int p3), .val (.int p4), .val (.int p5), .val (.ref b1), .val (.ref b8), .unset, .unset, .unset, .unset, .unset, .unset, .unset, .unset, .unset] [(.int (2 : Int32)), (.ref b1), (.int (2 : Int32)), (.ref b8)])) rfl rfl (hb hby at_79) _ ?_
    show Steps p.tables e below (T10.setTop (mkF m 80 #[.val (.int p0), .val (.int p1), .val (.int p2), .val (.int p3), .val (.int p4), .val (.int p5), .val (.ref b1), .val (.ref b8), .unset, .unset, .unset, .unset, .unset, .unset, .unset, .unset, .unset] [(.int c2), (.int (2 : Int32)), (.ref b8)])) _
    exact k
  obtain ⟨T11, h11, L11, X11, N11, e11, W11, Y11, st11⟩ := own_stC X10 hx hZ e10 V_b8_10 (j := (2 : Int32)) (by decide) 2 rfl (Nat.le_of_ble_eq_true rfl) N10 ga_b8 (g := (mkF m 80 #[.val (.int p0), .val (.int p1), .val (.int p2), .val (.int p3), .val (.int p4), .val (.int p5), .val (.ref b1), .val (.ref b8), .unset, .unset, .unset, .unset, .unset, .unset, .unset, .unset, .unset] [(.int c2), (.int (2 : Int32)), (.ref b8)])) rfl rfl (hb hby at_80)
  rw [n_c2] at W11 Y11
  have V_b1_11 := V_b1_10.other W11 (Nat.ne_of_lt lt_b1_b8)
  have V_b8_11 : Arv Z h11 b8 k8 .char (6 : Int32) [(.int c0), (.int c1), (.int c2), (.int (0 : Int32)), (.int (0 : Int32)), (.int (0 : Int32))] (.int (0 : Int32)) := Y11
  have sz_11 := Nat.le_trans sz_10 (Nat.le_of_eq (Wr.size W11).symm)
  refine own_go (T' := T11) (g' := (mkF m 81 #[.val (.int p0), .val (.int p1), .val (.int p2), .val (.int p3), .val (.int p4), .val (.int p5), .val (.ref b1), .val (.ref b8), .unset, .unset, .unset, .unset, .unset, .unset, .unset, .unset, .unset] [])) st11 ?_
  refine own_go (T' := T11) (g' := (mkF m 88 #[.val (.int p0), .val (.int p1), .val (.int p2), .val (.int p3), .val (.int p4), .val (.int p5), .val (.ref b1), .val (.ref b8), .unset, .unset, .unset, .unset, .unset, .unset, .unset, .unset, .unset] [(.int c3), (.int (3 : Int32)), (.ref b8)])) (fun t k => ?_) ?_
  · show Steps p.tables e below (T11.setTop (mkF m 81 #[.val (.int p0), .val (.int p1), .val (.int p2), .val (.int p3), .val (.int p4), .val (.int p5), .val (.ref b1), .val (.ref b8), .unset, .unset, .unset, .unset, .unset, .unset, .unset, .unset, .unset] [])) t
    refine XS.aload X11.here hx rfl (hb hby at_81) rfl rfl ?_
    show Steps p.tables e below (T11.setTop (mkF m 83 #[.val (.int p0), .val (.int p1), .val (.int p2), .val (.int p3), .val (.int p4), .val (.int p5), .val (.ref b1), .val (.ref b8), .unset, .unset, .unset, .unset, .unset, .unset, .unset, .unset, .unset] [(.ref b8)])) _
    refine XS.iconst X11.here hx rfl (hb hby at_83) ?_
    show Steps p.tables e below (T11.setTop (mkF m 84 #[.val (.int p0), .val (.int p1), .val (.int p2), .val (.int p3), .val (.int p4), .val (.int p5), .val (.ref b1), .val (.ref b8), .unset, .unset, .unset, .unset, .unset, .unset, .unset, .unset, .unset] [(.int (3 : Int32)), (.ref b8)])) _
    refine XS.aload X11.here hx rfl (hb hby at_84) rfl rfl ?_
    show Steps p.tables e below (T11.setTop (mkF m 86 #[.val (.int p0), .val (.int p1), .val (.int p2), .val (.int p3), .val (.int p4), .val (.int p5), .val (.ref b1), .val (.ref b8), .unset, .unset, .unset, .unset, .unset, .unset, .unset, .unset, .unset] [(.ref b1), (.int (3 : Int32)), (.ref b8)])) _
    refine XS.iconst X11.here hx rfl (hb hby at_86) ?_
    show Steps p.tables e below (T11.setTop (mkF m 87 #[.val (.int p0), .val (.int p1), .val (.int p2), .val (.int p3), .val (.int p4), .val (.int p5), .val (.ref b1), .val (.ref b8), .unset, .unset, .unset, .unset, .unset, .unset, .unset, .unset, .unset] [(.int (3 : Int32)), (.ref b1), (.int (3 : Int32)), (.ref b8)])) _
    refine own_ldC X11 hx hZ e11 V_b1_11 (j := (3 : Int32)) (by decide) (v := (.int c3)) rfl (g := (mkF m 87 #[.val (.int p0), .val (.int p1), .val (.int p2), .val (.int p3), .val (.int p4), .val (.int p5), .val (.ref b1), .val (.ref b8), .unset, .unset, .unset, .unset, .unset, .unset, .unset, .unset, .unset] [(.int (3 : Int32)), (.ref b1), (.int (3 : Int32)), (.ref b8)])) rfl rfl (hb hby at_87) _ ?_
    show Steps p.tables e below (T11.setTop (mkF m 88 #[.val (.int p0), .val (.int p1), .val (.int p2), .val (.int p3), .val (.int p4), .val (.int p5), .val (.ref b1), .val (.ref b8), .unset, .unset, .unset, .unset, .unset, .unset, .unset, .unset, .unset] [(.int c3), (.int (3 : Int32)), (.ref b8)])) _
    exact k
  obtain ⟨T12, h12, L12, X12, N12, e12, W12, Y12, st12⟩ := own_stC X11 hx hZ e11 V_b8_11 (j := (3 : Int32)) (by decide) 3 rfl (Nat.le_of_ble_eq_true rfl) N11 ga_b8 (g := (mkF m 88 #[.val (.int p0), .val (.int p1), .val (.int p2), .val (.int p3), .val (.int p4), .val (.int p5), .val (.ref b1), .val (.ref b8), .unset, .unset, .unset, .unset, .unset, .unset, .unset, .unset, .unset] [(.int c3), (.int (3 : Int32)), (.ref b8)])) rfl rfl (hb hby at_88)
  rw [n_c3] at W12 Y12
  have V_b1_12 := V_b1_11.other W12 (Nat.ne_of_lt lt_b1_b8)
  have V_b8_12 : Arv Z h12 b8 k8 .char (6 : Int32) [(.int c0), (.int c1), (.int c2), (.int c3), (.int (0 : Int32)), (.int (0 : Int32))] (.int (0 : Int32)) := Y12
  have sz_12 := Nat.le_trans sz_11 (Nat.le_of_eq (Wr.size W12).symm)
  refine own_go (T' := T12) (g' := (mkF m 89 #[.val (.int p0), .val (.int p1), .val (.int p2), .val (.int p3), .val (.int p4), .val (.int p5), .val (.ref b1), .val (.ref b8), .unset, .unset, .unset, .unset, .unset, .unset, .unset, .unset, .unset] [])) st12 ?_
  refine own_go (T' := T12) (g' := (mkF m 96 #[.val (.int p0), .val (.int p1), .val (.int p2), .val (.int p3), .val (.int p4), .val (.int p5), .val (.ref b1), .val (.ref b8), .unset, .unset, .unset, .unset, .unset, .unset, .unset, .unset, .unset] [(.int c4), (.int (4 : Int32)), (.ref b8)])) (fun t k => ?_) ?_
  · show Steps p.tables e below (T12.setTop (mkF m 89 #[.val (.int p0), .val (.int p1), .val (.int p2), .val (.int p3), .val (.int p4), .val (.int p5), .val (.ref b1), .val (.ref b8), .unset, .unset, .unset, .unset, .unset, .unset, .unset, .unset, .unset] [])) t
    refine XS.aload X12.here hx rfl (hb hby at_89) rfl rfl ?_
    show Steps p.tables e below (T12.setTop (mkF m 91 #[.val (.int p0), .val (.int p1), .val (.int p2), .val (.int p3), .val (.int p4), .val (.int p5), .val (.ref b1), .val (.ref b8), .unset, .unset, .unset, .unset, .unset, .unset, .unset, .unset, .unset] [(.ref b8)])) _
    refine XS.iconst X12.here hx rfl (hb hby at_91) ?_
    show Steps p.tables e below (T12.setTop (mkF m 92 #[.val (.int p0), .val (.int p1), .val (.int p2), .val (.int p3), .val (.int p4), .val (.int p5), .val (.ref b1), .val (.ref b8), .unset, .unset, .unset, .unset, .unset, .unset, .unset, .unset, .unset] [(.int (4 : Int32)), (.ref b8)])) _
    refine XS.aload X12.here hx rfl (hb hby at_92) rfl rfl ?_
    show Steps p.tables e below (T12.setTop (mkF m 94 #[.val (.int p0), .val (.int p1), .val (.int p2), .val (.int p3), .val (.int p4), .val (.int p5), .val (.ref b1), .val (.ref b8), .unset, .unset, .unset, .unset, .unset, .unset, .unset, .unset, .unset] [(.ref b1), (.int (4 : Int32)), (.ref b8)])) _
    refine XS.iconst X12.here hx rfl (hb hby at_94) ?_
    show Steps p.tables e below (T12.setTop (mkF m 95 #[.val (.int p0), .val (.int p1), .val (.int p2), .val (.int p3), .val (.int p4), .val (.int p5), .val (.ref b1), .val (.ref b8), .unset, .unset, .unset, .unset, .unset, .unset, .unset, .unset, .unset] [(.int (4 : Int32)), (.ref b1), (.int (4 : Int32)), (.ref b8)])) _
    refine own_ldC X12 hx hZ e12 V_b1_12 (j := (4 : Int32)) (by decide) (v := (.int c4)) rfl (g := (mkF m 95 #[.val (.int p0), .val (.int p1), .val (.int p2), .val (.int p3), .val (.int p4), .val (.int p5), .val (.ref b1), .val (.ref b8), .unset, .unset, .unset, .unset, .unset, .unset, .unset, .unset, .unset] [(.int (4 : Int32)), (.ref b1), (.int (4 : Int32)), (.ref b8)])) rfl rfl (hb hby at_95) _ ?_
    show Steps p.tables e below (T12.setTop (mkF m 96 #[.val (.int p0), .val (.int p1), .val (.int p2), .val (.int p3), .val (.int p4), .val (.int p5), .val (.ref b1), .val (.ref b8), .unset, .unset, .unset, .unset, .unset, .unset, .unset, .unset, .unset] [(.int c4), (.int (4 : Int32)), (.ref b8)])) _
    exact k
  obtain ⟨T13, h13, L13, X13, N13, e13, W13, Y13, st13⟩ := own_stC X12 hx hZ e12 V_b8_12 (j := (4 : Int32)) (by decide) 4 rfl (Nat.le_of_ble_eq_true rfl) N12 ga_b8 (g := (mkF m 96 #[.val (.int p0), .val (.int p1), .val (.int p2), .val (.int p3), .val (.int p4), .val (.int p5), .val (.ref b1), .val (.ref b8), .unset, .unset, .unset, .unset, .unset, .unset, .unset, .unset, .unset] [(.int c4), (.int (4 : Int32)), (.ref b8)])) rfl rfl (hb hby at_96)
  rw [n_c4] at W13 Y13
  have V_b1_13 := V_b1_12.other W13 (Nat.ne_of_lt lt_b1_b8)
  have V_b8_13 : Arv Z h13 b8 k8 .char (6 : Int32) [(.int c0), (.int c1), (.int c2), (.int c3), (.int c4), (.int (0 : Int32))] (.int (0 : Int32)) := Y13
  have sz_13 := Nat.le_trans sz_12 (Nat.le_of_eq (Wr.size W13).symm)
  refine own_go (T' := T13) (g' := (mkF m 97 #[.val (.int p0), .val (.int p1), .val (.int p2), .val (.int p3), .val (.int p4), .val (.int p5), .val (.ref b1), .val (.ref b8), .unset, .unset, .unset, .unset, .unset, .unset, .unset, .unset, .unset] [])) st13 ?_
  refine own_go (T' := T13) (g' := (mkF m 104 #[.val (.int p0), .val (.int p1), .val (.int p2), .val (.int p3), .val (.int p4), .val (.int p5), .val (.ref b1), .val (.ref b8), .unset, .unset, .unset, .unset, .unset, .unset, .unset, .unset, .unset] [(.int c5), (.int (5 : Int32)), (.ref b8)])) (fun t k => ?_) ?_
  · show Steps p.tables e below (T13.setTop (mkF m 97 #[.val (.int p0), .val (.int p1), .val (.int p2), .val (.int p3), .val (.int p4), .val (.int p5), .val (.ref b1), .val (.ref b8), .unset, .unset, .unset, .unset, .unset, .unset, .unset, .unset, .unset] [])) t
    refine XS.aload X13.here hx rfl (hb hby at_97) rfl rfl ?_
    show Steps p.tables e below (T13.setTop (mkF m 99 #[.val (.int p0), .val (.int p1), .val (.int p2), .val (.int p3), .val (.int p4), .val (.int p5), .val (.ref b1), .val (.ref b8), .unset, .unset, .unset, .unset, .unset, .unset, .unset, .unset, .unset] [(.ref b8)])) _
    refine XS.iconst X13.here hx rfl (hb hby at_99) ?_
    show Steps p.tables e below (T13.setTop (mkF m 100 #[.val (.int p0), .val (.int p1), .val (.int p2), .val (.int p3), .val (.int p4), .val (.int p5), .val (.ref b1), .val (.ref b8), .unset, .unset, .unset, .unset, .unset, .unset, .unset, .unset, .unset] [(.int (5 : Int32)), (.ref b8)])) _
    refine XS.aload X13.here hx rfl (hb hby at_100) rfl rfl ?_
    show Steps p.tables e below (T13.setTop (mkF m 102 #[.val (.int p0), .val (.int p1), .val (.int p2), .val (.int p3), .val (.int p4), .val (.int p5), .val (.ref b1), .val (.ref b8), .unset, .unset, .unset, .unset, .unset, .unset, .unset, .unset, .unset] [(.ref b1), (.int (5 : Int32)), (.ref b8)])) _
    refine XS.iconst X13.here hx rfl (hb hby at_102) ?_
    show Steps p.tables e below (T13.setTop (mkF m 103 #[.val (.int p0), .val (.int p1), .val (.int p2), .val (.int p3), .val (.int p4), .val (.int p5), .val (.ref b1), .val (.ref b8), .unset, .unset, .unset, .unset, .unset, .unset, .unset, .unset, .unset] [(.int (5 : Int32)), (.ref b1), (.int (5 : Int32)), (.ref b8)])) _
    refine own_ldC X13 hx hZ e13 V_b1_13 (j := (5 : Int32)) (by decide) (v := (.int c5)) rfl (g := (mkF m 103 #[.val (.int p0), .val (.int p1), .val (.int p2), .val (.int p3), .val (.int p4), .val (.int p5), .val (.ref b1), .val (.ref b8), .unset, .unset, .unset, .unset, .unset, .unset, .unset, .unset, .unset] [(.int (5 : Int32)), (.ref b1), (.int (5 : Int32)), (.ref b8)])) rfl rfl (hb hby at_103) _ ?_
    show Steps p.tables e below (T13.setTop (mkF m 104 #[.val (.int p0), .val (.int p1), .val (.int p2), .val (.int p3), .val (.int p4), .val (.int p5), .val (.ref b1), .val (.ref b8), .unset, .unset, .unset, .unset, .unset, .unset, .unset, .unset, .unset] [(.int c5), (.int (5 : Int32)), (.ref b8)])) _
    exact k
  obtain ⟨T14, h14, L14, X14, N14, e14, W14, Y14, st14⟩ := own_stC X13 hx hZ e13 V_b8_13 (j := (5 : Int32)) (by decide) 5 rfl (Nat.le_of_ble_eq_true rfl) N13 ga_b8 (g := (mkF m 104 #[.val (.int p0), .val (.int p1), .val (.int p2), .val (.int p3), .val (.int p4), .val (.int p5), .val (.ref b1), .val (.ref b8), .unset, .unset, .unset, .unset, .unset, .unset, .unset, .unset, .unset] [(.int c5), (.int (5 : Int32)), (.ref b8)])) rfl rfl (hb hby at_104)
  rw [n_c5] at W14 Y14
  have V_b1_14 := V_b1_13.other W14 (Nat.ne_of_lt lt_b1_b8)
  have V_b8_14 : Arv Z h14 b8 k8 .char (6 : Int32) [(.int c0), (.int c1), (.int c2), (.int c3), (.int c4), (.int c5)] (.int (0 : Int32)) := Y14
  have sz_14 := Nat.le_trans sz_13 (Nat.le_of_eq (Wr.size W14).symm)
  refine own_go (T' := T14) (g' := (mkF m 105 #[.val (.int p0), .val (.int p1), .val (.int p2), .val (.int p3), .val (.int p4), .val (.int p5), .val (.ref b1), .val (.ref b8), .unset, .unset, .unset, .unset, .unset, .unset, .unset, .unset, .unset] [])) st14 ?_
  refine own_go (T' := T14) (g' := (mkF m 108 #[.val (.int p0), .val (.int p1), .val (.int p2), .val (.int p3), .val (.int p4), .val (.int p5), .val (.ref b1), .val (.ref b8), .unset, .unset, .unset, .unset, .unset, .unset, .unset, .unset, .unset] [(.int (p3 &&& (1 : Int32)))])) (fun t k => ?_) ?_
  · show Steps p.tables e below (T14.setTop (mkF m 105 #[.val (.int p0), .val (.int p1), .val (.int p2), .val (.int p3), .val (.int p4), .val (.int p5), .val (.ref b1), .val (.ref b8), .unset, .unset, .unset, .unset, .unset, .unset, .unset, .unset, .unset] [])) t
    refine XS.iloadN X14.here hx rfl (hb hby at_105) rfl ?_
    show Steps p.tables e below (T14.setTop (mkF m 106 #[.val (.int p0), .val (.int p1), .val (.int p2), .val (.int p3), .val (.int p4), .val (.int p5), .val (.ref b1), .val (.ref b8), .unset, .unset, .unset, .unset, .unset, .unset, .unset, .unset, .unset] [(.int p3)])) _
    refine XS.iconst X14.here hx rfl (hb hby at_106) ?_
    show Steps p.tables e below (T14.setTop (mkF m 107 #[.val (.int p0), .val (.int p1), .val (.int p2), .val (.int p3), .val (.int p4), .val (.int p5), .val (.ref b1), .val (.ref b8), .unset, .unset, .unset, .unset, .unset, .unset, .unset, .unset, .unset] [(.int (1 : Int32)), (.int p3)])) _
    refine XS.iand X14.here hx rfl (hb hby at_107) rfl ?_
    show Steps p.tables e below (T14.setTop (mkF m 108 #[.val (.int p0), .val (.int p1), .val (.int p2), .val (.int p3), .val (.int p4), .val (.int p5), .val (.ref b1), .val (.ref b8), .unset, .unset, .unset, .unset, .unset, .unset, .unset, .unset, .unset] [(.int (p3 &&& (1 : Int32)))])) _
    exact k
  suffices w16 : ∀ (T16 : State) (L16 : List Loc) (X16 : Stand p l e room_1 s m #[(.int p0), (.int p1), (.int p2), (.int p3), (.int p4), (.int p5)] below meth c T16 L16 2 12) (e16 : T16.heap = h14) (N16 : Fr n0 L16) (b16_s0 : Int32) (h_b16_s0 : b16_s0 = (if (p3 &&& (1 : Int32)) = (0 : Int32) then (((p3.toUInt32 >>> ((16 : Int32) &&& 31).toUInt32).toInt32).toUInt32.toUInt16.toUInt32.toInt32) else ([c0, c1, c2, c3, c4, c5].getD (((((p3.toUInt32 >>> ((1 : Int32) &&& 31).toUInt32).toInt32) &&& (2147483647 : Int32)) % (6 : Int32))).toNatClampNeg 0))), own_Ends p e below s n0 room_1.cells room_1.slots T16 (mkF m 131 #[.val (.int p0), .val (.int p1), .val (.int p2), .val (.int p3), .val (.int p4), .val (.int p5), .val (.ref b1), .val (.ref b8), .unset, .unset, .unset, .unset, .unset, .unset, .unset, .unset, .unset] [(.int b16_s0)]) own_Q0 by
    by_cases hm108_15 : (p3 &&& (1 : Int32)) = (0 : Int32)
    · refine own_go (T' := T14) (g' := (mkF m 126 #[.val (.int p0), .val (.int p1), .val (.int p2), .val (.int p3), .val (.int p4), .val (.int p5), .val (.ref b1), .val (.ref b8), .unset, .unset, .unset, .unset, .unset, .unset, .unset, .unset, .unset] [])) (fun t k => ?_) ?_
      · refine XS.ifYes X14.here hx rfl (pc0 := 108) (pc' := 126) rfl (hb hby at_108) rfl ((if0 _ _).trans (teq hm108_15).1) (by decide) (by decide) ?_
        exact k
      refine own_go (T' := T14) (g' := (mkF m 131 #[.val (.int p0), .val (.int p1), .val (.int p2), .val (.int p3), .val (.int p4), .val (.int p5), .val (.ref b1), .val (.ref b8), .unset, .unset, .unset, .unset, .unset, .unset, .unset, .unset, .unset] [(.int (((p3.toUInt32 >>> ((16 : Int32) &&& 31).toUInt32).toInt32).toUInt32.toUInt16.toUInt32.toInt32))])) (fun t k => ?_) ?_
      · show Steps p.tables e below (T14.setTop (mkF m 126 #[.val (.int p0), .val (.int p1), .val (.int p2), .val (.int p3), .val (.int p4), .val (.int p5), .val (.ref b1), .val (.ref b8), .unset, .unset, .unset, .unset, .unset, .unset, .unset, .unset, .unset] [])) t
        refine XS.iloadN X14.here hx rfl (hb hby at_126) rfl ?_
        show Steps p.tables e below (T14.setTop (mkF m 127 #[.val (.int p0), .val (.int p1), .val (.int p2), .val (.int p3), .val (.int p4), .val (.int p5), .val (.ref b1), .val (.ref b8), .unset, .unset, .unset, .unset, .unset, .unset, .unset, .unset, .unset] [(.int p3)])) _
        refine XS.bipush X14.here hx rfl (hb hby at_127) ?_
        show Steps p.tables e below (T14.setTop (mkF m 129 #[.val (.int p0), .val (.int p1), .val (.int p2), .val (.int p3), .val (.int p4), .val (.int p5), .val (.ref b1), .val (.ref b8), .unset, .unset, .unset, .unset, .unset, .unset, .unset, .unset, .unset] [(.int (16 : Int32)), (.int p3)])) _
        refine XS.iushr X14.here hx rfl (hb hby at_129) rfl ?_
        show Steps p.tables e below (T14.setTop (mkF m 130 #[.val (.int p0), .val (.int p1), .val (.int p2), .val (.int p3), .val (.int p4), .val (.int p5), .val (.ref b1), .val (.ref b8), .unset, .unset, .unset, .unset, .unset, .unset, .unset, .unset, .unset] [(.int ((p3.toUInt32 >>> ((16 : Int32) &&& 31).toUInt32).toInt32))])) _
        refine XS.i2c X14.here hx rfl (hb hby at_130) rfl ?_
        show Steps p.tables e below (T14.setTop (mkF m 131 #[.val (.int p0), .val (.int p1), .val (.int p2), .val (.int p3), .val (.int p4), .val (.int p5), .val (.ref b1), .val (.ref b8), .unset, .unset, .unset, .unset, .unset, .unset, .unset, .unset, .unset] [(.int (((p3.toUInt32 >>> ((16 : Int32) &&& 31).toUInt32).toInt32).toUInt32.toUInt16.toUInt32.toInt32))])) _
        exact k
      exact w16 _ _ X14 e14 N14 (((p3.toUInt32 >>> ((16 : Int32) &&& 31).toUInt32).toInt32).toUInt32.toUInt16.toUInt32.toInt32) (by rw [if_pos hm108_15])
    · refine own_go (T' := T14) (g' := (mkF m 111 #[.val (.int p0), .val (.int p1), .val (.int p2), .val (.int p3), .val (.int p4), .val (.int p5), .val (.ref b1), .val (.ref b8), .unset, .unset, .unset, .unset, .unset, .unset, .unset, .unset, .unset] [])) (fun t k => ?_) ?_
      · refine XS.ifNo X14.here hx rfl (hb hby at_108) rfl ((if0 _ _).trans (feq hm108_15).1) ?_
        exact k
      refine own_go (T' := T14) (g' := (mkF m 131 #[.val (.int p0), .val (.int p1), .val (.int p2), .val (.int p3), .val (.int p4), .val (.int p5), .val (.ref b1), .val (.ref b8), .unset, .unset, .unset, .unset, .unset, .unset, .unset, .unset, .unset] [(.int ([c0, c1, c2, c3, c4, c5].getD (((((p3.toUInt32 >>> ((1 : Int32) &&& 31).toUInt32).toInt32) &&& (2147483647 : Int32)) % (6 : Int32))).toNatClampNeg 0))])) (fun t k => ?_) ?_
      · show Steps p.tables e below (T14.setTop (mkF m 111 #[.val (.int p0), .val (.int p1), .val (.int p2), .val (.int p3), .val (.int p4), .val (.int p5), .val (.ref b1), .val (.ref b8), .unset, .unset, .unset, .unset, .unset, .unset, .unset, .unset, .unset] [])) t
        refine XS.aload X14.here hx rfl (hb hby at_111) rfl rfl ?_
        show Steps p.tables e below (T14.setTop (mkF m 113 #[.val (.int p0), .val (.int p1), .val (.int p2), .val (.int p3), .val (.int p4), .val (.int p5), .val (.ref b1), .val (.ref b8), .unset, .unset, .unset, .unset, .unset, .unset, .unset, .unset, .unset] [(.ref b8)])) _
        refine XS.iloadN X14.here hx rfl (hb hby at_113) rfl ?_
        show Steps p.tables e below (T14.setTop (mkF m 114 #[.val (.int p0), .val (.int p1), .val (.int p2), .val (.int p3), .val (.int p4), .val (.int p5), .val (.ref b1), .val (.ref b8), .unset, .unset, .unset, .unset, .unset, .unset, .unset, .unset, .unset] [(.int p3), (.ref b8)])) _
        refine XS.iconst X14.here hx rfl (hb hby at_114) ?_
        show Steps p.tables e below (T14.setTop (mkF m 115 #[.val (.int p0), .val (.int p1), .val (.int p2), .val (.int p3), .val (.int p4), .val (.int p5), .val (.ref b1), .val (.ref b8), .unset, .unset, .unset, .unset, .unset, .unset, .unset, .unset, .unset] [(.int (1 : Int32)), (.int p3), (.ref b8)])) _
        refine XS.iushr X14.here hx rfl (hb hby at_115) rfl ?_
        show Steps p.tables e below (T14.setTop (mkF m 116 #[.val (.int p0), .val (.int p1), .val (.int p2), .val (.int p3), .val (.int p4), .val (.int p5), .val (.ref b1), .val (.ref b8), .unset, .unset, .unset, .unset, .unset, .unset, .unset, .unset, .unset] [(.int ((p3.toUInt32 >>> ((1 : Int32) &&& 31).toUInt32).toInt32)), (.ref b8)])) _
        refine X14.ldcInt hx hown (mvT hZ (hw _ (List.mem_of_getElem? (i := 1) rfl))) (g := (mkF m 116 #[.val (.int p0), .val (.int p1), .val (.int p2), .val (.int p3), .val (.int p4), .val (.int p5), .val (.ref b1), .val (.ref b8), .unset, .unset, .unset, .unset, .unset, .unset, .unset, .unset, .unset] [(.int ((p3.toUInt32 >>> ((1 : Int32) &&& 31).toUInt32).toInt32)), (.ref b8)])) rfl (hb hby at_116) _ ?_
        show Steps p.tables e below (T14.setTop (mkF m 118 #[.val (.int p0), .val (.int p1), .val (.int p2), .val (.int p3), .val (.int p4), .val (.int p5), .val (.ref b1), .val (.ref b8), .unset, .unset, .unset, .unset, .unset, .unset, .unset, .unset, .unset] [(.int (2147483647 : Int32)), (.int ((p3.toUInt32 >>> ((1 : Int32) &&& 31).toUInt32).toInt32)), (.ref b8)])) _
        refine XS.iand X14.here hx rfl (hb hby at_118) rfl ?_
        show Steps p.tables e below (T14.setTop (mkF m 119 #[.val (.int p0), .val (.int p1), .val (.int p2), .val (.int p3), .val (.int p4), .val (.int p5), .val (.ref b1), .val (.ref b8), .unset, .unset, .unset, .unset, .unset, .unset, .unset, .unset, .unset] [(.int (((p3.toUInt32 >>> ((1 : Int32) &&& 31).toUInt32).toInt32) &&& (2147483647 : Int32))), (.ref b8)])) _
        refine XS.bipush X14.here hx rfl (hb hby at_119) ?_
        show Steps p.tables e below (T14.setTop (mkF m 121 #[.val (.int p0), .val (.int p1), .val (.int p2), .val (.int p3), .val (.int p4), .val (.int p5), .val (.ref b1), .val (.ref b8), .unset, .unset, .unset, .unset, .unset, .unset, .unset, .unset, .unset] [(.int (6 : Int32)), (.int (((p3.toUInt32 >>> ((1 : Int32) &&& 31).toUInt32).toInt32) &&& (2147483647 : Int32))), (.ref b8)])) _
        refine iremM X14 hx rfl (hb hby at_121) rfl (by decide) ?_
        show Steps p.tables e below (T14.setTop (mkF m 122 #[.val (.int p0), .val (.int p1), .val (.int p2), .val (.int p3), .val (.int p4), .val (.int p5), .val (.ref b1), .val (.ref b8), .unset, .unset, .unset, .unset, .unset, .unset, .unset, .unset, .unset] [(.int ((((p3.toUInt32 >>> ((1 : Int32) &&& 31).toUInt32).toInt32) &&& (2147483647 : Int32)) % (6 : Int32))), (.ref b8)])) _
        refine own_ldC X14 hx hZ e14 V_b8_14 (j := ((((p3.toUInt32 >>> ((1 : Int32) &&& 31).toUInt32).toInt32) &&& (2147483647 : Int32)) % (6 : Int32))) (own_j6 _) (v := (.int ([c0, c1, c2, c3, c4, c5].getD (((((p3.toUInt32 >>> ((1 : Int32) &&& 31).toUInt32).toInt32) &&& (2147483647 : Int32)) % (6 : Int32))).toNatClampNeg 0))) (own_gd' [c0, c1, c2, c3, c4, c5] _) (g := (mkF m 122 #[.val (.int p0), .val (.int p1), .val (.int p2), .val (.int p3), .val (.int p4), .val (.int p5), .val (.ref b1), .val (.ref b8), .unset, .unset, .unset, .unset, .unset, .unset, .unset, .unset, .unset] [(.int ((((p3.toUInt32 >>> ((1 : Int32) &&& 31).toUInt32).toInt32) &&& (2147483647 : Int32)) % (6 : Int32))), (.ref b8)])) rfl rfl (hb hby at_122) _ ?_
        show Steps p.tables e below (T14.setTop (mkF m 123 #[.val (.int p0), .val (.int p1), .val (.int p2), .val (.int p3), .val (.int p4), .val (.int p5), .val (.ref b1), .val (.ref b8), .unset, .unset, .unset, .unset, .unset, .unset, .unset, .unset, .unset] [(.int ([c0, c1, c2, c3, c4, c5].getD (((((p3.toUInt32 >>> ((1 : Int32) &&& 31).toUInt32).toInt32) &&& (2147483647 : Int32)) % (6 : Int32))).toNatClampNeg 0))])) _
        refine XS.goto X14.here hx rfl (pc0 := 123) (pc' := 131) rfl (hb hby at_123) (by decide) (by decide) ?_
        show Steps p.tables e below (T14.setTop (mkF m 131 #[.val (.int p0), .val (.int p1), .val (.int p2), .val (.int p3), .val (.int p4), .val (.int p5), .val (.ref b1), .val (.ref b8), .unset, .unset, .unset, .unset, .unset, .unset, .unset, .unset, .unset] [(.int ([c0, c1, c2, c3, c4, c5].getD (((((p3.toUInt32 >>> ((1 : Int32) &&& 31).toUInt32).toInt32) &&& (2147483647 : Int32)) % (6 : Int32))).toNatClampNeg 0))])) _
        exact k
      exact w16 _ _ X14 e14 N14 ([c0, c1, c2, c3, c4, c5].getD (((((p3.toUInt32 >>> ((1 : Int32) &&& 31).toUInt32).toInt32) &&& (2147483647 : Int32)) % (6 : Int32))).toNatClampNeg 0) (by rw [if_neg hm108_15])
  intro T16 L16 X16 e16 N16 b16_s0 h_b16_s0
  refine own_go (T' := T16) (g' := (mkF m 144 #[.val (.int p0), .val (.int p1), .val (.int p2), .val (.int p3), .val (.int p4), .val (.int p5), .val (.ref b1), .val (.ref b8), .val (.int b16_s0), .val (.int ((p4 &&& (255 : Int32)) % (7 : Int32))), .unset, .unset, .unset, .unset, .unset, .unset, .unset] [])) (fun t k => ?_) ?_
  · show Steps p.tables e below (T16.setTop (mkF m 131 #[.val (.int p0), .val (.int p1), .val (.int p2), .val (.int p3), .val (.int p4), .val (.int p5), .val (.ref b1), .val (.ref b8), .unset, .unset, .unset, .unset, .unset, .unset, .unset, .unset, .unset] [(.int b16_s0)])) t
    refine XS.istore X16.here hx rfl (hb hby at_131) rfl (l' := #[.val (.int p0), .val (.int p1), .val (.int p2), .val (.int p3), .val (.int p4), .val (.int p5), .val (.ref b1), .val (.ref b8), .val (.int b16_s0), .unset, .unset, .unset, .unset, .unset, .unset, .unset, .unset]) rfl ?_
    show Steps p.tables e below (T16.setTop (mkF m 133 #[.val (.int p0), .val (.int p1), .val (.int p2), .val (.int p3), .val (.int p4), .val (.int p5), .val (.ref b1), .val (.ref b8), .val (.int b16_s0), .unset, .unset, .unset, .unset, .unset, .unset, .unset, .unset] [])) _
    refine XS.iload X16.here hx rfl (hb hby at_133) rfl ?_
    show Steps p.tables e below (T16.setTop (mkF m 135 #[.val (.int p0), .val (.int p1), .val (.int p2), .val (.int p3), .val (.int p4), .val (.int p5), .val (.ref b1), .val (.ref b8), .val (.int b16_s0), .unset, .unset, .unset, .unset, .unset, .unset, .unset, .unset] [(.int p4)])) _
    refine XS.sipush X16.here hx rfl (hb hby at_135) ?_
    show Steps p.tables e below (T16.setTop (mkF m 138 #[.val (.int p0), .val (.int p1), .val (.int p2), .val (.int p3), .val (.int p4), .val (.int p5), .val (.ref b1), .val (.ref b8), .val (.int b16_s0), .unset, .unset, .unset, .unset, .unset, .unset, .unset, .unset] [(.int (255 : Int32)), (.int p4)])) _
    refine XS.iand X16.here hx rfl (hb hby at_138) rfl ?_
    show Steps p.tables e below (T16.setTop (mkF m 139 #[.val (.int p0), .val (.int p1), .val (.int p2), .val (.int p3), .val (.int p4), .val (.int p5), .val (.ref b1), .val (.ref b8), .val (.int b16_s0), .unset, .unset, .unset, .unset, .unset, .unset, .unset, .unset] [(.int (p4 &&& (255 : Int32)))])) _
    refine XS.bipush X16.here hx rfl (hb hby at_139) ?_
    show Steps p.tables e below (T16.setTop (mkF m 141 #[.val (.int p0), .val (.int p1), .val (.int p2), .val (.int p3), .val (.int p4), .val (.int p5), .val (.ref b1), .val (.ref b8), .val (.int b16_s0), .unset, .unset, .unset, .unset, .unset, .unset, .unset, .unset] [(.int (7 : Int32)), (.int (p4 &&& (255 : Int32)))])) _
    refine iremM X16 hx rfl (hb hby at_141) rfl (by decide) ?_
    show Steps p.tables e below (T16.setTop (mkF m 142 #[.val (.int p0), .val (.int p1), .val (.int p2), .val (.int p3), .val (.int p4), .val (.int p5), .val (.ref b1), .val (.ref b8), .val (.int b16_s0), .unset, .unset, .unset, .unset, .unset, .unset, .unset, .unset] [(.int ((p4 &&& (255 : Int32)) % (7 : Int32)))])) _
    refine XS.istore X16.here hx rfl (hb hby at_142) rfl (l' := #[.val (.int p0), .val (.int p1), .val (.int p2), .val (.int p3), .val (.int p4), .val (.int p5), .val (.ref b1), .val (.ref b8), .val (.int b16_s0), .val (.int ((p4 &&& (255 : Int32)) % (7 : Int32))), .unset, .unset, .unset, .unset, .unset, .unset, .unset]) rfl ?_
    show Steps p.tables e below (T16.setTop (mkF m 144 #[.val (.int p0), .val (.int p1), .val (.int p2), .val (.int p3), .val (.int p4), .val (.int p5), .val (.ref b1), .val (.ref b8), .val (.int b16_s0), .val (.int ((p4 &&& (255 : Int32)) % (7 : Int32))), .unset, .unset, .unset, .unset, .unset, .unset, .unset] [])) _
    exact k
  obtain ⟨sv, h_sv⟩ : ∃ z : Int32, z = ((p4 &&& (255 : Int32)) % (7 : Int32)) := ⟨_, rfl⟩
  rw [← h_sv]
  obtain ⟨sN, hsN, hs6⟩ := own_s p4 sv h_sv
  subst hsN
  refine own_go (T' := T16) (g' := (mkF m 151 #[.val (.int p0), .val (.int p1), .val (.int p2), .val (.int p3), .val (.int p4), .val (.int p5), .val (.ref b1), .val (.ref b8), .val (.int b16_s0), .val (.int (Int32.ofNat sN)), .val (.int ((6 : Int32) - (Int32.ofNat sN))), .unset, .unset, .unset, .unset, .unset, .unset] [])) (fun t k => ?_) ?_
  · show Steps p.tables e below (T16.setTop (mkF m 144 #[.val (.int p0), .val (.int p1), .val (.int p2), .val (.int p3), .val (.int p4), .val (.int p5), .val (.ref b1), .val (.ref b8), .val (.int b16_s0), .val (.int (Int32.ofNat sN)), .unset, .unset, .unset, .unset, .unset, .unset, .unset] [])) t
    refine XS.bipush X16.here hx rfl (hb hby at_144) ?_
    show Steps p.tables e below (T16.setTop (mkF m 146 #[.val (.int p0), .val (.int p1), .val (.int p2), .val (.int p3), .val (.int p4), .val (.int p5), .val (.ref b1), .val (.ref b8), .val (.int b16_s0), .val (.int (Int32.ofNat sN)), .unset, .unset, .unset, .unset, .unset, .unset, .unset] [(.int (6 : Int32))])) _
    refine XS.iload X16.here hx rfl (hb hby at_146) rfl ?_
    show Steps p.tables e below (T16.setTop (mkF m 148 #[.val (.int p0), .val (.int p1), .val (.int p2), .val (.int p3), .val (.int p4), .val (.int p5), .val (.ref b1), .val (.ref b8), .val (.int b16_s0), .val (.int (Int32.ofNat sN)), .unset, .unset, .unset, .unset, .unset, .unset, .unset] [(.int (Int32.ofNat sN)), (.int (6 : Int32))])) _
    refine XS.isub X16.here hx rfl (hb hby at_148) rfl ?_
    show Steps p.tables e below (T16.setTop (mkF m 149 #[.val (.int p0), .val (.int p1), .val (.int p2), .val (.int p3), .val (.int p4), .val (.int p5), .val (.ref b1), .val (.ref b8), .val (.int b16_s0), .val (.int (Int32.ofNat sN)), .unset, .unset, .unset, .unset, .unset, .unset, .unset] [(.int ((6 : Int32) - (Int32.ofNat sN)))])) _
    refine XS.istore X16.here hx rfl (hb hby at_149) rfl (l' := #[.val (.int p0), .val (.int p1), .val (.int p2), .val (.int p3), .val (.int p4), .val (.int p5), .val (.ref b1), .val (.ref b8), .val (.int b16_s0), .val (.int (Int32.ofNat sN)), .val (.int ((6 : Int32) - (Int32.ofNat sN))), .unset, .unset, .unset, .unset, .unset, .unset]) rfl ?_
    show Steps p.tables e below (T16.setTop (mkF m 151 #[.val (.int p0), .val (.int p1), .val (.int p2), .val (.int p3), .val (.int p4), .val (.int p5), .val (.ref b1), .val (.ref b8), .val (.int b16_s0), .val (.int (Int32.ofNat sN)), .val (.int ((6 : Int32) - (Int32.ofNat sN))), .unset, .unset, .unset, .unset, .unset, .unset] [])) _
    exact k
  rw [own_rem hs6]
  refine own_go (T' := T16) (g' := (mkF m 163 #[.val (.int p0), .val (.int p1), .val (.int p2), .val (.int p3), .val (.int p4), .val (.int p5), .val (.ref b1), .val (.ref b8), .val (.int b16_s0), .val (.int (Int32.ofNat sN)), .val (.int (Int32.ofNat (6 - sN))), .val (.int (((p4.toUInt32 >>> ((8 : Int32) &&& 31).toUInt32).toInt32) % ((Int32.ofNat (6 - sN)) + (1 : Int32)))), .unset, .unset, .unset, .unset, .unset] [])) (fun t k => ?_) ?_
  · show Steps p.tables e below (T16.setTop (mkF m 151 #[.val (.int p0), .val (.int p1), .val (.int p2), .val (.int p3), .val (.int p4), .val (.int p5), .val (.ref b1), .val (.ref b8), .val (.int b16_s0), .val (.int (Int32.ofNat sN)), .val (.int (Int32.ofNat (6 - sN))), .unset, .unset, .unset, .unset, .unset, .unset] [])) t
    refine XS.iload X16.here hx rfl (hb hby at_151) rfl ?_
    show Steps p.tables e below (T16.setTop (mkF m 153 #[.val (.int p0), .val (.int p1), .val (.int p2), .val (.int p3), .val (.int p4), .val (.int p5), .val (.ref b1), .val (.ref b8), .val (.int b16_s0), .val (.int (Int32.ofNat sN)), .val (.int (Int32.ofNat (6 - sN))), .unset, .unset, .unset, .unset, .unset, .unset] [(.int p4)])) _
    refine XS.bipush X16.here hx rfl (hb hby at_153) ?_
    show Steps p.tables e below (T16.setTop (mkF m 155 #[.val (.int p0), .val (.int p1), .val (.int p2), .val (.int p3), .val (.int p4), .val (.int p5), .val (.ref b1), .val (.ref b8), .val (.int b16_s0), .val (.int (Int32.ofNat sN)), .val (.int (Int32.ofNat (6 - sN))), .unset, .unset, .unset, .unset, .unset, .unset] [(.int (8 : Int32)), (.int p4)])) _
    refine XS.iushr X16.here hx rfl (hb hby at_155) rfl ?_
    show Steps p.tables e below (T16.setTop (mkF m 156 #[.val (.int p0), .val (.int p1), .val (.int p2), .val (.int p3), .val (.int p4), .val (.int p5), .val (.ref b1), .val (.ref b8), .val (.int b16_s0), .val (.int (Int32.ofNat sN)), .val (.int (Int32.ofNat (6 - sN))), .unset, .unset, .unset, .unset, .unset, .unset] [(.int ((p4.toUInt32 >>> ((8 : Int32) &&& 31).toUInt32).toInt32))])) _
    refine XS.iload X16.here hx rfl (hb hby at_156) rfl ?_
    show Steps p.tables e below (T16.setTop (mkF m 158 #[.val (.int p0), .val (.int p1), .val (.int p2), .val (.int p3), .val (.int p4), .val (.int p5), .val (.ref b1), .val (.ref b8), .val (.int b16_s0), .val (.int (Int32.ofNat sN)), .val (.int (Int32.ofNat (6 - sN))), .unset, .unset, .unset, .unset, .unset, .unset] [(.int (Int32.ofNat (6 - sN))), (.int ((p4.toUInt32 >>> ((8 : Int32) &&& 31).toUInt32).toInt32))])) _
    refine XS.iconst X16.here hx rfl (hb hby at_158) ?_
    show Steps p.tables e below (T16.setTop (mkF m 159 #[.val (.int p0), .val (.int p1), .val (.int p2), .val (.int p3), .val (.int p4), .val (.int p5), .val (.ref b1), .val (.ref b8), .val (.int b16_s0), .val (.int (Int32.ofNat sN)), .val (.int (Int32.ofNat (6 - sN))), .unset, .unset, .unset, .unset, .unset, .unset] [(.int (1 : Int32)), (.int (Int32.ofNat (6 - sN))), (.int ((p4.toUInt32 >>> ((8 : Int32) &&& 31).toUInt32).toInt32))])) _
    refine XS.iadd X16.here hx rfl (hb hby at_159) rfl ?_
    show Steps p.tables e below (T16.setTop (mkF m 160 #[.val (.int p0), .val (.int p1), .val (.int p2), .val (.int p3), .val (.int p4), .val (.int p5), .val (.ref b1), .val (.ref b8), .val (.int b16_s0), .val (.int (Int32.ofNat sN)), .val (.int (Int32.ofNat (6 - sN))), .unset, .unset, .unset, .unset, .unset, .unset] [(.int ((Int32.ofNat (6 - sN)) + (1 : Int32))), (.int ((p4.toUInt32 >>> ((8 : Int32) &&& 31).toUInt32).toInt32))])) _
    refine iremM X16 hx rfl (hb hby at_160) rfl (own_nz1 hs6) ?_
    show Steps p.tables e below (T16.setTop (mkF m 161 #[.val (.int p0), .val (.int p1), .val (.int p2), .val (.int p3), .val (.int p4), .val (.int p5), .val (.ref b1), .val (.ref b8), .val (.int b16_s0), .val (.int (Int32.ofNat sN)), .val (.int (Int32.ofNat (6 - sN))), .unset, .unset, .unset, .unset, .unset, .unset] [(.int (((p4.toUInt32 >>> ((8 : Int32) &&& 31).toUInt32).toInt32) % ((Int32.ofNat (6 - sN)) + (1 : Int32))))])) _
    refine XS.istore X16.here hx rfl (hb hby at_161) rfl (l' := #[.val (.int p0), .val (.int p1), .val (.int p2), .val (.int p3), .val (.int p4), .val (.int p5), .val (.ref b1), .val (.ref b8), .val (.int b16_s0), .val (.int (Int32.ofNat sN)), .val (.int (Int32.ofNat (6 - sN))), .val (.int (((p4.toUInt32 >>> ((8 : Int32) &&& 31).toUInt32).toInt32) % ((Int32.ofNat (6 - sN)) + (1 : Int32)))), .unset, .unset, .unset, .unset, .unset]) rfl ?_
    show Steps p.tables e below (T16.setTop (mkF m 163 #[.val (.int p0), .val (.int p1), .val (.int p2), .val (.int p3), .val (.int p4), .val (.int p5), .val (.ref b1), .val (.ref b8), .val (.int b16_s0), .val (.int (Int32.ofNat sN)), .val (.int (Int32.ofNat (6 - sN))), .val (.int (((p4.toUInt32 >>> ((8 : Int32) &&& 31).toUInt32).toInt32) % ((Int32.ofNat (6 - sN)) + (1 : Int32)))), .unset, .unset, .unset, .unset, .unset] [])) _
    exact k
  obtain ⟨ov, h_ov⟩ : ∃ z : Int32, z = (((p4.toUInt32 >>> ((8 : Int32) &&& 31).toUInt32).toInt32) % ((Int32.ofNat (6 - sN)) + (1 : Int32))) := ⟨_, rfl⟩
  rw [← h_ov]
  obtain ⟨oN, hoN, ho6⟩ := own_o p4 ov sN hs6 h_ov
  subst hoN
  refine own_go (T' := T16) (g' := (mkF m 178 #[.val (.int p0), .val (.int p1), .val (.int p2), .val (.int p3), .val (.int p4), .val (.int p5), .val (.ref b1), .val (.ref b8), .val (.int b16_s0), .val (.int (Int32.ofNat sN)), .val (.int (Int32.ofNat (6 - sN))), .val (.int (Int32.ofNat oN)), .val (.int ((p5 &&& (2147483647 : Int32)) % (((Int32.ofNat (6 - sN)) - (Int32.ofNat oN)) + (1 : Int32)))), .unset, .unset, .unset, .unset] [])) (fun t k => ?_) ?_
  · show Steps p.tables e below (T16.setTop (mkF m 163 #[.val (.int p0), .val (.int p1), .val (.int p2), .val (.int p3), .val (.int p4), .val (.int p5), .val (.ref b1), .val (.ref b8), .val (.int b16_s0), .val (.int (Int32.ofNat sN)), .val (.int (Int32.ofNat (6 - sN))), .val (.int (Int32.ofNat oN)), .unset, .unset, .unset, .unset, .unset] [])) t
    refine XS.iload X16.here hx rfl (hb hby at_163) rfl ?_
    show Steps p.tables e below (T16.setTop (mkF m 165 #[.val (.int p0), .val (.int p1), .val (.int p2), .val (.int p3), .val (.int p4), .val (.int p5), .val (.ref b1), .val (.ref b8), .val (.int b16_s0), .val (.int (Int32.ofNat sN)), .val (.int (Int32.ofNat (6 - sN))), .val (.int (Int32.ofNat oN)), .unset, .unset, .unset, .unset, .unset] [(.int p5)])) _
    refine X16.ldcInt hx hown (mvT hZ (hw _ (List.mem_of_getElem? (i := 1) rfl))) (g := (mkF m 165 #[.val (.int p0), .val (.int p1), .val (.int p2), .val (.int p3), .val (.int p4), .val (.int p5), .val (.ref b1), .val (.ref b8), .val (.int b16_s0), .val (.int (Int32.ofNat sN)), .val (.int (Int32.ofNat (6 - sN))), .val (.int (Int32.ofNat oN)), .unset, .unset, .unset, .unset, .unset] [(.int p5)])) rfl (hb hby at_165) _ ?_
    show Steps p.tables e below (T16.setTop (mkF m 167 #[.val (.int p0), .val (.int p1), .val (.int p2), .val (.int p3), .val (.int p4), .val (.int p5), .val (.ref b1), .val (.ref b8), .val (.int b16_s0), .val (.int (Int32.ofNat sN)), .val (.int (Int32.ofNat (6 - sN))), .val (.int (Int32.ofNat oN)), .unset, .unset, .unset, .unset, .unset] [(.int (2147483647 : Int32)), (.int p5)])) _
    refine XS.iand X16.here hx rfl (hb hby at_167) rfl ?_
    show Steps p.tables e below (T16.setTop (mkF m 168 #[.val (.int p0), .val (.int p1), .val (.int p2), .val (.int p3), .val (.int p4), .val (.int p5), .val (.ref b1), .val (.ref b8), .val (.int b16_s0), .val (.int (Int32.ofNat sN)), .val (.int (Int32.ofNat (6 - sN))), .val (.int (Int32.ofNat oN)), .unset, .unset, .unset, .unset, .unset] [(.int (p5 &&& (2147483647 : Int32)))])) _
    refine XS.iload X16.here hx rfl (hb hby at_168) rfl ?_
    show Steps p.tables e below (T16.setTop (mkF m 170 #[.val (.int p0), .val (.int p1), .val (.int p2), .val (.int p3), .val (.int p4), .val (.int p5), .val (.ref b1), .val (.ref b8), .val (.int b16_s0), .val (.int (Int32.ofNat sN)), .val (.int (Int32.ofNat (6 - sN))), .val (.int (Int32.ofNat oN)), .unset, .unset, .unset, .unset, .unset] [(.int (Int32.ofNat (6 - sN))), (.int (p5 &&& (2147483647 : Int32)))])) _
    refine XS.iload X16.here hx rfl (hb hby at_170) rfl ?_
    show Steps p.tables e below (T16.setTop (mkF m 172 #[.val (.int p0), .val (.int p1), .val (.int p2), .val (.int p3), .val (.int p4), .val (.int p5), .val (.ref b1), .val (.ref b8), .val (.int b16_s0), .val (.int (Int32.ofNat sN)), .val (.int (Int32.ofNat (6 - sN))), .val (.int (Int32.ofNat oN)), .unset, .unset, .unset, .unset, .unset] [(.int (Int32.ofNat oN)), (.int (Int32.ofNat (6 - sN))), (.int (p5 &&& (2147483647 : Int32)))])) _
    refine XS.isub X16.here hx rfl (hb hby at_172) rfl ?_
    show Steps p.tables e below (T16.setTop (mkF m 173 #[.val (.int p0), .val (.int p1), .val (.int p2), .val (.int p3), .val (.int p4), .val (.int p5), .val (.ref b1), .val (.ref b8), .val (.int b16_s0), .val (.int (Int32.ofNat sN)), .val (.int (Int32.ofNat (6 - sN))), .val (.int (Int32.ofNat oN)), .unset, .unset, .unset, .unset, .unset] [(.int ((Int32.ofNat (6 - sN)) - (Int32.ofNat oN))), (.int (p5 &&& (2147483647 : Int32)))])) _
    refine XS.iconst X16.here hx rfl (hb hby at_173) ?_
    show Steps p.tables e below (T16.setTop (mkF m 174 #[.val (.int p0), .val (.int p1), .val (.int p2), .val (.int p3), .val (.int p4), .val (.int p5), .val (.ref b1), .val (.ref b8), .val (.int b16_s0), .val (.int (Int32.ofNat sN)), .val (.int (Int32.ofNat (6 - sN))), .val (.int (Int32.ofNat oN)), .unset, .unset, .unset, .unset, .unset] [(.int (1 : Int32)), (.int ((Int32.ofNat (6 - sN)) - (Int32.ofNat oN))), (.int (p5 &&& (2147483647 : Int32)))])) _
    refine XS.iadd X16.here hx rfl (hb hby at_174) rfl ?_
    show Steps p.tables e below (T16.setTop (mkF m 175 #[.val (.int p0), .val (.int p1), .val (.int p2), .val (.int p3), .val (.int p4), .val (.int p5), .val (.ref b1), .val (.ref b8), .val (.int b16_s0), .val (.int (Int32.ofNat sN)), .val (.int (Int32.ofNat (6 - sN))), .val (.int (Int32.ofNat oN)), .unset, .unset, .unset, .unset, .unset] [(.int (((Int32.ofNat (6 - sN)) - (Int32.ofNat oN)) + (1 : Int32))), (.int (p5 &&& (2147483647 : Int32)))])) _
    refine iremM X16 hx rfl (hb hby at_175) rfl (own_nz2 hs6 ho6) ?_
    show Steps p.tables e below (T16.setTop (mkF m 176 #[.val (.int p0), .val (.int p1), .val (.int p2), .val (.int p3), .val (.int p4), .val (.int p5), .val (.ref b1), .val (.ref b8), .val (.int b16_s0), .val (.int (Int32.ofNat sN)), .val (.int (Int32.ofNat (6 - sN))), .val (.int (Int32.ofNat oN)), .unset, .unset, .unset, .unset, .unset] [(.int ((p5 &&& (2147483647 : Int32)) % (((Int32.ofNat (6 - sN)) - (Int32.ofNat oN)) + (1 : Int32))))])) _
    refine XS.istore X16.here hx rfl (hb hby at_176) rfl (l' := #[.val (.int p0), .val (.int p1), .val (.int p2), .val (.int p3), .val (.int p4), .val (.int p5), .val (.ref b1), .val (.ref b8), .val (.int b16_s0), .val (.int (Int32.ofNat sN)), .val (.int (Int32.ofNat (6 - sN))), .val (.int (Int32.ofNat oN)), .val (.int ((p5 &&& (2147483647 : Int32)) % (((Int32.ofNat (6 - sN)) - (Int32.ofNat oN)) + (1 : Int32)))), .unset, .unset, .unset, .unset]) rfl ?_
    show Steps p.tables e below (T16.setTop (mkF m 178 #[.val (.int p0), .val (.int p1), .val (.int p2), .val (.int p3), .val (.int p4), .val (.int p5), .val (.ref b1), .val (.ref b8), .val (.int b16_s0), .val (.int (Int32.ofNat sN)), .val (.int (Int32.ofNat (6 - sN))), .val (.int (Int32.ofNat oN)), .val (.int ((p5 &&& (2147483647 : Int32)) % (((Int32.ofNat (6 - sN)) - (Int32.ofNat oN)) + (1 : Int32)))), .unset, .unset, .unset, .unset] [])) _
    exact k
  obtain ⟨lv, h_lv⟩ : ∃ z : Int32, z = ((p5 &&& (2147483647 : Int32)) % (((Int32.ofNat (6 - sN)) - (Int32.ofNat oN)) + (1 : Int32))) := ⟨_, rfl⟩
  rw [← h_lv]
  obtain ⟨lN, hlN, hl6⟩ := own_l p5 lv sN oN hs6 ho6 h_lv
  subst hlN
  obtain ⟨T17, h17, X17, e17, E17, A17, D17, -, st17⟩ := newO X16 hx hZ hown (hw _ (List.mem_of_getElem? (i := 2) rfl)) (hw _ (List.mem_of_getElem? (i := 3) rfl)) (hw _ (List.mem_of_getElem? (i := 4) rfl)) e16 (g := (mkF m 178 #[.val (.int p0), .val (.int p1), .val (.int p2), .val (.int p3), .val (.int p4), .val (.int p5), .val (.ref b1), .val (.ref b8), .val (.int b16_s0), .val (.int (Int32.ofNat sN)), .val (.int (Int32.ofNat (6 - sN))), .val (.int (Int32.ofNat oN)), .val (.int (Int32.ofNat lN)), .unset, .unset, .unset, .unset] [])) rfl (hb hby at_178) (by decide) (by decide)
  obtain ⟨b17, g17⟩ : ∃ z, z = h14.size := ⟨_, rfl⟩
  rw [← g17] at A17 D17 st17
  have lt_b1_b17 : b1 < b17 := Nat.lt_of_lt_of_le V_b1_14.lt (Nat.le_of_eq g17.symm)
  have lt_b8_b17 : b8 < b17 := Nat.lt_of_lt_of_le V_b8_14.lt (Nat.le_of_eq g17.symm)
  have ga_b17 : n0 ≤ b17 := Nat.le_trans sz_14 (Nat.le_of_eq g17.symm)
  have sz_17 := Nat.le_trans sz_14 E17.1
  have V_b1_17 := V_b1_14.ext E17
  have V_b8_17 := V_b8_14.ext E17
  have F_b17_line_17 : Fld Z h17 b17 "com/example/virta/virta/Input" "line" "I" (.int (0 : Int32)) := D17 (Or.inl (hw _ (List.mem_of_getElem? (i := 12) rfl))) (ty := .int) (by decide)
  have F_b17_column_17 : Fld Z h17 b17 "com/example/virta/virta/Input" "column" "I" (.int (0 : Int32)) := D17 (Or.inl (hw _ (List.mem_of_getElem? (i := 14) rfl))) (ty := .int) (by decide)
  have F_b17_atStart_17 : Fld Z h17 b17 "com/example/virta/virta/Input" "atStart" "Z" (.int (0 : Int32)) := D17 (Or.inl (hw _ (List.mem_of_getElem? (i := 16) rfl))) (ty := .boolean) (by decide)
  have F_b17_reader_17 : Fld Z h17 b17 "com/example/virta/virta/Input" "reader" "Ljava/io/Reader;" .null := D17 (Or.inr (hw _ (List.mem_of_getElem? (i := 18) rfl))) (ty := (.object "java/io/Reader")) (by decide)
  have F_b17_buffer_17 : Fld Z h17 b17 "com/example/virta/virta/Input" "buffer" "[C" .null := D17 (Or.inr (hw _ (List.mem_of_getElem? (i := 20) rfl))) (ty := (.array .char)) (by decide)
  have F_b17_publicId_17 : Fld Z h17 b17 "com/example/virta/virta/Input" "publicId" "Ljava/lang/String;" .null := D17 (Or.inr (hw _ (List.mem_of_getElem? (i := 22) rfl))) (ty := (.object "java/lang/String")) (by decide)
  have F_b17_systemId_17 : Fld Z h17 b17 "com/example/virta/virta/Input" "systemId" "Ljava/lang/String;" .null := D17 (Or.inr (hw _ (List.mem_of_getElem? (i := 24) rfl))) (ty := (.object "java/lang/String")) (by decide)
  have F_b17_base_17 : Fld Z h17 b17 "com/example/virta/virta/Input" "base" "Ljava/lang/String;" .null := D17 (Or.inr (hw _ (List.mem_of_getElem? (i := 26) rfl))) (ty := (.object "java/lang/String")) (by decide)
  have F_b17_givenEncoding_17 : Fld Z h17 b17 "com/example/virta/virta/Input" "givenEncoding" "Ljava/lang/String;" .null := D17 (Or.inr (hw _ (List.mem_of_getElem? (i := 28) rfl))) (ty := (.object "java/lang/String")) (by decide)
  have F_b17_digestLanes_17 : Fld Z h17 b17 "com/example/virta/virta/Input" "digestLanes" "[J" .null := D17 (Or.inr (hw _ (List.mem_of_getElem? (i := 30) rfl))) (ty := (.array .long)) (by decide)
  have F_b17_checked_17 : Fld Z h17 b17 "com/example/virta/virta/Input" "checked" "I" (.int (0 : Int32)) := D17 (Or.inl (hw _ (List.mem_of_getElem? (i := 32) rfl))) (ty := .int) (by decide)
  have F_b17_limit_17 : Fld Z h17 b17 "com/example/virta/virta/Input" "limit" "I" (.int (0 : Int32)) := D17 (Or.inl (hw _ (List.mem_of_getElem? (i := 34) rfl))) (ty := .int) (by decide)
  have F_b17_checkedSoFar_17 : Fld Z h17 b17 "com/example/virta/virta/Input" "checkedSoFar" "J" (.long (0 : Int64)) := D17 (Or.inl (hw _ (List.mem_of_getElem? (i := 36) rfl))) (ty := .long) (by decide)
  have F_b17_endOfText_17 : Fld Z h17 b17 "com/example/virta/virta/Input" "endOfText" "Z" (.int (0 : Int32)) := D17 (Or.inl (hw _ (List.mem_of_getElem? (i := 38) rfl))) (ty := .boolean) (by decide)
  have F_b17_position_17 : Fld Z h17 b17 "com/example/virta/virta/Input" "position" "I" (.int (0 : Int32)) := D17 (Or.inl (hw _ (List.mem_of_getElem? (i := 50) rfl))) (ty := .int) (by decide)
  refine own_go (T' := T17) (g' := (mkF m 181 #[.val (.int p0), .val (.int p1), .val (.int p2), .val (.int p3), .val (.int p4), .val (.int p5), .val (.ref b1), .val (.ref b8), .val (.int b16_s0), .val (.int (Int32.ofNat sN)), .val (.int (Int32.ofNat (6 - sN))), .val (.int (Int32.ofNat oN)), .val (.int (Int32.ofNat lN)), .unset, .unset, .unset, .unset] [(.ref b17)])) st17 ?_
  refine own_go (T' := T17) (g' := (mkF m 184 #[.val (.int p0), .val (.int p1), .val (.int p2), .val (.int p3), .val (.int p4), .val (.int p5), .val (.ref b1), .val (.ref b8), .val (.int b16_s0), .val (.int (Int32.ofNat sN)), .val (.int (Int32.ofNat (6 - sN))), .val (.int (Int32.ofNat oN)), .val (.int (Int32.ofNat lN)), .unset, .unset, .unset, .unset] [(.ref b1), (.ref b17), (.ref b17)])) (fun t k => ?_) ?_
  · show Steps p.tables e below (T17.setTop (mkF m 181 #[.val (.int p0), .val (.int p1), .val (.int p2), .val (.int p3), .val (.int p4), .val (.int p5), .val (.ref b1), .val (.ref b8), .val (.int b16_s0), .val (.int (Int32.ofNat sN)), .val (.int (Int32.ofNat (6 - sN))), .val (.int (Int32.ofNat oN)), .val (.int (Int32.ofNat lN)), .unset, .unset, .unset, .unset] [(.ref b17)])) t
    refine XS.dup X17.here hx rfl (hb hby at_181) rfl rfl ?_
    show Steps p.tables e below (T17.setTop (mkF m 182 #[.val (.int p0), .val (.int p1), .val (.int p2), .val (.int p3), .val (.int p4), .val (.int p5), .val (.ref b1), .val (.ref b8), .val (.int b16_s0), .val (.int (Int32.ofNat sN)), .val (.int (Int32.ofNat (6 - sN))), .val (.int (Int32.ofNat oN)), .val (.int (Int32.ofNat lN)), .unset, .unset, .unset, .unset] [(.ref b17), (.ref b17)])) _
    refine XS.aload X17.here hx rfl (hb hby at_182) rfl rfl ?_
    show Steps p.tables e below (T17.setTop (mkF m 184 #[.val (.int p0), .val (.int p1), .val (.int p2), .val (.int p3), .val (.int p4), .val (.int p5), .val (.ref b1), .val (.ref b8), .val (.int b16_s0), .val (.int (Int32.ofNat sN)), .val (.int (Int32.ofNat (6 - sN))), .val (.int (Int32.ofNat oN)), .val (.int (Int32.ofNat lN)), .unset, .unset, .unset, .unset] [(.ref b1), (.ref b17), (.ref b17)])) _
    exact k
  obtain ⟨_, T18, L18, X18, N18, ⟨rfl, Q18k, ⟨Q18e, Q18p, Q18c, Q18l, Q18b, Q18h⟩⟩, st18⟩ := own_callI X17 hx hZ rfl hown (hw _ (List.mem_of_getElem? (i := 5) rfl)) (hw _ (List.mem_of_getElem? (i := 6) rfl)) (hw _ (List.mem_of_getElem? (i := 4) rfl)) (hw _ (List.mem_of_getElem? (i := 7) rfl)) (by decide) (a := b17) (argsL := [(.ref b1)]) (rest := [(.ref b17)]) (rm1 l Z a0 hw b17 b1 k1 (6 : Int32) [(.int c0), (.int c1), (.int c2), (.int c3), (.int c4), (.int c5)] (.int (0 : Int32)) h17 n0 sz_17 ga_b17 V_b1_17 lt_b1_b17 A17 F_b17_line_17 F_b17_column_17 F_b17_atStart_17 F_b17_reader_17 F_b17_buffer_17 F_b17_publicId_17 F_b17_systemId_17 F_b17_base_17 F_b17_givenEncoding_17 F_b17_digestLanes_17 F_b17_checked_17 F_b17_limit_17 F_b17_checkedSoFar_17 F_b17_endOfText_17 F_b17_position_17) (W := 1) (by decide) (by decide) (g := (mkF m 184 #[.val (.int p0), .val (.int p1), .val (.int p2), .val (.int p3), .val (.int p4), .val (.int p5), .val (.ref b1), .val (.ref b8), .val (.int b16_s0), .val (.int (Int32.ofNat sN)), .val (.int (Int32.ofNat (6 - sN))), .val (.int (Int32.ofNat oN)), .val (.int (Int32.ofNat lN)), .unset, .unset, .unset, .unset] [(.ref b1), (.ref b17), (.ref b17)])) rfl (by rw [hml]; rfl) pd_1 rfl rfl (by show 2 * 0 + _ ≤ _; exact Nat.le_of_eq rfl) (hb hby at_184) e17 (by decide) (by decide) N16
  have V_b1_18 := V_b1_17.keep Q18k (ninS (Nat.ne_of_lt lt_b1_b17) nin0)
  have V_b8_18 := V_b8_17.keep Q18k (ninS (Nat.ne_of_lt lt_b8_b17) nin0)
  have E_b17_18 := Exa.keep A17 Q18k
  have sz_18 := Nat.le_trans sz_17 Q18k.1
  refine own_go (T' := T18) (g' := (mkF m 187 #[.val (.int p0), .val (.int p1), .val (.int p2), .val (.int p3), .val (.int p4), .val (.int p5), .val (.ref b1), .val (.ref b8), .val (.int b16_s0), .val (.int (Int32.ofNat sN)), .val (.int (Int32.ofNat (6 - sN))), .val (.int (Int32.ofNat oN)), .val (.int (Int32.ofNat lN)), .unset, .unset, .unset, .unset] [(.ref b17)])) st18 ?_
  refine own_go (T' := T18) (g' := (mkF m 193 #[.val (.int p0), .val (.int p1), .val (.int p2), .val (.int p3), .val (.int p4), .val (.int p5), .val (.ref b1), .val (.ref b8), .val (.int b16_s0), .val (.int (Int32.ofNat sN)), .val (.int (Int32.ofNat (6 - sN))), .val (.int (Int32.ofNat oN)), .val (.int (Int32.ofNat lN)), .val (.ref b17), .unset, .unset, .unset] [(.int (Int32.ofNat sN)), (.ref b17)])) (fun t k => ?_) ?_
  · show Steps p.tables e below (T18.setTop (mkF m 187 #[.val (.int p0), .val (.int p1), .val (.int p2), .val (.int p3), .val (.int p4), .val (.int p5), .val (.ref b1), .val (.ref b8), .val (.int b16_s0), .val (.int (Int32.ofNat sN)), .val (.int (Int32.ofNat (6 - sN))), .val (.int (Int32.ofNat oN)), .val (.int (Int32.ofNat lN)), .unset, .unset, .unset, .unset] [(.ref b17)])) t
    refine XS.astore X18.here hx rfl (hb hby at_187) rfl rfl (l' := #[.val (.int p0), .val (.int p1), .val (.int p2), .val (.int p3), .val (.int p4), .val (.int p5), .val (.ref b1), .val (.ref b8), .val (.int b16_s0), .val (.int (Int32.ofNat sN)), .val (.int (Int32.ofNat (6 - sN))), .val (.int (Int32.ofNat oN)), .val (.int (Int32.ofNat lN)), .val (.ref b17), .unset, .unset, .unset]) rfl ?_
    show Steps p.tables e below (T18.setTop (mkF m 189 #[.val (.int p0), .val (.int p1), .val (.int p2), .val (.int p3), .val (.int p4), .val (.int p5), .val (.ref b1), .val (.ref b8), .val (.int b16_s0), .val (.int (Int32.ofNat sN)), .val (.int (Int32.ofNat (6 - sN))), .val (.int (Int32.ofNat oN)), .val (.int (Int32.ofNat lN)), .val (.ref b17), .unset, .unset, .unset] [])) _
    refine XS.aload X18.here hx rfl (hb hby at_189) rfl rfl ?_
    show Steps p.tables e below (T18.setTop (mkF m 191 #[.val (.int p0), .val (.int p1), .val (.int p2), .val (.int p3), .val (.int p4), .val (.int p5), .val (.ref b1), .val (.ref b8), .val (.int b16_s0), .val (.int (Int32.ofNat sN)), .val (.int (Int32.ofNat (6 - sN))), .val (.int (Int32.ofNat oN)), .val (.int (Int32.ofNat lN)), .val (.ref b17), .unset, .unset, .unset] [(.ref b17)])) _
    refine XS.iload X18.here hx rfl (hb hby at_191) rfl ?_
    show Steps p.tables e below (T18.setTop (mkF m 193 #[.val (.int p0), .val (.int p1), .val (.int p2), .val (.int p3), .val (.int p4), .val (.int p5), .val (.ref b1), .val (.ref b8), .val (.int b16_s0), .val (.int (Int32.ofNat sN)), .val (.int (Int32.ofNat (6 - sN))), .val (.int (Int32.ofNat oN)), .val (.int (Int32.ofNat lN)), .val (.ref b17), .unset, .unset, .unset] [(.int (Int32.ofNat sN)), (.ref b17)])) _
    exact k
  obtain ⟨_, T19, L19, X19, N19, ⟨rfl, Q19k, ⟨Q19e, Q19p, Q19c, Q19l, Q19b, Q19h⟩⟩, st19⟩ := own_callV X18 hx hZ hown (hw _ (List.mem_of_getElem? (i := 39) rfl)) (hw _ (List.mem_of_getElem? (i := 40) rfl)) (hw _ (List.mem_of_getElem? (i := 42) rfl)) (hw _ (List.mem_of_getElem? (i := 41) rfl)) (hw _ (List.mem_of_getElem? (i := 4) rfl)) (hw _ (List.mem_of_getElem? (i := 43) rfl)) (by decide) (a := b17) (argsL := [(.int (Int32.ofNat sN))]) (rest := []) (rm3 l Z a0 hw b17 (Int32.ofNat sN) (0 : Int32) (1 : Int32) (1 : Int32) b1 (6 : Int32) T18.heap n0 sz_18 ga_b17 ⟨Q18e, Q18p, Q18c, Q18l, Q18b, Q18h⟩) (W := 0) (by decide) (by decide) Q18e (g := (mkF m 193 #[.val (.int p0), .val (.int p1), .val (.int p2), .val (.int p3), .val (.int p4), .val (.int p5), .val (.ref b1), .val (.ref b8), .val (.int b16_s0), .val (.int (Int32.ofNat sN)), .val (.int (Int32.ofNat (6 - sN))), .val (.int (Int32.ofNat oN)), .val (.int (Int32.ofNat lN)), .val (.ref b17), .unset, .unset, .unset] [(.int (Int32.ofNat sN)), (.ref b17)])) rfl (by rw [hml]; rfl) pd_2 rfl rfl (by show 2 * 0 + _ ≤ _; exact Nat.le_of_eq rfl) (hb hby at_193) rfl (by decide) (by decide) N18
  have V_b1_19 := V_b1_18.keep Q19k (ninS (Nat.ne_of_lt lt_b1_b17) nin0)
  have V_b8_19 := V_b8_18.keep Q19k (ninS (Nat.ne_of_lt lt_b8_b17) nin0)
  have E_b17_19 := Exa.keep Q18e Q19k
  have sz_19 := Nat.le_trans sz_18 Q19k.1
  refine own_go (T' := T19) (g' := (mkF m 196 #[.val (.int p0), .val (.int p1), .val (.int p2), .val (.int p3), .val (.int p4), .val (.int p5), .val (.ref b1), .val (.ref b8), .val (.int b16_s0), .val (.int (Int32.ofNat sN)), .val (.int (Int32.ofNat (6 - sN))), .val (.int (Int32.ofNat oN)), .val (.int (Int32.ofNat lN)), .val (.ref b17), .unset, .unset, .unset] [])) st19 ?_
  refine own_go (T' := T19) (g' := (mkF m 204 #[.val (.int p0), .val (.int p1), .val (.int p2), .val (.int p3), .val (.int p4), .val (.int p5), .val (.ref b1), .val (.ref b8), .val (.int b16_s0), .val (.int (Int32.ofNat sN)), .val (.int (Int32.ofNat (6 - sN))), .val (.int (Int32.ofNat oN)), .val (.int (Int32.ofNat lN)), .val (.ref b17), .unset, .unset, .unset] [(.int b16_s0), (.int (Int32.ofNat lN)), (.int (Int32.ofNat oN)), (.ref b17)])) (fun t k => ?_) ?_
  · show Steps p.tables e below (T19.setTop (mkF m 196 #[.val (.int p0), .val (.int p1), .val (.int p2), .val (.int p3), .val (.int p4), .val (.int p5), .val (.ref b1), .val (.ref b8), .val (.int b16_s0), .val (.int (Int32.ofNat sN)), .val (.int (Int32.ofNat (6 - sN))), .val (.int (Int32.ofNat oN)), .val (.int (Int32.ofNat lN)), .val (.ref b17), .unset, .unset, .unset] [])) t
    refine XS.aload X19.here hx rfl (hb hby at_196) rfl rfl ?_
    show Steps p.tables e below (T19.setTop (mkF m 198 #[.val (.int p0), .val (.int p1), .val (.int p2), .val (.int p3), .val (.int p4), .val (.int p5), .val (.ref b1), .val (.ref b8), .val (.int b16_s0), .val (.int (Int32.ofNat sN)), .val (.int (Int32.ofNat (6 - sN))), .val (.int (Int32.ofNat oN)), .val (.int (Int32.ofNat lN)), .val (.ref b17), .unset, .unset, .unset] [(.ref b17)])) _
    refine XS.iload X19.here hx rfl (hb hby at_198) rfl ?_
    show Steps p.tables e below (T19.setTop (mkF m 200 #[.val (.int p0), .val (.int p1), .val (.int p2), .val (.int p3), .val (.int p4), .val (.int p5), .val (.ref b1), .val (.ref b8), .val (.int b16_s0), .val (.int (Int32.ofNat sN)), .val (.int (Int32.ofNat (6 - sN))), .val (.int (Int32.ofNat oN)), .val (.int (Int32.ofNat lN)), .val (.ref b17), .unset, .unset, .unset] [(.int (Int32.ofNat oN)), (.ref b17)])) _
    refine XS.iload X19.here hx rfl (hb hby at_200) rfl ?_
    show Steps p.tables e below (T19.setTop (mkF m 202 #[.val (.int p0), .val (.int p1), .val (.int p2), .val (.int p3), .val (.int p4), .val (.int p5), .val (.ref b1), .val (.ref b8), .val (.int b16_s0), .val (.int (Int32.ofNat sN)), .val (.int (Int32.ofNat (6 - sN))), .val (.int (Int32.ofNat oN)), .val (.int (Int32.ofNat lN)), .val (.ref b17), .unset, .unset, .unset] [(.int (Int32.ofNat lN)), (.int (Int32.ofNat oN)), (.ref b17)])) _
    refine XS.iload X19.here hx rfl (hb hby at_202) rfl ?_
    show Steps p.tables e below (T19.setTop (mkF m 204 #[.val (.int p0), .val (.int p1), .val (.int p2), .val (.int p3), .val (.int p4), .val (.int p5), .val (.ref b1), .val (.ref b8), .val (.int b16_s0), .val (.int (Int32.ofNat sN)), .val (.int (Int32.ofNat (6 - sN))), .val (.int (Int32.ofNat oN)), .val (.int (Int32.ofNat lN)), .val (.ref b17), .unset, .unset, .unset] [(.int b16_s0), (.int (Int32.ofNat lN)), (.int (Int32.ofNat oN)), (.ref b17)])) _
    exact k
  obtain ⟨_, T20, L20, X20, N20, ⟨rfl, e20⟩, st20⟩ := own_callV X19 hx hZ hown (hw _ (List.mem_of_getElem? (i := 51) rfl)) (hw _ (List.mem_of_getElem? (i := 52) rfl)) (hw _ (List.mem_of_getElem? (i := 54) rfl)) (hw _ (List.mem_of_getElem? (i := 53) rfl)) (hw _ (List.mem_of_getElem? (i := 4) rfl)) (hw _ (List.mem_of_getElem? (i := 55) rfl)) (by decide) (a := b17) (argsL := [(.int (Int32.ofNat oN)), (.int (Int32.ofNat lN)), (.int b16_s0)]) (rest := []) (rm5 l Z a0 hw b17 (Int32.ofNat oN) (Int32.ofNat lN) b16_s0 ((0 : Int32) + (Int32.ofNat sN)) ((1 : Int32) + (Int32.ofNat sN)) (1 : Int32) b1 (6 : Int32) k1 (6 : Int32) [c0, c1, c2, c3, c4, c5] (sN + oN) lN T19.heap n0 ⟨Q19e, Q19p, Q19c, Q19l, Q19b, Q19h⟩ V_b1_19 rfl rfl (own_f hs6 ho6) rfl (by omega)) (W := 0) (by decide) (by decide) Q19e (g := (mkF m 204 #[.val (.int p0), .val (.int p1), .val (.int p2), .val (.int p3), .val (.int p4), .val (.int p5), .val (.ref b1), .val (.ref b8), .val (.int b16_s0), .val (.int (Int32.ofNat sN)), .val (.int (Int32.ofNat (6 - sN))), .val (.int (Int32.ofNat oN)), .val (.int (Int32.ofNat lN)), .val (.ref b17), .unset, .unset, .unset] [(.int b16_s0), (.int (Int32.ofNat lN)), (.int (Int32.ofNat oN)), (.ref b17)])) rfl (by rw [hml]; rfl) pd_3 rfl rfl (by show 2 * 0 + _ ≤ _; exact Nat.le_of_eq rfl) (hb hby at_204) rfl (by decide) (by decide) N19
  refine own_go (T' := T20) (g' := (mkF m 207 #[.val (.int p0), .val (.int p1), .val (.int p2), .val (.int p3), .val (.int p4), .val (.int p5), .val (.ref b1), .val (.ref b8), .val (.int b16_s0), .val (.int (Int32.ofNat sN)), .val (.int (Int32.ofNat (6 - sN))), .val (.int (Int32.ofNat oN)), .val (.int (Int32.ofNat lN)), .val (.ref b17), .unset, .unset, .unset] [(.int (if own_any [c0, c1, c2, c3, c4, c5] (sN + oN) lN b16_s0 then 1 else 0))])) st20 ?_
  refine own_go (T' := T20) (g' := (mkF m 209 #[.val (.int p0), .val (.int p1), .val (.int p2), .val (.int p3), .val (.int p4), .val (.int p5), .val (.ref b1), .val (.ref b8), .val (.int b16_s0), .val (.int (Int32.ofNat sN)), .val (.int (Int32.ofNat (6 - sN))), .val (.int (Int32.ofNat oN)), .val (.int (Int32.ofNat lN)), .val (.ref b17), .val (.int (if own_any [c0, c1, c2, c3, c4, c5] (sN + oN) lN b16_s0 then 1 else 0)), .unset, .unset] [])) (fun t k => ?_) ?_
  · show Steps p.tables e below (T20.setTop (mkF m 207 #[.val (.int p0), .val (.int p1), .val (.int p2), .val (.int p3), .val (.int p4), .val (.int p5), .val (.ref b1), .val (.ref b8), .val (.int b16_s0), .val (.int (Int32.ofNat sN)), .val (.int (Int32.ofNat (6 - sN))), .val (.int (Int32.ofNat oN)), .val (.int (Int32.ofNat lN)), .val (.ref b17), .unset, .unset, .unset] [(.int (if own_any [c0, c1, c2, c3, c4, c5] (sN + oN) lN b16_s0 then 1 else 0))])) t
    refine XS.istore X20.here hx rfl (hb hby at_207) rfl (l' := #[.val (.int p0), .val (.int p1), .val (.int p2), .val (.int p3), .val (.int p4), .val (.int p5), .val (.ref b1), .val (.ref b8), .val (.int b16_s0), .val (.int (Int32.ofNat sN)), .val (.int (Int32.ofNat (6 - sN))), .val (.int (Int32.ofNat oN)), .val (.int (Int32.ofNat lN)), .val (.ref b17), .val (.int (if own_any [c0, c1, c2, c3, c4, c5] (sN + oN) lN b16_s0 then 1 else 0)), .unset, .unset]) rfl ?_
    show Steps p.tables e below (T20.setTop (mkF m 209 #[.val (.int p0), .val (.int p1), .val (.int p2), .val (.int p3), .val (.int p4), .val (.int p5), .val (.ref b1), .val (.ref b8), .val (.int b16_s0), .val (.int (Int32.ofNat sN)), .val (.int (Int32.ofNat (6 - sN))), .val (.int (Int32.ofNat oN)), .val (.int (Int32.ofNat lN)), .val (.ref b17), .val (.int (if own_any [c0, c1, c2, c3, c4, c5] (sN + oN) lN b16_s0 then 1 else 0)), .unset, .unset] [])) _
    exact k
  obtain ⟨act, h_act⟩ : ∃ z : Int32, z = (if own_any [c0, c1, c2, c3, c4, c5] (sN + oN) lN b16_s0 then 1 else 0) := ⟨_, rfl⟩
  rw [← h_act]
  refine own_go (T' := T20) (g' := (mkF m 216 #[.val (.int p0), .val (.int p1), .val (.int p2), .val (.int p3), .val (.int p4), .val (.int p5), .val (.ref b1), .val (.ref b8), .val (.int b16_s0), .val (.int (Int32.ofNat sN)), .val (.int (Int32.ofNat (6 - sN))), .val (.int (Int32.ofNat oN)), .val (.int (Int32.ofNat lN)), .val (.ref b17), .val (.int act), .val (.int ((Int32.ofNat sN) + (Int32.ofNat oN))), .unset] [])) (fun t k => ?_) ?_
  · show Steps p.tables e below (T20.setTop (mkF m 209 #[.val (.int p0), .val (.int p1), .val (.int p2), .val (.int p3), .val (.int p4), .val (.int p5), .val (.ref b1), .val (.ref b8), .val (.int b16_s0), .val (.int (Int32.ofNat sN)), .val (.int (Int32.ofNat (6 - sN))), .val (.int (Int32.ofNat oN)), .val (.int (Int32.ofNat lN)), .val (.ref b17), .val (.int act), .unset, .unset] [])) t
    refine XS.iload X20.here hx rfl (hb hby at_209) rfl ?_
    show Steps p.tables e below (T20.setTop (mkF m 211 #[.val (.int p0), .val (.int p1), .val (.int p2), .val (.int p3), .val (.int p4), .val (.int p5), .val (.ref b1), .val (.ref b8), .val (.int b16_s0), .val (.int (Int32.ofNat sN)), .val (.int (Int32.ofNat (6 - sN))), .val (.int (Int32.ofNat oN)), .val (.int (Int32.ofNat lN)), .val (.ref b17), .val (.int act), .unset, .unset] [(.int (Int32.ofNat sN))])) _
    refine XS.iload X20.here hx rfl (hb hby at_211) rfl ?_
    show Steps p.tables e below (T20.setTop (mkF m 213 #[.val (.int p0), .val (.int p1), .val (.int p2), .val (.int p3), .val (.int p4), .val (.int p5), .val (.ref b1), .val (.ref b8), .val (.int b16_s0), .val (.int (Int32.ofNat sN)), .val (.int (Int32.ofNat (6 - sN))), .val (.int (Int32.ofNat oN)), .val (.int (Int32.ofNat lN)), .val (.ref b17), .val (.int act), .unset, .unset] [(.int (Int32.ofNat oN)), (.int (Int32.ofNat sN))])) _
    refine XS.iadd X20.here hx rfl (hb hby at_213) rfl ?_
    show Steps p.tables e below (T20.setTop (mkF m 214 #[.val (.int p0), .val (.int p1), .val (.int p2), .val (.int p3), .val (.int p4), .val (.int p5), .val (.ref b1), .val (.ref b8), .val (.int b16_s0), .val (.int (Int32.ofNat sN)), .val (.int (Int32.ofNat (6 - sN))), .val (.int (Int32.ofNat oN)), .val (.int (Int32.ofNat lN)), .val (.ref b17), .val (.int act), .unset, .unset] [(.int ((Int32.ofNat sN) + (Int32.ofNat oN)))])) _
    refine XS.istore X20.here hx rfl (hb hby at_214) rfl (l' := #[.val (.int p0), .val (.int p1), .val (.int p2), .val (.int p3), .val (.int p4), .val (.int p5), .val (.ref b1), .val (.ref b8), .val (.int b16_s0), .val (.int (Int32.ofNat sN)), .val (.int (Int32.ofNat (6 - sN))), .val (.int (Int32.ofNat oN)), .val (.int (Int32.ofNat lN)), .val (.ref b17), .val (.int act), .val (.int ((Int32.ofNat sN) + (Int32.ofNat oN))), .unset]) rfl ?_
    show Steps p.tables e below (T20.setTop (mkF m 216 #[.val (.int p0), .val (.int p1), .val (.int p2), .val (.int p3), .val (.int p4), .val (.int p5), .val (.ref b1), .val (.ref b8), .val (.int b16_s0), .val (.int (Int32.ofNat sN)), .val (.int (Int32.ofNat (6 - sN))), .val (.int (Int32.ofNat oN)), .val (.int (Int32.ofNat lN)), .val (.ref b17), .val (.int act), .val (.int ((Int32.ofNat sN) + (Int32.ofNat oN))), .unset] [])) _
    exact k
  rw [own_fr]
  refine own_go (T' := T20) (g' := (mkF m 225 #[.val (.int p0), .val (.int p1), .val (.int p2), .val (.int p3), .val (.int p4), .val (.int p5), .val (.ref b1), .val (.ref b8), .val (.int b16_s0), .val (.int (Int32.ofNat sN)), .val (.int (Int32.ofNat (6 - sN))), .val (.int (Int32.ofNat oN)), .val (.int (Int32.ofNat lN)), .val (.ref b17), .val (.int act), .val (.int (Int32.ofNat (sN + oN))), .unset] [(.int b16_s0), (.int (0 : Int32)), (.int (Int32.ofNat lN)), (.int (Int32.ofNat (sN + oN))), (.ref b8)])) (fun t k => ?_) ?_
  · show Steps p.tables e below (T20.setTop (mkF m 216 #[.val (.int p0), .val (.int p1), .val (.int p2), .val (.int p3), .val (.int p4), .val (.int p5), .val (.ref b1), .val (.ref b8), .val (.int b16_s0), .val (.int (Int32.ofNat sN)), .val (.int (Int32.ofNat (6 - sN))), .val (.int (Int32.ofNat oN)), .val (.int (Int32.ofNat lN)), .val (.ref b17), .val (.int act), .val (.int (Int32.ofNat (sN + oN))), .unset] [])) t
    refine XS.aload X20.here hx rfl (hb hby at_216) rfl rfl ?_
    show Steps p.tables e below (T20.setTop (mkF m 218 #[.val (.int p0), .val (.int p1), .val (.int p2), .val (.int p3), .val (.int p4), .val (.int p5), .val (.ref b1), .val (.ref b8), .val (.int b16_s0), .val (.int (Int32.ofNat sN)), .val (.int (Int32.ofNat (6 - sN))), .val (.int (Int32.ofNat oN)), .val (.int (Int32.ofNat lN)), .val (.ref b17), .val (.int act), .val (.int (Int32.ofNat (sN + oN))), .unset] [(.ref b8)])) _
    refine XS.iload X20.here hx rfl (hb hby at_218) rfl ?_
    show Steps p.tables e below (T20.setTop (mkF m 220 #[.val (.int p0), .val (.int p1), .val (.int p2), .val (.int p3), .val (.int p4), .val (.int p5), .val (.ref b1), .val (.ref b8), .val (.int b16_s0), .val (.int (Int32.ofNat sN)), .val (.int (Int32.ofNat (6 - sN))), .val (.int (Int32.ofNat oN)), .val (.int (Int32.ofNat lN)), .val (.ref b17), .val (.int act), .val (.int (Int32.ofNat (sN + oN))), .unset] [(.int (Int32.ofNat (sN + oN))), (.ref b8)])) _
    refine XS.iload X20.here hx rfl (hb hby at_220) rfl ?_
    show Steps p.tables e below (T20.setTop (mkF m 222 #[.val (.int p0), .val (.int p1), .val (.int p2), .val (.int p3), .val (.int p4), .val (.int p5), .val (.ref b1), .val (.ref b8), .val (.int b16_s0), .val (.int (Int32.ofNat sN)), .val (.int (Int32.ofNat (6 - sN))), .val (.int (Int32.ofNat oN)), .val (.int (Int32.ofNat lN)), .val (.ref b17), .val (.int act), .val (.int (Int32.ofNat (sN + oN))), .unset] [(.int (Int32.ofNat lN)), (.int (Int32.ofNat (sN + oN))), (.ref b8)])) _
    refine XS.iconst X20.here hx rfl (hb hby at_222) ?_
    show Steps p.tables e below (T20.setTop (mkF m 223 #[.val (.int p0), .val (.int p1), .val (.int p2), .val (.int p3), .val (.int p4), .val (.int p5), .val (.ref b1), .val (.ref b8), .val (.int b16_s0), .val (.int (Int32.ofNat sN)), .val (.int (Int32.ofNat (6 - sN))), .val (.int (Int32.ofNat oN)), .val (.int (Int32.ofNat lN)), .val (.ref b17), .val (.int act), .val (.int (Int32.ofNat (sN + oN))), .unset] [(.int (0 : Int32)), (.int (Int32.ofNat lN)), (.int (Int32.ofNat (sN + oN))), (.ref b8)])) _
    refine XS.iload X20.here hx rfl (hb hby at_223) rfl ?_
    show Steps p.tables e below (T20.setTop (mkF m 225 #[.val (.int p0), .val (.int p1), .val (.int p2), .val (.int p3), .val (.int p4), .val (.int p5), .val (.ref b1), .val (.ref b8), .val (.int b16_s0), .val (.int (Int32.ofNat sN)), .val (.int (Int32.ofNat (6 - sN))), .val (.int (Int32.ofNat oN)), .val (.int (Int32.ofNat lN)), .val (.ref b17), .val (.int act), .val (.int (Int32.ofNat (sN + oN))), .unset] [(.int b16_s0), (.int (0 : Int32)), (.int (Int32.ofNat lN)), (.int (Int32.ofNat (sN + oN))), (.ref b8)])) _
    exact k
  obtain ⟨_, T21, L21, X21, N21, ⟨rfl, e21⟩, st21⟩ := own_callS X20 hx hZ hown (hw _ (List.mem_of_getElem? (i := 56) rfl)) (hw _ (List.mem_of_getElem? (i := 57) rfl)) (hw _ (List.mem_of_getElem? (i := 58) rfl)) (hw _ (List.mem_of_getElem? (i := 59) rfl)) (by decide) (argsL := [(.ref b8), (.int (Int32.ofNat (sN + oN))), (.int (Int32.ofNat lN)), (.int (0 : Int32)), (.int b16_s0)]) (rest := []) (rm6 l Z a0 hw b8 (Int32.ofNat (sN + oN)) (Int32.ofNat lN) (0 : Int32) b16_s0 k8 (6 : Int32) [c0, c1, c2, c3, c4, c5] T19.heap n0 V_b8_19 (own_atin hs6 ho6 hl6 (by decide))) (W := 0) (by decide) (by decide) (g := (mkF m 225 #[.val (.int p0), .val (.int p1), .val (.int p2), .val (.int p3), .val (.int p4), .val (.int p5), .val (.ref b1), .val (.ref b8), .val (.int b16_s0), .val (.int (Int32.ofNat sN)), .val (.int (Int32.ofNat (6 - sN))), .val (.int (Int32.ofNat oN)), .val (.int (Int32.ofNat lN)), .val (.ref b17), .val (.int act), .val (.int (Int32.ofNat (sN + oN))), .unset] [(.int b16_s0), (.int (0 : Int32)), (.int (Int32.ofNat lN)), (.int (Int32.ofNat (sN + oN))), (.ref b8)])) rfl (by rw [hml]; rfl) pd_4 rfl rfl (by show 2 * 0 + _ ≤ _; exact Nat.le_of_eq rfl) (hb hby at_225) e20 (by decide) (by decide) N20
  refine own_go (T' := T21) (g' := (mkF m 228 #[.val (.int p0), .val (.int p1), .val (.int p2), .val (.int p3), .val (.int p4), .val (.int p5), .val (.ref b1), .val (.ref b8), .val (.int b16_s0), .val (.int (Int32.ofNat sN)), .val (.int (Int32.ofNat (6 - sN))), .val (.int (Int32.ofNat oN)), .val (.int (Int32.ofNat lN)), .val (.ref b17), .val (.int act), .val (.int (Int32.ofNat (sN + oN))), .unset] [(.int (own_at [c0, c1, c2, c3, c4, c5] (Int32.ofNat (sN + oN)) (Int32.ofNat lN) (0 : Int32) b16_s0))])) st21 ?_
  suffices w33 : ∀ (T33 : State) (L33 : List Loc) (X33 : Stand p l e room_1 s m #[(.int p0), (.int p1), (.int p2), (.int p3), (.int p4), (.int p5)] below meth c T33 L33 3 30) (e33 : T33.heap = T19.heap) (N33 : Fr n0 L33) (b33_s0 : Int32) (h_b33_s0 : b33_s0 = (if (own_at [c0, c1, c2, c3, c4, c5] (Int32.ofNat (sN + oN)) (Int32.ofNat lN) (0 : Int32) b16_s0) = (0 : Int32) then (if (own_at [c0, c1, c2, c3, c4, c5] (Int32.ofNat (sN + oN)) (Int32.ofNat lN) (1 : Int32) b16_s0) = (0 : Int32) then (if (own_at [c0, c1, c2, c3, c4, c5] (Int32.ofNat (sN + oN)) (Int32.ofNat lN) (2 : Int32) b16_s0) = (0 : Int32) then (if (own_at [c0, c1, c2, c3, c4, c5] (Int32.ofNat (sN + oN)) (Int32.ofNat lN) (3 : Int32) b16_s0) = (0 : Int32) then (if (own_at [c0, c1, c2, c3, c4, c5] (Int32.ofNat (sN + oN)) (Int32.ofNat lN) (4 : Int32) b16_s0) = (0 : Int32) then (if (own_at [c0, c1, c2, c3, c4, c5] (Int32.ofNat (sN + oN)) (Int32.ofNat lN) (5 : Int32) b16_s0) = (0 : Int32) then (0 : Int32) else (1 : Int32)) else (1 : Int32)) else (1 : Int32)) else (1 : Int32)) else (1 : Int32)) else (1 : Int32))), own_Ends p e below s n0 room_1.cells room_1.slots T33 (mkF m 311 #[.val (.int p0), .val (.int p1), .val (.int p2), .val (.int p3), .val (.int p4), .val (.int p5), .val (.ref b1), .val (.ref b8), .val (.int b16_s0), .val (.int (Int32.ofNat sN)), .val (.int (Int32.ofNat (6 - sN))), .val (.int (Int32.ofNat oN)), .val (.int (Int32.ofNat lN)), .val (.ref b17), .val (.int act), .val (.int (Int32.ofNat (sN + oN))), .unset] [(.int b33_s0)]) own_Q0 by
    by_cases hm228_22 : (own_at [c0, c1, c2, c3, c4, c5] (Int32.ofNat (sN + oN)) (Int32.ofNat lN) (0 : Int32) b16_s0) = (0 : Int32)
    · refine own_go (T' := T21) (g' := (mkF m 231 #[.val (.int p0), .val (.int p1), .val (.int p2), .val (.int p3), .val (.int p4), .val (.int p5), .val (.ref b1), .val (.ref b8), .val (.int b16_s0), .val (.int (Int32.ofNat sN)), .val (.int (Int32.ofNat (6 - sN))), .val (.int (Int32.ofNat oN)), .val (.int (Int32.ofNat lN)), .val (.ref b17), .val (.int act), .val (.int (Int32.ofNat (sN + oN))), .unset] [])) (fun t k => ?_) ?_
      · refine XS.ifNo X21.here hx rfl (hb hby at_228) rfl ((if0 _ _).trans (teq hm228_22).2) ?_
        exact k
      refine own_go (T' := T21) (g' := (mkF m 240 #[.val (.int p0), .val (.int p1), .val (.int p2), .val (.int p3), .val (.int p4), .val (.int p5), .val (.ref b1), .val (.ref b8), .val (.int b16_s0), .val (.int (Int32.ofNat sN)), .val (.int (Int32.ofNat (6 - sN))), .val (.int (Int32.ofNat oN)), .val (.int (Int32.ofNat lN)), .val (.ref b17), .val (.int act), .val (.int (Int32.ofNat (sN + oN))), .unset] [(.int b16_s0), (.int (1 : Int32)), (.int (Int32.ofNat lN)), (.int (Int32.ofNat (sN + oN))), (.ref b8)])) (fun t k => ?_) ?_
      · show Steps p.tables e below (T21.setTop (mkF m 231 #[.val (.int p0), .val (.int p1), .val (.int p2), .val (.int p3), .val (.int p4), .val (.int p5), .val (.ref b1), .val (.ref b8), .val (.int b16_s0), .val (.int (Int32.ofNat sN)), .val (.int (Int32.ofNat (6 - sN))), .val (.int (Int32.ofNat oN)), .val (.int (Int32.ofNat lN)), .val (.ref b17), .val (.int act), .val (.int (Int32.ofNat (sN + oN))), .unset] [])) t
        refine XS.aload X21.here hx rfl (hb hby at_231) rfl rfl ?_
        show Steps p.tables e below (T21.setTop (mkF m 233 #[.val (.int p0), .val (.int p1), .val (.int p2), .val (.int p3), .val (.int p4), .val (.int p5), .val (.ref b1), .val (.ref b8), .val (.int b16_s0), .val (.int (Int32.ofNat sN)), .val (.int (Int32.ofNat (6 - sN))), .val (.int (Int32.ofNat oN)), .val (.int (Int32.ofNat lN)), .val (.ref b17), .val (.int act), .val (.int (Int32.ofNat (sN + oN))), .unset] [(.ref b8)])) _
        refine XS.iload X21.here hx rfl (hb hby at_233) rfl ?_
        show Steps p.tables e below (T21.setTop (mkF m 235 #[.val (.int p0), .val (.int p1), .val (.int p2), .val (.int p3), .val (.int p4), .val (.int p5), .val (.ref b1), .val (.ref b8), .val (.int b16_s0), .val (.int (Int32.ofNat sN)), .val (.int (Int32.ofNat (6 - sN))), .val (.int (Int32.ofNat oN)), .val (.int (Int32.ofNat lN)), .val (.ref b17), .val (.int act), .val (.int (Int32.ofNat (sN + oN))), .unset] [(.int (Int32.ofNat (sN + oN))), (.ref b8)])) _
        refine XS.iload X21.here hx rfl (hb hby at_235) rfl ?_
        show Steps p.tables e below (T21.setTop (mkF m 237 #[.val (.int p0), .val (.int p1), .val (.int p2), .val (.int p3), .val (.int p4), .val (.int p5), .val (.ref b1), .val (.ref b8), .val (.int b16_s0), .val (.int (Int32.ofNat sN)), .val (.int (Int32.ofNat (6 - sN))), .val (.int (Int32.ofNat oN)), .val (.int (Int32.ofNat lN)), .val (.ref b17), .val (.int act), .val (.int (Int32.ofNat (sN + oN))), .unset] [(.int (Int32.ofNat lN)), (.int (Int32.ofNat (sN + oN))), (.ref b8)])) _
        refine XS.iconst X21.here hx rfl (hb hby at_237) ?_
        show Steps p.tables e below (T21.setTop (mkF m 238 #[.val (.int p0), .val (.int p1), .val (.int p2), .val (.int p3), .val (.int p4), .val (.int p5), .val (.ref b1), .val (.ref b8), .val (.int b16_s0), .val (.int (Int32.ofNat sN)), .val (.int (Int32.ofNat (6 - sN))), .val (.int (Int32.ofNat oN)), .val (.int (Int32.ofNat lN)), .val (.ref b17), .val (.int act), .val (.int (Int32.ofNat (sN + oN))), .unset] [(.int (1 : Int32)), (.int (Int32.ofNat lN)), (.int (Int32.ofNat (sN + oN))), (.ref b8)])) _
        refine XS.iload X21.here hx rfl (hb hby at_238) rfl ?_
        show Steps p.tables e below (T21.setTop (mkF m 240 #[.val (.int p0), .val (.int p1), .val (.int p2), .val (.int p3), .val (.int p4), .val (.int p5), .val (.ref b1), .val (.ref b8), .val (.int b16_s0), .val (.int (Int32.ofNat sN)), .val (.int (Int32.ofNat (6 - sN))), .val (.int (Int32.ofNat oN)), .val (.int (Int32.ofNat lN)), .val (.ref b17), .val (.int act), .val (.int (Int32.ofNat (sN + oN))), .unset] [(.int b16_s0), (.int (1 : Int32)), (.int (Int32.ofNat lN)), (.int (Int32.ofNat (sN + oN))), (.ref b8)])) _
        exact k
      obtain ⟨_, T23, L23, X23, N23, ⟨rfl, e23⟩, st23⟩ := own_callS X21 hx hZ hown (hw _ (List.mem_of_getElem? (i := 56) rfl)) (hw _ (List.mem_of_getElem? (i := 57) rfl)) (hw _ (List.mem_of_getElem? (i := 58) rfl)) (hw _ (List.mem_of_getElem? (i := 59) rfl)) (by decide) (argsL := [(.ref b8), (.int (Int32.ofNat (sN + oN))), (.int (Int32.ofNat lN)), (.int (1 : Int32)), (.int b16_s0)]) (rest := []) (rm6 l Z a0 hw b8 (Int32.ofNat (sN + oN)) (Int32.ofNat lN) (1 : Int32) b16_s0 k8 (6 : Int32) [c0, c1, c2, c3, c4, c5] T19.heap n0 V_b8_19 (own_atin hs6 ho6 hl6 (by decide))) (W := 0) (by decide) (by decide) (g := (mkF m 240 #[.val (.int p0), .val (.int p1), .val (.int p2), .val (.int p3), .val (.int p4), .val (.int p5), .val (.ref b1), .val (.ref b8), .val (.int b16_s0), .val (.int (Int32.ofNat sN)), .val (.int (Int32.ofNat (6 - sN))), .val (.int (Int32.ofNat oN)), .val (.int (Int32.ofNat lN)), .val (.ref b17), .val (.int act), .val (.int (Int32.ofNat (sN + oN))), .unset] [(.int b16_s0), (.int (1 : Int32)), (.int (Int32.ofNat lN)), (.int (Int32.ofNat (sN + oN))), (.ref b8)])) rfl (by rw [hml]; rfl) pd_4 rfl rfl (by show 2 * 0 + _ ≤ _; exact Nat.le_of_eq rfl) (hb hby at_240) e21 (by decide) (by decide) N21
      refine own_go (T' := T23) (g' := (mkF m 243 #[.val (.int p0), .val (.int p1), .val (.int p2), .val (.int p3), .val (.int p4), .val (.int p5), .val (.ref b1), .val (.ref b8), .val (.int b16_s0), .val (.int (Int32.ofNat sN)), .val (.int (Int32.ofNat (6 - sN))), .val (.int (Int32.ofNat oN)), .val (.int (Int32.ofNat lN)), .val (.ref b17), .val (.int act), .val (.int (Int32.ofNat (sN + oN))), .unset] [(.int (own_at [c0, c1, c2, c3, c4, c5] (Int32.ofNat (sN + oN)) (Int32.ofNat lN) (1 : Int32) b16_s0))])) st23 ?_
      by_cases hm243_24 : (own_at [c0, c1, c2, c3, c4, c5] (Int32.ofNat (sN + oN)) (Int32.ofNat lN) (1 : Int32) b16_s0) = (0 : Int32)
      · refine own_go (T' := T23) (g' := (mkF m 246 #[.val (.int p0), .val (.int p1), .val (.int p2), .val (.int p3), .val (.int p4), .val (.int p5), .val (.ref b1), .val (.ref b8), .val (.int b16_s0), .val (.int (Int32.ofNat sN)), .val (.int (Int32.ofNat (6 - sN))), .val (.int (Int32.ofNat oN)), .val (.int (Int32.ofNat lN)), .val (.ref b17), .val (.int act), .val (.int (Int32.ofNat (sN + oN))), .unset] [])) (fun t k => ?_) ?_
        · refine XS.ifNo X23.here hx rfl (hb hby at_243) rfl ((if0 _ _).trans (teq hm243_24).2) ?_
          exact k
        refine own_go (T' := T23) (g' := (mkF m 255 #[.val (.int p0), .val (.int p1), .val (.int p2), .val (.int p3), .val (.int p4), .val (.int p5), .val (.ref b1), .val (.ref b8), .val (.int b16_s0), .val (.int (Int32.ofNat sN)), .val (.int (Int32.ofNat (6 - sN))), .val (.int (Int32.ofNat oN)), .val (.int (Int32.ofNat lN)), .val (.ref b17), .val (.int act), .val (.int (Int32.ofNat (sN + oN))), .unset] [(.int b16_s0), (.int (2 : Int32)), (.int (Int32.ofNat lN)), (.int (Int32.ofNat (sN + oN))), (.ref b8)])) (fun t k => ?_) ?_
        · show Steps p.tables e below (T23.setTop (mkF m 246 #[.val (.int p0), .val (.int p1), .val (.int p2), .val (.int p3), .val (.int p4), .val (.int p5), .val (.ref b1), .val (.ref b8), .val (.int b16_s0), .val (.int (Int32.ofNat sN)), .val (.int (Int32.ofNat (6 - sN))), .val (.int (Int32.ofNat oN)), .val (.int (Int32.ofNat lN)), .val (.ref b17), .val (.int act), .val (.int (Int32.ofNat (sN + oN))), .unset] [])) t
          refine XS.aload X23.here hx rfl (hb hby at_246) rfl rfl ?_
          show Steps p.tables e below (T23.setTop (mkF m 248 #[.val (.int p0), .val (.int p1), .val (.int p2), .val (.int p3), .val (.int p4), .val (.int p5), .val (.ref b1), .val (.ref b8), .val (.int b16_s0), .val (.int (Int32.ofNat sN)), .val (.int (Int32.ofNat (6 - sN))), .val (.int (Int32.ofNat oN)), .val (.int (Int32.ofNat lN)), .val (.ref b17), .val (.int act), .val (.int (Int32.ofNat (sN + oN))), .unset] [(.ref b8)])) _
          refine XS.iload X23.here hx rfl (hb hby at_248) rfl ?_
          show Steps p.tables e below (T23.setTop (mkF m 250 #[.val (.int p0), .val (.int p1), .val (.int p2), .val (.int p3), .val (.int p4), .val (.int p5), .val (.ref b1), .val (.ref b8), .val (.int b16_s0), .val (.int (Int32.ofNat sN)), .val (.int (Int32.ofNat (6 - sN))), .val (.int (Int32.ofNat oN)), .val (.int (Int32.ofNat lN)), .val (.ref b17), .val (.int act), .val (.int (Int32.ofNat (sN + oN))), .unset] [(.int (Int32.ofNat (sN + oN))), (.ref b8)])) _
          refine XS.iload X23.here hx rfl (hb hby at_250) rfl ?_
          show Steps p.tables e below (T23.setTop (mkF m 252 #[.val (.int p0), .val (.int p1), .val (.int p2), .val (.int p3), .val (.int p4), .val (.int p5), .val (.ref b1), .val (.ref b8), .val (.int b16_s0), .val (.int (Int32.ofNat sN)), .val (.int (Int32.ofNat (6 - sN))), .val (.int (Int32.ofNat oN)), .val (.int (Int32.ofNat lN)), .val (.ref b17), .val (.int act), .val (.int (Int32.ofNat (sN + oN))), .unset] [(.int (Int32.ofNat lN)), (.int (Int32.ofNat (sN + oN))), (.ref b8)])) _
          refine XS.iconst X23.here hx rfl (hb hby at_252) ?_
          show Steps p.tables e below (T23.setTop (mkF m 253 #[.val (.int p0), .val (.int p1), .val (.int p2), .val (.int p3), .val (.int p4), .val (.int p5), .val (.ref b1), .val (.ref b8), .val (.int b16_s0), .val (.int (Int32.ofNat sN)), .val (.int (Int32.ofNat (6 - sN))), .val (.int (Int32.ofNat oN)), .val (.int (Int32.ofNat lN)), .val (.ref b17), .val (.int act), .val (.int (Int32.ofNat (sN + oN))), .unset] [(.int (2 : Int32)), (.int (Int32.ofNat lN)), (.int (Int32.ofNat (sN + oN))), (.ref b8)])) _
          refine XS.iload X23.here hx rfl (hb hby at_253) rfl ?_
          show Steps p.tables e below (T23.setTop (mkF m 255 #[.val (.int p0), .val (.int p1), .val (.int p2), .val (.int p3), .val (.int p4), .val (.int p5), .val (.ref b1), .val (.ref b8), .val (.int b16_s0), .val (.int (Int32.ofNat sN)), .val (.int (Int32.ofNat (6 - sN))), .val (.int (Int32.ofNat oN)), .val (.int (Int32.ofNat lN)), .val (.ref b17), .val (.int act), .val (.int (Int32.ofNat (sN + oN))), .unset] [(.int b16_s0), (.int (2 : Int32)), (.int (Int32.ofNat lN)), (.int (Int32.ofNat (sN + oN))), (.ref b8)])) _
          exact k
        obtain ⟨_, T25, L25, X25, N25, ⟨rfl, e25⟩, st25⟩ := own_callS X23 hx hZ hown (hw _ (List.mem_of_getElem? (i := 56) rfl)) (hw _ (List.mem_of_getElem? (i := 57) rfl)) (hw _ (List.mem_of_getElem? (i := 58) rfl)) (hw _ (List.mem_of_getElem? (i := 59) rfl)) (by decide) (argsL := [(.ref b8), (.int (Int32.ofNat (sN + oN))), (.int (Int32.ofNat lN)), (.int (2 : Int32)), (.int b16_s0)]) (rest := []) (rm6 l Z a0 hw b8 (Int32.ofNat (sN + oN)) (Int32.ofNat lN) (2 : Int32) b16_s0 k8 (6 : Int32) [c0, c1, c2, c3, c4, c5] T19.heap n0 V_b8_19 (own_atin hs6 ho6 hl6 (by decide))) (W := 0) (by decide) (by decide) (g := (mkF m 255 #[.val (.int p0), .val (.int p1), .val (.int p2), .val (.int p3), .val (.int p4), .val (.int p5), .val (.ref b1), .val (.ref b8), .val (.int b16_s0), .val (.int (Int32.ofNat sN)), .val (.int (Int32.ofNat (6 - sN))), .val (.int (Int32.ofNat oN)), .val (.int (Int32.ofNat lN)), .val (.ref b17), .val (.int act), .val (.int (Int32.ofNat (sN + oN))), .unset] [(.int b16_s0), (.int (2 : Int32)), (.int (Int32.ofNat lN)), (.int (Int32.ofNat (sN + oN))), (.ref b8)])) rfl (by rw [hml]; rfl) pd_4 rfl rfl (by show 2 * 0 + _ ≤ _; exact Nat.le_of_eq rfl) (hb hby at_255) e23 (by decide) (by decide) N23
        refine own_go (T' := T25) (g' := (mkF m 258 #[.val (.int p0), .val (.int p1), .val (.int p2), .val (.int p3), .val (.int p4), .val (.int p5), .val (.ref b1), .val (.ref b8), .val (.int b16_s0), .val (.int (Int32.ofNat sN)), .val (.int (Int32.ofNat (6 - sN))), .val (.int (Int32.ofNat oN)), .val (.int (Int32.ofNat lN)), .val (.ref b17), .val (.int act), .val (.int (Int32.ofNat (sN + oN))), .unset] [(.int (own_at [c0, c1, c2, c3, c4, c5] (Int32.ofNat (sN + oN)) (Int32.ofNat lN) (2 : Int32) b16_s0))])) st25 ?_
        by_cases hm258_26 : (own_at [c0, c1, c2, c3, c4, c5] (Int32.ofNat (sN + oN)) (Int32.ofNat lN) (2 : Int32) b16_s0) = (0 : Int32)
        · refine own_go (T' := T25) (g' := (mkF m 261 #[.val (.int p0), .val (.int p1), .val (.int p2), .val (.int p3), .val (.int p4), .val (.int p5), .val (.ref b1), .val (.ref b8), .val (.int b16_s0), .val (.int (Int32.ofNat sN)), .val (.int (Int32.ofNat (6 - sN))), .val (.int (Int32.ofNat oN)), .val (.int (Int32.ofNat lN)), .val (.ref b17), .val (.int act), .val (.int (Int32.ofNat (sN + oN))), .unset] [])) (fun t k => ?_) ?_
          · refine XS.ifNo X25.here hx rfl (hb hby at_258) rfl ((if0 _ _).trans (teq hm258_26).2) ?_
            exact k
          refine own_go (T' := T25) (g' := (mkF m 270 #[.val (.int p0), .val (.int p1), .val (.int p2), .val (.int p3), .val (.int p4), .val (.int p5), .val (.ref b1), .val (.ref b8), .val (.int b16_s0), .val (.int (Int32.ofNat sN)), .val (.int (Int32.ofNat (6 - sN))), .val (.int (Int32.ofNat oN)), .val (.int (Int32.ofNat lN)), .val (.ref b17), .val (.int act), .val (.int (Int32.ofNat (sN + oN))), .unset] [(.int b16_s0), (.int (3 : Int32)), (.int (Int32.ofNat lN)), (.int (Int32.ofNat (sN + oN))), (.ref b8)])) (fun t k => ?_) ?_
          · show Steps p.tables e below (T25.setTop (mkF m 261 #[.val (.int p0), .val (.int p1), .val (.int p2), .val (.int p3), .val (.int p4), .val (.int p5), .val (.ref b1), .val (.ref b8), .val (.int b16_s0), .val (.int (Int32.ofNat sN)), .val (.int (Int32.ofNat (6 - sN))), .val (.int (Int32.ofNat oN)), .val (.int (Int32.ofNat lN)), .val (.ref b17), .val (.int act), .val (.int (Int32.ofNat (sN + oN))), .unset] [])) t
            refine XS.aload X25.here hx rfl (hb hby at_261) rfl rfl ?_
            show Steps p.tables e below (T25.setTop (mkF m 263 #[.val (.int p0), .val (.int p1), .val (.int p2), .val (.int p3), .val (.int p4), .val (.int p5), .val (.ref b1), .val (.ref b8), .val (.int b16_s0), .val (.int (Int32.ofNat sN)), .val (.int (Int32.ofNat (6 - sN))), .val (.int (Int32.ofNat oN)), .val (.int (Int32.ofNat lN)), .val (.ref b17), .val (.int act), .val (.int (Int32.ofNat (sN + oN))), .unset] [(.ref b8)])) _
            refine XS.iload X25.here hx rfl (hb hby at_263) rfl ?_
            show Steps p.tables e below (T25.setTop (mkF m 265 #[.val (.int p0), .val (.int p1), .val (.int p2), .val (.int p3), .val (.int p4), .val (.int p5), .val (.ref b1), .val (.ref b8), .val (.int b16_s0), .val (.int (Int32.ofNat sN)), .val (.int (Int32.ofNat (6 - sN))), .val (.int (Int32.ofNat oN)), .val (.int (Int32.ofNat lN)), .val (.ref b17), .val (.int act), .val (.int (Int32.ofNat (sN + oN))), .unset] [(.int (Int32.ofNat (sN + oN))), (.ref b8)])) _
            refine XS.iload X25.here hx rfl (hb hby at_265) rfl ?_
            show Steps p.tables e below (T25.setTop (mkF m 267 #[.val (.int p0), .val (.int p1), .val (.int p2), .val (.int p3), .val (.int p4), .val (.int p5), .val (.ref b1), .val (.ref b8), .val (.int b16_s0), .val (.int (Int32.ofNat sN)), .val (.int (Int32.ofNat (6 - sN))), .val (.int (Int32.ofNat oN)), .val (.int (Int32.ofNat lN)), .val (.ref b17), .val (.int act), .val (.int (Int32.ofNat (sN + oN))), .unset] [(.int (Int32.ofNat lN)), (.int (Int32.ofNat (sN + oN))), (.ref b8)])) _
            refine XS.iconst X25.here hx rfl (hb hby at_267) ?_
            show Steps p.tables e below (T25.setTop (mkF m 268 #[.val (.int p0), .val (.int p1), .val (.int p2), .val (.int p3), .val (.int p4), .val (.int p5), .val (.ref b1), .val (.ref b8), .val (.int b16_s0), .val (.int (Int32.ofNat sN)), .val (.int (Int32.ofNat (6 - sN))), .val (.int (Int32.ofNat oN)), .val (.int (Int32.ofNat lN)), .val (.ref b17), .val (.int act), .val (.int (Int32.ofNat (sN + oN))), .unset] [(.int (3 : Int32)), (.int (Int32.ofNat lN)), (.int (Int32.ofNat (sN + oN))), (.ref b8)])) _
            refine XS.iload X25.here hx rfl (hb hby at_268) rfl ?_
            show Steps p.tables e below (T25.setTop (mkF m 270 #[.val (.int p0), .val (.int p1), .val (.int p2), .val (.int p3), .val (.int p4), .val (.int p5), .val (.ref b1), .val (.ref b8), .val (.int b16_s0), .val (.int (Int32.ofNat sN)), .val (.int (Int32.ofNat (6 - sN))), .val (.int (Int32.ofNat oN)), .val (.int (Int32.ofNat lN)), .val (.ref b17), .val (.int act), .val (.int (Int32.ofNat (sN + oN))), .unset] [(.int b16_s0), (.int (3 : Int32)), (.int (Int32.ofNat lN)), (.int (Int32.ofNat (sN + oN))), (.ref b8)])) _
            exact k
          obtain ⟨_, T27, L27, X27, N27, ⟨rfl, e27⟩, st27⟩ := own_callS X25 hx hZ hown (hw _ (List.mem_of_getElem? (i := 56) rfl)) (hw _ (List.mem_of_getElem? (i := 57) rfl)) (hw _ (List.mem_of_getElem? (i := 58) rfl)) (hw _ (List.mem_of_getElem? (i := 59) rfl)) (by decide) (argsL := [(.ref b8), (.int (Int32.ofNat (sN + oN))), (.int (Int32.ofNat lN)), (.int (3 : Int32)), (.int b16_s0)]) (rest := []) (rm6 l Z a0 hw b8 (Int32.ofNat (sN + oN)) (Int32.ofNat lN) (3 : Int32) b16_s0 k8 (6 : Int32) [c0, c1, c2, c3, c4, c5] T19.heap n0 V_b8_19 (own_atin hs6 ho6 hl6 (by decide))) (W := 0) (by decide) (by decide) (g := (mkF m 270 #[.val (.int p0), .val (.int p1), .val (.int p2), .val (.int p3), .val (.int p4), .val (.int p5), .val (.ref b1), .val (.ref b8), .val (.int b16_s0), .val (.int (Int32.ofNat sN)), .val (.int (Int32.ofNat (6 - sN))), .val (.int (Int32.ofNat oN)), .val (.int (Int32.ofNat lN)), .val (.ref b17), .val (.int act), .val (.int (Int32.ofNat (sN + oN))), .unset] [(.int b16_s0), (.int (3 : Int32)), (.int (Int32.ofNat lN)), (.int (Int32.ofNat (sN + oN))), (.ref b8)])) rfl (by rw [hml]; rfl) pd_4 rfl rfl (by show 2 * 0 + _ ≤ _; exact Nat.le_of_eq rfl) (hb hby at_270) e25 (by decide) (by decide) N25
          refine own_go (T' := T27) (g' := (mkF m 273 #[.val (.int p0), .val (.int p1), .val (.int p2), .val (.int p3), .val (.int p4), .val (.int p5), .val (.ref b1), .val (.ref b8), .val (.int b16_s0), .val (.int (Int32.ofNat sN)), .val (.int (Int32.ofNat (6 - sN))), .val (.int (Int32.ofNat oN)), .val (.int (Int32.ofNat lN)), .val (.ref b17), .val (.int act), .val (.int (Int32.ofNat (sN + oN))), .unset] [(.int (own_at [c0, c1, c2, c3, c4, c5] (Int32.ofNat (sN + oN)) (Int32.ofNat lN) (3 : Int32) b16_s0))])) st27 ?_
          by_cases hm273_28 : (own_at [c0, c1, c2, c3, c4, c5] (Int32.ofNat (sN + oN)) (Int32.ofNat lN) (3 : Int32) b16_s0) = (0 : Int32)
          · refine own_go (T' := T27) (g' := (mkF m 276 #[.val (.int p0), .val (.int p1), .val (.int p2), .val (.int p3), .val (.int p4), .val (.int p5), .val (.ref b1), .val (.ref b8), .val (.int b16_s0), .val (.int (Int32.ofNat sN)), .val (.int (Int32.ofNat (6 - sN))), .val (.int (Int32.ofNat oN)), .val (.int (Int32.ofNat lN)), .val (.ref b17), .val (.int act), .val (.int (Int32.ofNat (sN + oN))), .unset] [])) (fun t k => ?_) ?_
            · refine XS.ifNo X27.here hx rfl (hb hby at_273) rfl ((if0 _ _).trans (teq hm273_28).2) ?_
              exact k
            refine own_go (T' := T27) (g' := (mkF m 285 #[.val (.int p0), .val (.int p1), .val (.int p2), .val (.int p3), .val (.int p4), .val (.int p5), .val (.ref b1), .val (.ref b8), .val (.int b16_s0), .val (.int (Int32.ofNat sN)), .val (.int (Int32.ofNat (6 - sN))), .val (.int (Int32.ofNat oN)), .val (.int (Int32.ofNat lN)), .val (.ref b17), .val (.int act), .val (.int (Int32.ofNat (sN + oN))), .unset] [(.int b16_s0), (.int (4 : Int32)), (.int (Int32.ofNat lN)), (.int (Int32.ofNat (sN + oN))), (.ref b8)])) (fun t k => ?_) ?_
            · show Steps p.tables e below (T27.setTop (mkF m 276 #[.val (.int p0), .val (.int p1), .val (.int p2), .val (.int p3), .val (.int p4), .val (.int p5), .val (.ref b1), .val (.ref b8), .val (.int b16_s0), .val (.int (Int32.ofNat sN)), .val (.int (Int32.ofNat (6 - sN))), .val (.int (Int32.ofNat oN)), .val (.int (Int32.ofNat lN)), .val (.ref b17), .val (.int act), .val (.int (Int32.ofNat (sN + oN))), .unset] [])) t
              refine XS.aload X27.here hx rfl (hb hby at_276) rfl rfl ?_
              show Steps p.tables e below (T27.setTop (mkF m 278 #[.val (.int p0), .val (.int p1), .val (.int p2), .val (.int p3), .val (.int p4), .val (.int p5), .val (.ref b1), .val (.ref b8), .val (.int b16_s0), .val (.int (Int32.ofNat sN)), .val (.int (Int32.ofNat (6 - sN))), .val (.int (Int32.ofNat oN)), .val (.int (Int32.ofNat lN)), .val (.ref b17), .val (.int act), .val (.int (Int32.ofNat (sN + oN))), .unset] [(.ref b8)])) _
              refine XS.iload X27.here hx rfl (hb hby at_278) rfl ?_
              show Steps p.tables e below (T27.setTop (mkF m 280 #[.val (.int p0), .val (.int p1), .val (.int p2), .val (.int p3), .val (.int p4), .val (.int p5), .val (.ref b1), .val (.ref b8), .val (.int b16_s0), .val (.int (Int32.ofNat sN)), .val (.int (Int32.ofNat (6 - sN))), .val (.int (Int32.ofNat oN)), .val (.int (Int32.ofNat lN)), .val (.ref b17), .val (.int act), .val (.int (Int32.ofNat (sN + oN))), .unset] [(.int (Int32.ofNat (sN + oN))), (.ref b8)])) _
              refine XS.iload X27.here hx rfl (hb hby at_280) rfl ?_
              show Steps p.tables e below (T27.setTop (mkF m 282 #[.val (.int p0), .val (.int p1), .val (.int p2), .val (.int p3), .val (.int p4), .val (.int p5), .val (.ref b1), .val (.ref b8), .val (.int b16_s0), .val (.int (Int32.ofNat sN)), .val (.int (Int32.ofNat (6 - sN))), .val (.int (Int32.ofNat oN)), .val (.int (Int32.ofNat lN)), .val (.ref b17), .val (.int act), .val (.int (Int32.ofNat (sN + oN))), .unset] [(.int (Int32.ofNat lN)), (.int (Int32.ofNat (sN + oN))), (.ref b8)])) _
              refine XS.iconst X27.here hx rfl (hb hby at_282) ?_
              show Steps p.tables e below (T27.setTop (mkF m 283 #[.val (.int p0), .val (.int p1), .val (.int p2), .val (.int p3), .val (.int p4), .val (.int p5), .val (.ref b1), .val (.ref b8), .val (.int b16_s0), .val (.int (Int32.ofNat sN)), .val (.int (Int32.ofNat (6 - sN))), .val (.int (Int32.ofNat oN)), .val (.int (Int32.ofNat lN)), .val (.ref b17), .val (.int act), .val (.int (Int32.ofNat (sN + oN))), .unset] [(.int (4 : Int32)), (.int (Int32.ofNat lN)), (.int (Int32.ofNat (sN + oN))), (.ref b8)])) _
              refine XS.iload X27.here hx rfl (hb hby at_283) rfl ?_
              show Steps p.tables e below (T27.setTop (mkF m 285 #[.val (.int p0), .val (.int p1), .val (.int p2), .val (.int p3), .val (.int p4), .val (.int p5), .val (.ref b1), .val (.ref b8), .val (.int b16_s0), .val (.int (Int32.ofNat sN)), .val (.int (Int32.ofNat (6 - sN))), .val (.int (Int32.ofNat oN)), .val (.int (Int32.ofNat lN)), .val (.ref b17), .val (.int act), .val (.int (Int32.ofNat (sN + oN))), .unset] [(.int b16_s0), (.int (4 : Int32)), (.int (Int32.ofNat lN)), (.int (Int32.ofNat (sN + oN))), (.ref b8)])) _
              exact k
            obtain ⟨_, T29, L29, X29, N29, ⟨rfl, e29⟩, st29⟩ := own_callS X27 hx hZ hown (hw _ (List.mem_of_getElem? (i := 56) rfl)) (hw _ (List.mem_of_getElem? (i := 57) rfl)) (hw _ (List.mem_of_getElem? (i := 58) rfl)) (hw _ (List.mem_of_getElem? (i := 59) rfl)) (by decide) (argsL := [(.ref b8), (.int (Int32.ofNat (sN + oN))), (.int (Int32.ofNat lN)), (.int (4 : Int32)), (.int b16_s0)]) (rest := []) (rm6 l Z a0 hw b8 (Int32.ofNat (sN + oN)) (Int32.ofNat lN) (4 : Int32) b16_s0 k8 (6 : Int32) [c0, c1, c2, c3, c4, c5] T19.heap n0 V_b8_19 (own_atin hs6 ho6 hl6 (by decide))) (W := 0) (by decide) (by decide) (g := (mkF m 285 #[.val (.int p0), .val (.int p1), .val (.int p2), .val (.int p3), .val (.int p4), .val (.int p5), .val (.ref b1), .val (.ref b8), .val (.int b16_s0), .val (.int (Int32.ofNat sN)), .val (.int (Int32.ofNat (6 - sN))), .val (.int (Int32.ofNat oN)), .val (.int (Int32.ofNat lN)), .val (.ref b17), .val (.int act), .val (.int (Int32.ofNat (sN + oN))), .unset] [(.int b16_s0), (.int (4 : Int32)), (.int (Int32.ofNat lN)), (.int (Int32.ofNat (sN + oN))), (.ref b8)])) rfl (by rw [hml]; rfl) pd_4 rfl rfl (by show 2 * 0 + _ ≤ _; exact Nat.le_of_eq rfl) (hb hby at_285) e27 (by decide) (by decide) N27
            refine own_go (T' := T29) (g' := (mkF m 288 #[.val (.int p0), .val (.int p1), .val (.int p2), .val (.int p3), .val (.int p4), .val (.int p5), .val (.ref b1), .val (.ref b8), .val (.int b16_s0), .val (.int (Int32.ofNat sN)), .val (.int (Int32.ofNat (6 - sN))), .val (.int (Int32.ofNat oN)), .val (.int (Int32.ofNat lN)), .val (.ref b17), .val (.int act), .val (.int (Int32.ofNat (sN + oN))), .unset] [(.int (own_at [c0, c1, c2, c3, c4, c5] (Int32.ofNat (sN + oN)) (Int32.ofNat lN) (4 : Int32) b16_s0))])) st29 ?_
            by_cases hm288_30 : (own_at [c0, c1, c2, c3, c4, c5] (Int32.ofNat (sN + oN)) (Int32.ofNat lN) (4 : Int32) b16_s0) = (0 : Int32)
            · refine own_go (T' := T29) (g' := (mkF m 291 #[.val (.int p0), .val (.int p1), .val (.int p2), .val (.int p3), .val (.int p4), .val (.int p5), .val (.ref b1), .val (.ref b8), .val (.int b16_s0), .val (.int (Int32.ofNat sN)), .val (.int (Int32.ofNat (6 - sN))), .val (.int (Int32.ofNat oN)), .val (.int (Int32.ofNat lN)), .val (.ref b17), .val (.int act), .val (.int (Int32.ofNat (sN + oN))), .unset] [])) (fun t k => ?_) ?_
              · refine XS.ifNo X29.here hx rfl (hb hby at_288) rfl ((if0 _ _).trans (teq hm288_30).2) ?_
                exact k
              refine own_go (T' := T29) (g' := (mkF m 300 #[.val (.int p0), .val (.int p1), .val (.int p2), .val (.int p3), .val (.int p4), .val (.int p5), .val (.ref b1), .val (.ref b8), .val (.int b16_s0), .val (.int (Int32.ofNat sN)), .val (.int (Int32.ofNat (6 - sN))), .val (.int (Int32.ofNat oN)), .val (.int (Int32.ofNat lN)), .val (.ref b17), .val (.int act), .val (.int (Int32.ofNat (sN + oN))), .unset] [(.int b16_s0), (.int (5 : Int32)), (.int (Int32.ofNat lN)), (.int (Int32.ofNat (sN + oN))), (.ref b8)])) (fun t k => ?_) ?_
              · show Steps p.tables e below (T29.setTop (mkF m 291 #[.val (.int p0), .val (.int p1), .val (.int p2), .val (.int p3), .val (.int p4), .val (.int p5), .val (.ref b1), .val (.ref b8), .val (.int b16_s0), .val (.int (Int32.ofNat sN)), .val (.int (Int32.ofNat (6 - sN))), .val (.int (Int32.ofNat oN)), .val (.int (Int32.ofNat lN)), .val (.ref b17), .val (.int act), .val (.int (Int32.ofNat (sN + oN))), .unset] [])) t
                refine XS.aload X29.here hx rfl (hb hby at_291) rfl rfl ?_
                show Steps p.tables e below (T29.setTop (mkF m 293 #[.val (.int p0), .val (.int p1), .val (.int p2), .val (.int p3), .val (.int p4), .val (.int p5), .val (.ref b1), .val (.ref b8), .val (.int b16_s0), .val (.int (Int32.ofNat sN)), .val (.int (Int32.ofNat (6 - sN))), .val (.int (Int32.ofNat oN)), .val (.int (Int32.ofNat lN)), .val (.ref b17), .val (.int act), .val (.int (Int32.ofNat (sN + oN))), .unset] [(.ref b8)])) _
                refine XS.iload X29.here hx rfl (hb hby at_293) rfl ?_
                show Steps p.tables e below (T29.setTop (mkF m 295 #[.val (.int p0), .val (.int p1), .val (.int p2), .val (.int p3), .val (.int p4), .val (.int p5), .val (.ref b1), .val (.ref b8), .val (.int b16_s0), .val (.int (Int32.ofNat sN)), .val (.int (Int32.ofNat (6 - sN))), .val (.int (Int32.ofNat oN)), .val (.int (Int32.ofNat lN)), .val (.ref b17), .val (.int act), .val (.int (Int32.ofNat (sN + oN))), .unset] [(.int (Int32.ofNat (sN + oN))), (.ref b8)])) _
                refine XS.iload X29.here hx rfl (hb hby at_295) rfl ?_
                show Steps p.tables e below (T29.setTop (mkF m 297 #[.val (.int p0), .val (.int p1), .val (.int p2), .val (.int p3), .val (.int p4), .val (.int p5), .val (.ref b1), .val (.ref b8), .val (.int b16_s0), .val (.int (Int32.ofNat sN)), .val (.int (Int32.ofNat (6 - sN))), .val (.int (Int32.ofNat oN)), .val (.int (Int32.ofNat lN)), .val (.ref b17), .val (.int act), .val (.int (Int32.ofNat (sN + oN))), .unset] [(.int (Int32.ofNat lN)), (.int (Int32.ofNat (sN + oN))), (.ref b8)])) _
                refine XS.iconst X29.here hx rfl (hb hby at_297) ?_
                show Steps p.tables e below (T29.setTop (mkF m 298 #[.val (.int p0), .val (.int p1), .val (.int p2), .val (.int p3), .val (.int p4), .val (.int p5), .val (.ref b1), .val (.ref b8), .val (.int b16_s0), .val (.int (Int32.ofNat sN)), .val (.int (Int32.ofNat (6 - sN))), .val (.int (Int32.ofNat oN)), .val (.int (Int32.ofNat lN)), .val (.ref b17), .val (.int act), .val (.int (Int32.ofNat (sN + oN))), .unset] [(.int (5 : Int32)), (.int (Int32.ofNat lN)), (.int (Int32.ofNat (sN + oN))), (.ref b8)])) _
                refine XS.iload X29.here hx rfl (hb hby at_298) rfl ?_
                show Steps p.tables e below (T29.setTop (mkF m 300 #[.val (.int p0), .val (.int p1), .val (.int p2), .val (.int p3), .val (.int p4), .val (.int p5), .val (.ref b1), .val (.ref b8), .val (.int b16_s0), .val (.int (Int32.ofNat sN)), .val (.int (Int32.ofNat (6 - sN))), .val (.int (Int32.ofNat oN)), .val (.int (Int32.ofNat lN)), .val (.ref b17), .val (.int act), .val (.int (Int32.ofNat (sN + oN))), .unset] [(.int b16_s0), (.int (5 : Int32)), (.int (Int32.ofNat lN)), (.int (Int32.ofNat (sN + oN))), (.ref b8)])) _
                exact k
              obtain ⟨_, T31, L31, X31, N31, ⟨rfl, e31⟩, st31⟩ := own_callS X29 hx hZ hown (hw _ (List.mem_of_getElem? (i := 56) rfl)) (hw _ (List.mem_of_getElem? (i := 57) rfl)) (hw _ (List.mem_of_getElem? (i := 58) rfl)) (hw _ (List.mem_of_getElem? (i := 59) rfl)) (by decide) (argsL := [(.ref b8), (.int (Int32.ofNat (sN + oN))), (.int (Int32.ofNat lN)), (.int (5 : Int32)), (.int b16_s0)]) (rest := []) (rm6 l Z a0 hw b8 (Int32.ofNat (sN + oN)) (Int32.ofNat lN) (5 : Int32) b16_s0 k8 (6 : Int32) [c0, c1, c2, c3, c4, c5] T19.heap n0 V_b8_19 (own_atin hs6 ho6 hl6 (by decide))) (W := 0) (by decide) (by decide) (g := (mkF m 300 #[.val (.int p0), .val (.int p1), .val (.int p2), .val (.int p3), .val (.int p4), .val (.int p5), .val (.ref b1), .val (.ref b8), .val (.int b16_s0), .val (.int (Int32.ofNat sN)), .val (.int (Int32.ofNat (6 - sN))), .val (.int (Int32.ofNat oN)), .val (.int (Int32.ofNat lN)), .val (.ref b17), .val (.int act), .val (.int (Int32.ofNat (sN + oN))), .unset] [(.int b16_s0), (.int (5 : Int32)), (.int (Int32.ofNat lN)), (.int (Int32.ofNat (sN + oN))), (.ref b8)])) rfl (by rw [hml]; rfl) pd_4 rfl rfl (by show 2 * 0 + _ ≤ _; exact Nat.le_of_eq rfl) (hb hby at_300) e29 (by decide) (by decide) N29
              refine own_go (T' := T31) (g' := (mkF m 303 #[.val (.int p0), .val (.int p1), .val (.int p2), .val (.int p3), .val (.int p4), .val (.int p5), .val (.ref b1), .val (.ref b8), .val (.int b16_s0), .val (.int (Int32.ofNat sN)), .val (.int (Int32.ofNat (6 - sN))), .val (.int (Int32.ofNat oN)), .val (.int (Int32.ofNat lN)), .val (.ref b17), .val (.int act), .val (.int (Int32.ofNat (sN + oN))), .unset] [(.int (own_at [c0, c1, c2, c3, c4, c5] (Int32.ofNat (sN + oN)) (Int32.ofNat lN) (5 : Int32) b16_s0))])) st31 ?_
              by_cases hm303_32 : (own_at [c0, c1, c2, c3, c4, c5] (Int32.ofNat (sN + oN)) (Int32.ofNat lN) (5 : Int32) b16_s0) = (0 : Int32)
              · refine own_go (T' := T31) (g' := (mkF m 310 #[.val (.int p0), .val (.int p1), .val (.int p2), .val (.int p3), .val (.int p4), .val (.int p5), .val (.ref b1), .val (.ref b8), .val (.int b16_s0), .val (.int (Int32.ofNat sN)), .val (.int (Int32.ofNat (6 - sN))), .val (.int (Int32.ofNat oN)), .val (.int (Int32.ofNat lN)), .val (.ref b17), .val (.int act), .val (.int (Int32.ofNat (sN + oN))), .unset] [])) (fun t k => ?_) ?_
                · refine XS.ifYes X31.here hx rfl (pc0 := 303) (pc' := 310) rfl (hb hby at_303) rfl ((if0 _ _).trans (teq hm303_32).1) (by decide) (by decide) ?_
                  exact k
                refine own_go (T' := T31) (g' := (mkF m 311 #[.val (.int p0), .val (.int p1), .val (.int p2), .val (.int p3), .val (.int p4), .val (.int p5), .val (.ref b1), .val (.ref b8), .val (.int b16_s0), .val (.int (Int32.ofNat sN)), .val (.int (Int32.ofNat (6 - sN))), .val (.int (Int32.ofNat oN)), .val (.int (Int32.ofNat lN)), .val (.ref b17), .val (.int act), .val (.int (Int32.ofNat (sN + oN))), .unset] [(.int (0 : Int32))])) (fun t k => ?_) ?_
                · show Steps p.tables e below (T31.setTop (mkF m 310 #[.val (.int p0), .val (.int p1), .val (.int p2), .val (.int p3), .val (.int p4), .val (.int p5), .val (.ref b1), .val (.ref b8), .val (.int b16_s0), .val (.int (Int32.ofNat sN)), .val (.int (Int32.ofNat (6 - sN))), .val (.int (Int32.ofNat oN)), .val (.int (Int32.ofNat lN)), .val (.ref b17), .val (.int act), .val (.int (Int32.ofNat (sN + oN))), .unset] [])) t
                  refine XS.iconst X31.here hx rfl (hb hby at_310) ?_
                  show Steps p.tables e below (T31.setTop (mkF m 311 #[.val (.int p0), .val (.int p1), .val (.int p2), .val (.int p3), .val (.int p4), .val (.int p5), .val (.ref b1), .val (.ref b8), .val (.int b16_s0), .val (.int (Int32.ofNat sN)), .val (.int (Int32.ofNat (6 - sN))), .val (.int (Int32.ofNat oN)), .val (.int (Int32.ofNat lN)), .val (.ref b17), .val (.int act), .val (.int (Int32.ofNat (sN + oN))), .unset] [(.int (0 : Int32))])) _
                  exact k
                exact w33 _ _ X31 e31 N31 (0 : Int32) (by rw [if_pos hm228_22, if_pos hm243_24, if_pos hm258_26, if_pos hm273_28, if_pos hm288_30, if_pos hm303_32])
              · refine own_go (T' := T31) (g' := (mkF m 306 #[.val (.int p0), .val (.int p1), .val (.int p2), .val (.int p3), .val (.int p4), .val (.int p5), .val (.ref b1), .val (.ref b8), .val (.int b16_s0), .val (.int (Int32.ofNat sN)), .val (.int (Int32.ofNat (6 - sN))), .val (.int (Int32.ofNat oN)), .val (.int (Int32.ofNat lN)), .val (.ref b17), .val (.int act), .val (.int (Int32.ofNat (sN + oN))), .unset] [])) (fun t k => ?_) ?_
                · refine XS.ifNo X31.here hx rfl (hb hby at_303) rfl ((if0 _ _).trans (feq hm303_32).1) ?_
                  exact k
                refine own_go (T' := T31) (g' := (mkF m 311 #[.val (.int p0), .val (.int p1), .val (.int p2), .val (.int p3), .val (.int p4), .val (.int p5), .val (.ref b1), .val (.ref b8), .val (.int b16_s0), .val (.int (Int32.ofNat sN)), .val (.int (Int32.ofNat (6 - sN))), .val (.int (Int32.ofNat oN)), .val (.int (Int32.ofNat lN)), .val (.ref b17), .val (.int act), .val (.int (Int32.ofNat (sN + oN))), .unset] [(.int (1 : Int32))])) (fun t k => ?_) ?_
                · show Steps p.tables e below (T31.setTop (mkF m 306 #[.val (.int p0), .val (.int p1), .val (.int p2), .val (.int p3), .val (.int p4), .val (.int p5), .val (.ref b1), .val (.ref b8), .val (.int b16_s0), .val (.int (Int32.ofNat sN)), .val (.int (Int32.ofNat (6 - sN))), .val (.int (Int32.ofNat oN)), .val (.int (Int32.ofNat lN)), .val (.ref b17), .val (.int act), .val (.int (Int32.ofNat (sN + oN))), .unset] [])) t
                  refine XS.iconst X31.here hx rfl (hb hby at_306) ?_
                  show Steps p.tables e below (T31.setTop (mkF m 307 #[.val (.int p0), .val (.int p1), .val (.int p2), .val (.int p3), .val (.int p4), .val (.int p5), .val (.ref b1), .val (.ref b8), .val (.int b16_s0), .val (.int (Int32.ofNat sN)), .val (.int (Int32.ofNat (6 - sN))), .val (.int (Int32.ofNat oN)), .val (.int (Int32.ofNat lN)), .val (.ref b17), .val (.int act), .val (.int (Int32.ofNat (sN + oN))), .unset] [(.int (1 : Int32))])) _
                  refine XS.goto X31.here hx rfl (pc0 := 307) (pc' := 311) rfl (hb hby at_307) (by decide) (by decide) ?_
                  show Steps p.tables e below (T31.setTop (mkF m 311 #[.val (.int p0), .val (.int p1), .val (.int p2), .val (.int p3), .val (.int p4), .val (.int p5), .val (.ref b1), .val (.ref b8), .val (.int b16_s0), .val (.int (Int32.ofNat sN)), .val (.int (Int32.ofNat (6 - sN))), .val (.int (Int32.ofNat oN)), .val (.int (Int32.ofNat lN)), .val (.ref b17), .val (.int act), .val (.int (Int32.ofNat (sN + oN))), .unset] [(.int (1 : Int32))])) _
                  exact k
                exact w33 _ _ X31 e31 N31 (1 : Int32) (by rw [if_pos hm228_22, if_pos hm243_24, if_pos hm258_26, if_pos hm273_28, if_pos hm288_30, if_neg hm303_32])
            · refine own_go (T' := T29) (g' := (mkF m 306 #[.val (.int p0), .val (.int p1), .val (.int p2), .val (.int p3), .val (.int p4), .val (.int p5), .val (.ref b1), .val (.ref b8), .val (.int b16_s0), .val (.int (Int32.ofNat sN)), .val (.int (Int32.ofNat (6 - sN))), .val (.int (Int32.ofNat oN)), .val (.int (Int32.ofNat lN)), .val (.ref b17), .val (.int act), .val (.int (Int32.ofNat (sN + oN))), .unset] [])) (fun t k => ?_) ?_
              · refine XS.ifYes X29.here hx rfl (pc0 := 288) (pc' := 306) rfl (hb hby at_288) rfl ((if0 _ _).trans (feq hm288_30).2) (by decide) (by decide) ?_
                exact k
              refine own_go (T' := T29) (g' := (mkF m 311 #[.val (.int p0), .val (.int p1), .val (.int p2), .val (.int p3), .val (.int p4), .val (.int p5), .val (.ref b1), .val (.ref b8), .val (.int b16_s0), .val (.int (Int32.ofNat sN)), .val (.int (Int32.ofNat (6 - sN))), .val (.int (Int32.ofNat oN)), .val (.int (Int32.ofNat lN)), .val (.ref b17), .val (.int act), .val (.int (Int32.ofNat (sN + oN))), .unset] [(.int (1 : Int32))])) (fun t k => ?_) ?_
              · show Steps p.tables e below (T29.setTop (mkF m 306 #[.val (.int p0), .val (.int p1), .val (.int p2), .val (.int p3), .val (.int p4), .val (.int p5), .val (.ref b1), .val (.ref b8), .val (.int b16_s0), .val (.int (Int32.ofNat sN)), .val (.int (Int32.ofNat (6 - sN))), .val (.int (Int32.ofNat oN)), .val (.int (Int32.ofNat lN)), .val (.ref b17), .val (.int act), .val (.int (Int32.ofNat (sN + oN))), .unset] [])) t
                refine XS.iconst X29.here hx rfl (hb hby at_306) ?_
                show Steps p.tables e below (T29.setTop (mkF m 307 #[.val (.int p0), .val (.int p1), .val (.int p2), .val (.int p3), .val (.int p4), .val (.int p5), .val (.ref b1), .val (.ref b8), .val (.int b16_s0), .val (.int (Int32.ofNat sN)), .val (.int (Int32.ofNat (6 - sN))), .val (.int (Int32.ofNat oN)), .val (.int (Int32.ofNat lN)), .val (.ref b17), .val (.int act), .val (.int (Int32.ofNat (sN + oN))), .unset] [(.int (1 : Int32))])) _
                refine XS.goto X29.here hx rfl (pc0 := 307) (pc' := 311) rfl (hb hby at_307) (by decide) (by decide) ?_
                show Steps p.tables e below (T29.setTop (mkF m 311 #[.val (.int p0), .val (.int p1), .val (.int p2), .val (.int p3), .val (.int p4), .val (.int p5), .val (.ref b1), .val (.ref b8), .val (.int b16_s0), .val (.int (Int32.ofNat sN)), .val (.int (Int32.ofNat (6 - sN))), .val (.int (Int32.ofNat oN)), .val (.int (Int32.ofNat lN)), .val (.ref b17), .val (.int act), .val (.int (Int32.ofNat (sN + oN))), .unset] [(.int (1 : Int32))])) _
                exact k
              exact w33 _ _ X29 e29 N29 (1 : Int32) (by rw [if_pos hm228_22, if_pos hm243_24, if_pos hm258_26, if_pos hm273_28, if_neg hm288_30])
          · refine own_go (T' := T27) (g' := (mkF m 306 #[.val (.int p0), .val (.int p1), .val (.int p2), .val (.int p3), .val (.int p4), .val (.int p5), .val (.ref b1), .val (.ref b8), .val (.int b16_s0), .val (.int (Int32.ofNat sN)), .val (.int (Int32.ofNat (6 - sN))), .val (.int (Int32.ofNat oN)), .val (.int (Int32.ofNat lN)), .val (.ref b17), .val (.int act), .val (.int (Int32.ofNat (sN + oN))), .unset] [])) (fun t k => ?_) ?_
            · refine XS.ifYes X27.here hx rfl (pc0 := 273) (pc' := 306) rfl (hb hby at_273) rfl ((if0 _ _).trans (feq hm273_28).2) (by decide) (by decide) ?_
              exact k
            refine own_go (T' := T27) (g' := (mkF m 311 #[.val (.int p0), .val (.int p1), .val (.int p2), .val (.int p3), .val (.int p4), .val (.int p5), .val (.ref b1), .val (.ref b8), .val (.int b16_s0), .val (.int (Int32.ofNat sN)), .val (.int (Int32.ofNat (6 - sN))), .val (.int (Int32.ofNat oN)), .val (.int (Int32.ofNat lN)), .val (.ref b17), .val (.int act), .val (.int (Int32.ofNat (sN + oN))), .unset] [(.int (1 : Int32))])) (fun t k => ?_) ?_
            · show Steps p.tables e below (T27.setTop (mkF m 306 #[.val (.int p0), .val (.int p1), .val (.int p2), .val (.int p3), .val (.int p4), .val (.int p5), .val (.ref b1), .val (.ref b8), .val (.int b16_s0), .val (.int (Int32.ofNat sN)), .val (.int (Int32.ofNat (6 - sN))), .val (.int (Int32.ofNat oN)), .val (.int (Int32.ofNat lN)), .val (.ref b17), .val (.int act), .val (.int (Int32.ofNat (sN + oN))), .unset] [])) t
              refine XS.iconst X27.here hx rfl (hb hby at_306) ?_
              show Steps p.tables e below (T27.setTop (mkF m 307 #[.val (.int p0), .val (.int p1), .val (.int p2), .val (.int p3), .val (.int p4), .val (.int p5), .val (.ref b1), .val (.ref b8), .val (.int b16_s0), .val (.int (Int32.ofNat sN)), .val (.int (Int32.ofNat (6 - sN))), .val (.int (Int32.ofNat oN)), .val (.int (Int32.ofNat lN)), .val (.ref b17), .val (.int act), .val (.int (Int32.ofNat (sN + oN))), .unset] [(.int (1 : Int32))])) _
              refine XS.goto X27.here hx rfl (pc0 := 307) (pc' := 311) rfl (hb hby at_307) (by decide) (by decide) ?_
              show Steps p.tables e below (T27.setTop (mkF m 311 #[.val (.int p0), .val (.int p1), .val (.int p2), .val (.int p3), .val (.int p4), .val (.int p5), .val (.ref b1), .val (.ref b8), .val (.int b16_s0), .val (.int (Int32.ofNat sN)), .val (.int (Int32.ofNat (6 - sN))), .val (.int (Int32.ofNat oN)), .val (.int (Int32.ofNat lN)), .val (.ref b17), .val (.int act), .val (.int (Int32.ofNat (sN + oN))), .unset] [(.int (1 : Int32))])) _
              exact k
            exact w33 _ _ X27 e27 N27 (1 : Int32) (by rw [if_pos hm228_22, if_pos hm243_24, if_pos hm258_26, if_neg hm273_28])
        · refine own_go (T' := T25) (g' := (mkF m 306 #[.val (.int p0), .val (.int p1), .val (.int p2), .val (.int p3), .val (.int p4), .val (.int p5), .val (.ref b1), .val (.ref b8), .val (.int b16_s0), .val (.int (Int32.ofNat sN)), .val (.int (Int32.ofNat (6 - sN))), .val (.int (Int32.ofNat oN)), .val (.int (Int32.ofNat lN)), .val (.ref b17), .val (.int act), .val (.int (Int32.ofNat (sN + oN))), .unset] [])) (fun t k => ?_) ?_
          · refine XS.ifYes X25.here hx rfl (pc0 := 258) (pc' := 306) rfl (hb hby at_258) rfl ((if0 _ _).trans (feq hm258_26).2) (by decide) (by decide) ?_
            exact k
          refine own_go (T' := T25) (g' := (mkF m 311 #[.val (.int p0), .val (.int p1), .val (.int p2), .val (.int p3), .val (.int p4), .val (.int p5), .val (.ref b1), .val (.ref b8), .val (.int b16_s0), .val (.int (Int32.ofNat sN)), .val (.int (Int32.ofNat (6 - sN))), .val (.int (Int32.ofNat oN)), .val (.int (Int32.ofNat lN)), .val (.ref b17), .val (.int act), .val (.int (Int32.ofNat (sN + oN))), .unset] [(.int (1 : Int32))])) (fun t k => ?_) ?_
          · show Steps p.tables e below (T25.setTop (mkF m 306 #[.val (.int p0), .val (.int p1), .val (.int p2), .val (.int p3), .val (.int p4), .val (.int p5), .val (.ref b1), .val (.ref b8), .val (.int b16_s0), .val (.int (Int32.ofNat sN)), .val (.int (Int32.ofNat (6 - sN))), .val (.int (Int32.ofNat oN)), .val (.int (Int32.ofNat lN)), .val (.ref b17), .val (.int act), .val (.int (Int32.ofNat (sN + oN))), .unset] [])) t
            refine XS.iconst X25.here hx rfl (hb hby at_306) ?_
            show Steps p.tables e below (T25.setTop (mkF m 307 #[.val (.int p0), .val (.int p1), .val (.int p2), .val (.int p3), .val (.int p4), .val (.int p5), .val (.ref b1), .val (.ref b8), .val (.int b16_s0), .val (.int (Int32.ofNat sN)), .val (.int (Int32.ofNat (6 - sN))), .val (.int (Int32.ofNat oN)), .val (.int (Int32.ofNat lN)), .val (.ref b17), .val (.int act), .val (.int (Int32.ofNat (sN + oN))), .unset] [(.int (1 : Int32))])) _
            refine XS.goto X25.here hx rfl (pc0 := 307) (pc' := 311) rfl (hb hby at_307) (by decide) (by decide) ?_
            show Steps p.tables e below (T25.setTop (mkF m 311 #[.val (.int p0), .val (.int p1), .val (.int p2), .val (.int p3), .val (.int p4), .val (.int p5), .val (.ref b1), .val (.ref b8), .val (.int b16_s0), .val (.int (Int32.ofNat sN)), .val (.int (Int32.ofNat (6 - sN))), .val (.int (Int32.ofNat oN)), .val (.int (Int32.ofNat lN)), .val (.ref b17), .val (.int act), .val (.int (Int32.ofNat (sN + oN))), .unset] [(.int (1 : Int32))])) _
            exact k
          exact w33 _ _ X25 e25 N25 (1 : Int32) (by rw [if_pos hm228_22, if_pos hm243_24, if_neg hm258_26])
      · refine own_go (T' := T23) (g' := (mkF m 306 #[.val (.int p0), .val (.int p1), .val (.int p2), .val (.int p3), .val (.int p4), .val (.int p5), .val (.ref b1), .val (.ref b8), .val (.int b16_s0), .val (.int (Int32.ofNat sN)), .val (.int (Int32.ofNat (6 - sN))), .val (.int (Int32.ofNat oN)), .val (.int (Int32.ofNat lN)), .val (.ref b17), .val (.int act), .val (.int (Int32.ofNat (sN + oN))), .unset] [])) (fun t k => ?_) ?_
        · refine XS.ifYes X23.here hx rfl (pc0 := 243) (pc' := 306) rfl (hb hby at_243) rfl ((if0 _ _).trans (feq hm243_24).2) (by decide) (by decide) ?_
          exact k
        refine own_go (T' := T23) (g' := (mkF m 311 #[.val (.int p0), .val (.int p1), .val (.int p2), .val (.int p3), .val (.int p4), .val (.int p5), .val (.ref b1), .val (.ref b8), .val (.int b16_s0), .val (.int (Int32.ofNat sN)), .val (.int (Int32.ofNat (6 - sN))), .val (.int (Int32.ofNat oN)), .val (.int (Int32.ofNat lN)), .val (.ref b17), .val (.int act), .val (.int (Int32.ofNat (sN + oN))), .unset] [(.int (1 : Int32))])) (fun t k => ?_) ?_
        · show Steps p.tables e below (T23.setTop (mkF m 306 #[.val (.int p0), .val (.int p1), .val (.int p2), .val (.int p3), .val (.int p4), .val (.int p5), .val (.ref b1), .val (.ref b8), .val (.int b16_s0), .val (.int (Int32.ofNat sN)), .val (.int (Int32.ofNat (6 - sN))), .val (.int (Int32.ofNat oN)), .val (.int (Int32.ofNat lN)), .val (.ref b17), .val (.int act), .val (.int (Int32.ofNat (sN + oN))), .unset] [])) t
          refine XS.iconst X23.here hx rfl (hb hby at_306) ?_
          show Steps p.tables e below (T23.setTop (mkF m 307 #[.val (.int p0), .val (.int p1), .val (.int p2), .val (.int p3), .val (.int p4), .val (.int p5), .val (.ref b1), .val (.ref b8), .val (.int b16_s0), .val (.int (Int32.ofNat sN)), .val (.int (Int32.ofNat (6 - sN))), .val (.int (Int32.ofNat oN)), .val (.int (Int32.ofNat lN)), .val (.ref b17), .val (.int act), .val (.int (Int32.ofNat (sN + oN))), .unset] [(.int (1 : Int32))])) _
          refine XS.goto X23.here hx rfl (pc0 := 307) (pc' := 311) rfl (hb hby at_307) (by decide) (by decide) ?_
          show Steps p.tables e below (T23.setTop (mkF m 311 #[.val (.int p0), .val (.int p1), .val (.int p2), .val (.int p3), .val (.int p4), .val (.int p5), .val (.ref b1), .val (.ref b8), .val (.int b16_s0), .val (.int (Int32.ofNat sN)), .val (.int (Int32.ofNat (6 - sN))), .val (.int (Int32.ofNat oN)), .val (.int (Int32.ofNat lN)), .val (.ref b17), .val (.int act), .val (.int (Int32.ofNat (sN + oN))), .unset] [(.int (1 : Int32))])) _
          exact k
        exact w33 _ _ X23 e23 N23 (1 : Int32) (by rw [if_pos hm228_22, if_neg hm243_24])
    · refine own_go (T' := T21) (g' := (mkF m 306 #[.val (.int p0), .val (.int p1), .val (.int p2), .val (.int p3), .val (.int p4), .val (.int p5), .val (.ref b1), .val (.ref b8), .val (.int b16_s0), .val (.int (Int32.ofNat sN)), .val (.int (Int32.ofNat (6 - sN))), .val (.int (Int32.ofNat oN)), .val (.int (Int32.ofNat lN)), .val (.ref b17), .val (.int act), .val (.int (Int32.ofNat (sN + oN))), .unset] [])) (fun t k => ?_) ?_
      · refine XS.ifYes X21.here hx rfl (pc0 := 228) (pc' := 306) rfl (hb hby at_228) rfl ((if0 _ _).trans (feq hm228_22).2) (by decide) (by decide) ?_
        exact k
      refine own_go (T' := T21) (g' := (mkF m 311 #[.val (.int p0), .val (.int p1), .val (.int p2), .val (.int p3), .val (.int p4), .val (.int p5), .val (.ref b1), .val (.ref b8), .val (.int b16_s0), .val (.int (Int32.ofNat sN)), .val (.int (Int32.ofNat (6 - sN))), .val (.int (Int32.ofNat oN)), .val (.int (Int32.ofNat lN)), .val (.ref b17), .val (.int act), .val (.int (Int32.ofNat (sN + oN))), .unset] [(.int (1 : Int32))])) (fun t k => ?_) ?_
      · show Steps p.tables e below (T21.setTop (mkF m 306 #[.val (.int p0), .val (.int p1), .val (.int p2), .val (.int p3), .val (.int p4), .val (.int p5), .val (.ref b1), .val (.ref b8), .val (.int b16_s0), .val (.int (Int32.ofNat sN)), .val (.int (Int32.ofNat (6 - sN))), .val (.int (Int32.ofNat oN)), .val (.int (Int32.ofNat lN)), .val (.ref b17), .val (.int act), .val (.int (Int32.ofNat (sN + oN))), .unset] [])) t
        refine XS.iconst X21.here hx rfl (hb hby at_306) ?_
        show Steps p.tables e below (T21.setTop (mkF m 307 #[.val (.int p0), .val (.int p1), .val (.int p2), .val (.int p3), .val (.int p4), .val (.int p5), .val (.ref b1), .val (.ref b8), .val (.int b16_s0), .val (.int (Int32.ofNat sN)), .val (.int (Int32.ofNat (6 - sN))), .val (.int (Int32.ofNat oN)), .val (.int (Int32.ofNat lN)), .val (.ref b17), .val (.int act), .val (.int (Int32.ofNat (sN + oN))), .unset] [(.int (1 : Int32))])) _
        refine XS.goto X21.here hx rfl (pc0 := 307) (pc' := 311) rfl (hb hby at_307) (by decide) (by decide) ?_
        show Steps p.tables e below (T21.setTop (mkF m 311 #[.val (.int p0), .val (.int p1), .val (.int p2), .val (.int p3), .val (.int p4), .val (.int p5), .val (.ref b1), .val (.ref b8), .val (.int b16_s0), .val (.int (Int32.ofNat sN)), .val (.int (Int32.ofNat (6 - sN))), .val (.int (Int32.ofNat oN)), .val (.int (Int32.ofNat lN)), .val (.ref b17), .val (.int act), .val (.int (Int32.ofNat (sN + oN))), .unset] [(.int (1 : Int32))])) _
        exact k
      exact w33 _ _ X21 e21 N21 (1 : Int32) (by rw [if_neg hm228_22])
  intro T33 L33 X33 e33 N33 b33_s0 h_b33_s0
  refine own_go (T' := T33) (g' := (mkF m 317 #[.val (.int p0), .val (.int p1), .val (.int p2), .val (.int p3), .val (.int p4), .val (.int p5), .val (.ref b1), .val (.ref b8), .val (.int b16_s0), .val (.int (Int32.ofNat sN)), .val (.int (Int32.ofNat (6 - sN))), .val (.int (Int32.ofNat oN)), .val (.int (Int32.ofNat lN)), .val (.ref b17), .val (.int act), .val (.int (Int32.ofNat (sN + oN))), .val (.int b33_s0)] [(.int b33_s0), (.int act)])) (fun t k => ?_) ?_
  · show Steps p.tables e below (T33.setTop (mkF m 311 #[.val (.int p0), .val (.int p1), .val (.int p2), .val (.int p3), .val (.int p4), .val (.int p5), .val (.ref b1), .val (.ref b8), .val (.int b16_s0), .val (.int (Int32.ofNat sN)), .val (.int (Int32.ofNat (6 - sN))), .val (.int (Int32.ofNat oN)), .val (.int (Int32.ofNat lN)), .val (.ref b17), .val (.int act), .val (.int (Int32.ofNat (sN + oN))), .unset] [(.int b33_s0)])) t
    refine XS.istore X33.here hx rfl (hb hby at_311) rfl (l' := #[.val (.int p0), .val (.int p1), .val (.int p2), .val (.int p3), .val (.int p4), .val (.int p5), .val (.ref b1), .val (.ref b8), .val (.int b16_s0), .val (.int (Int32.ofNat sN)), .val (.int (Int32.ofNat (6 - sN))), .val (.int (Int32.ofNat oN)), .val (.int (Int32.ofNat lN)), .val (.ref b17), .val (.int act), .val (.int (Int32.ofNat (sN + oN))), .val (.int b33_s0)]) rfl ?_
    show Steps p.tables e below (T33.setTop (mkF m 313 #[.val (.int p0), .val (.int p1), .val (.int p2), .val (.int p3), .val (.int p4), .val (.int p5), .val (.ref b1), .val (.ref b8), .val (.int b16_s0), .val (.int (Int32.ofNat sN)), .val (.int (Int32.ofNat (6 - sN))), .val (.int (Int32.ofNat oN)), .val (.int (Int32.ofNat lN)), .val (.ref b17), .val (.int act), .val (.int (Int32.ofNat (sN + oN))), .val (.int b33_s0)] [])) _
    refine XS.iload X33.here hx rfl (hb hby at_313) rfl ?_
    show Steps p.tables e below (T33.setTop (mkF m 315 #[.val (.int p0), .val (.int p1), .val (.int p2), .val (.int p3), .val (.int p4), .val (.int p5), .val (.ref b1), .val (.ref b8), .val (.int b16_s0), .val (.int (Int32.ofNat sN)), .val (.int (Int32.ofNat (6 - sN))), .val (.int (Int32.ofNat oN)), .val (.int (Int32.ofNat lN)), .val (.ref b17), .val (.int act), .val (.int (Int32.ofNat (sN + oN))), .val (.int b33_s0)] [(.int act)])) _
    refine XS.iload X33.here hx rfl (hb hby at_315) rfl ?_
    show Steps p.tables e below (T33.setTop (mkF m 317 #[.val (.int p0), .val (.int p1), .val (.int p2), .val (.int p3), .val (.int p4), .val (.int p5), .val (.ref b1), .val (.ref b8), .val (.int b16_s0), .val (.int (Int32.ofNat sN)), .val (.int (Int32.ofNat (6 - sN))), .val (.int (Int32.ofNat oN)), .val (.int (Int32.ofNat lN)), .val (.ref b17), .val (.int act), .val (.int (Int32.ofNat (sN + oN))), .val (.int b33_s0)] [(.int b33_s0), (.int act)])) _
    exact k
  refine own_go (T' := T33) (g' := (mkF m 325 #[.val (.int p0), .val (.int p1), .val (.int p2), .val (.int p3), .val (.int p4), .val (.int p5), .val (.ref b1), .val (.ref b8), .val (.int b16_s0), .val (.int (Int32.ofNat sN)), .val (.int (Int32.ofNat (6 - sN))), .val (.int (Int32.ofNat oN)), .val (.int (Int32.ofNat lN)), .val (.ref b17), .val (.int act), .val (.int (Int32.ofNat (sN + oN))), .val (.int b33_s0)] [(.int (1 : Int32))])) (fun t k => ?_) ?_
  · show Steps p.tables e below (T33.setTop (mkF m 317 #[.val (.int p0), .val (.int p1), .val (.int p2), .val (.int p3), .val (.int p4), .val (.int p5), .val (.ref b1), .val (.ref b8), .val (.int b16_s0), .val (.int (Int32.ofNat sN)), .val (.int (Int32.ofNat (6 - sN))), .val (.int (Int32.ofNat oN)), .val (.int (Int32.ofNat lN)), .val (.ref b17), .val (.int act), .val (.int (Int32.ofNat (sN + oN))), .val (.int b33_s0)] [(.int b33_s0), (.int act)])) t
    refine XS.icmpNo X33.here hx rfl (hb hby at_317) rfl (teq (own_law hs6 ho6 hl6 h_act h_b33_s0)).2 ?_
    show Steps p.tables e below (T33.setTop (mkF m 320 #[.val (.int p0), .val (.int p1), .val (.int p2), .val (.int p3), .val (.int p4), .val (.int p5), .val (.ref b1), .val (.ref b8), .val (.int b16_s0), .val (.int (Int32.ofNat sN)), .val (.int (Int32.ofNat (6 - sN))), .val (.int (Int32.ofNat oN)), .val (.int (Int32.ofNat lN)), .val (.ref b17), .val (.int act), .val (.int (Int32.ofNat (sN + oN))), .val (.int b33_s0)] [])) _
    refine XS.iconst X33.here hx rfl (hb hby at_320) ?_
    show Steps p.tables e below (T33.setTop (mkF m 321 #[.val (.int p0), .val (.int p1), .val (.int p2), .val (.int p3), .val (.int p4), .val (.int p5), .val (.ref b1), .val (.ref b8), .val (.int b16_s0), .val (.int (Int32.ofNat sN)), .val (.int (Int32.ofNat (6 - sN))), .val (.int (Int32.ofNat oN)), .val (.int (Int32.ofNat lN)), .val (.ref b17), .val (.int act), .val (.int (Int32.ofNat (sN + oN))), .val (.int b33_s0)] [(.int (1 : Int32))])) _
    refine XS.goto X33.here hx rfl (pc0 := 321) (pc' := 325) rfl (hb hby at_321) (by decide) (by decide) ?_
    show Steps p.tables e below (T33.setTop (mkF m 325 #[.val (.int p0), .val (.int p1), .val (.int p2), .val (.int p3), .val (.int p4), .val (.int p5), .val (.ref b1), .val (.ref b8), .val (.int b16_s0), .val (.int (Int32.ofNat sN)), .val (.int (Int32.ofNat (6 - sN))), .val (.int (Int32.ofNat oN)), .val (.int (Int32.ofNat lN)), .val (.ref b17), .val (.int act), .val (.int (Int32.ofNat (sN + oN))), .val (.int b33_s0)] [(.int (1 : Int32))])) _
    exact k
  exact own_retN X33 hx hlk hret (by simp) (hb hby at_325) (by decide) (by decide) N33 ⟨rfl, trivial⟩
set_option maxRecDepth 65536 in
set_option maxHeartbeats 40000000 in
theorem comes_1 {Post : Tables → Env → Array Value → State → Outcome → State → Prop} (hpost : ∀ tb e args s v u, (limb_1_1.after args s (.returned v) u = true ∧ limb_1_2.after args s (.returned v) u = true ∧ True) → FrameEnd s (.returned v) u (Jvm.fieldLocs frame_1_writes args s ++ Jvm.arrayLocs frame_1_arrays args s ++ Jvm.staticLocs frame_1_statics s) 16 128 → Post tb e args s (.returned v) u) :
    ArmFor flags0 classFile x code maxLocals ret World_1 tables_1 room_1 Calls_1 rest_1 Pre_1 Post := by
  intro l hfl _ _ p e ha hc hk s m args below hf hA hF happ hP
  obtain ⟨hcalls, hrest, hpre⟩ := hP
  obtain ⟨-, -, -, hnamed, -, -, -, hat⟩ := (Spec.applies_iff hf).mp happ
  obtain ⟨hg, hn⟩ := and_e (Cond.before_iff.mp (show (Jvm.Cond.and given_1 narrow_1).before args s = true from hpre))
  obtain ⟨h1, g0⟩ := and_e hg
  obtain ⟨k0, g1⟩ := and_e g0
  obtain ⟨k1, g2⟩ := and_e g1
  obtain ⟨k2, g3⟩ := and_e g2
  obtain ⟨k3, g4⟩ := and_e g3
  obtain ⟨k4, g5⟩ := and_e g4
  have k5 := g5
  obtain ⟨w0, w1, w2, w3, w4, w5, rfl⟩ : ∃ w0 w1 w2 w3 w4 w5 : Value, args = #[w0, w1, w2, w3, w4, w5] := by
    have hs : args.size = 6 := by simpa [Cond.value, given_1] using h1
    obtain ⟨L⟩ := args
    match L, hs with
    | [w0, w1, w2, w3, w4, w5], _ => exact ⟨w0, w1, w2, w3, w4, w5, rfl⟩
  have hw := fun d (hd : d ∈ tables_1) => atoms_spec (ws := Jvm.Cond.code x code maxLocals ret :: tables_1) hat d (List.mem_cons_of_mem _ hd)
  obtain ⟨i0, e0⟩ := is_v k0
  obtain rfl : w0 = (.int i0) := Option.some.inj e0
  obtain ⟨i1, e1⟩ := is_v k1
  obtain rfl : w1 = (.int i1) := Option.some.inj e1
  obtain ⟨i2, e2⟩ := is_v k2
  obtain rfl : w2 = (.int i2) := Option.some.inj e2
  obtain ⟨i3, e3⟩ := is_v k3
  obtain rfl : w3 = (.int i3) := Option.some.inj e3
  obtain ⟨i4, e4⟩ := is_v k4
  obtain rfl : w4 = (.int i4) := Option.some.inj e4
  obtain ⟨i5, e5⟩ := is_v k5
  obtain rfl : w5 = (.int i5) := Option.some.inj e5
  obtain ⟨n, o, h1, h2, h3, v, L, rfl, ⟨N, hv⟩, hq⟩ := rm0 l s _ hw i0 i1 i2 i3 i4 i5 s.heap s.heap.size (Nat.le_refl _) p e ha hc hk s m _ below hf ((Spec.applies_iff_loose hf).mp happ).1 ⟨rfl, State.Warmed39.refl s, rfl⟩ trivial
  obtain rfl : v = some (.int 1) := hv.1
  refine ⟨n, _, h1, h2, h3, hpost _ _ _ _ _ _ ⟨Cond.after_iff.mpr rfl, Cond.after_iff.mpr (eq_i res_at (Term.int_eval (1)) rfl), trivial⟩ ⟨hq.1, hq.2.1, (hq.2.2.sift fun y hy => Or.inr (N y hy)).mono (by decide) (by decide)⟩⟩
theorem main_1_1 : Claimed_1_1 := comes_1 fun _ _ _ _ _ _ h hF => ⟨h.1, hF⟩
theorem main_1_2 : Claimed_1_2 := comes_1 fun _ _ _ _ _ _ h hF => ⟨h.2.1, hF⟩
end Jvm.Pilot.@@N@@
namespace Jvm.Pilot.@@N@@
open Jvm Jvm.ClassFile Sem Op Lib Jvm.Free Jvm.Stand Jvm.Pilot.@@N@@.Jvm.D
/-! MADE BY PROGRAM (witnessworld.py) out of the Statement's table words and the real class files: 11 classes; the members and pool entries that the words name. The judged class is class 1, her method 2. -/
namespace start1
open Jvm.ClassFile
def u (s : String) : CpInfo := .utf8 (stringToUtf16 s)
/-- a pool by its gaps: so many unusable entries, then the entry; so many at the end -/
def gap : Nat → List CpInfo → List CpInfo
  | 0, r => r
  | n + 1, r => .unusable :: gap n r
def poolList (es : List (Nat × CpInfo)) (last : Nat) : List CpInfo := es.foldr (fun e r => gap e.1 (e.2 :: r)) (gap last [])
def pool (es : List (Nat × CpInfo)) (last : Nat) : Array CpInfo := ⟨poolList es last⟩
def fileOf (pool : Array CpInfo) (this : Nat) (attrs : Array Attribute := #[]) (ms : Array MethodInfo := #[]) (fl : Nat := 33) (sup : Nat := 0) (ifs : Array Nat := #[]) (fds : Array FieldInfo := #[]) : ClassFile where
  minorVersion := 0
  majorVersion := 65
  constantPool := pool
  accessFlags := fl
  thisClass := this
  superClass := sup
  interfaces := ifs
  fields := fds
  methods := ms
  attributes := attrs
def plain (name : String) (sup : Option ClassId) : Class where
  name := name
  kind := .ordinary
  loader := none
  accessFlags := 33
  super := sup
  interfaces := #[]
  cf := none
  fields := #[]
  methods := #[]
  instanceTypes := #[]
  staticTypes := #[]
  resolved := #[]
  callSites := []
  init := .initialized
  statics := none
  mirror := none

def pool0 : Array CpInfo := pool [(5, u "<init>"), (0, u "()V"), (1, .class_ 10), (1, u "java/lang/Object")] 113

def k0c0 : Code := { maxStack := 0, maxLocals := 1, code := object_method_1_code, exceptionTable := #[], attributes := #[] }
def k0m0 : Method := { name := "<init>", desc := "()V", sig := { parameters := [], returnType := none }, accessFlags := 1, code := some k0c0 }
/-- java/lang/Object -/
def k0 : Class := { plain "java/lang/Object" none with
  accessFlags := 33
  interfaces := #[]
  cf := some (fileOf pool0 8 #[] #[{ accessFlags := 1, nameIndex := 5, descriptorIndex := 6, attributes := #[] }] 33 0 #[] #[])
  fields := #[]
  methods := #[k0m0]
  instanceTypes := #[]
  staticTypes := #[]
  resolved := Array.replicate 124 none
  statics := none }

def pool1 : Array CpInfo := pool [(2, .class_ 4), (1, u "java/lang/Object"), (0, u "<init>"), (0, u "()V"), (0, .integer 2147483647), (0, .class_ 9), (0, u "com/example/virta/virta/Input"), (0, .methodref 8 11), (0, .nameAndType 5 12), (0, u "([C)V"), (0, .methodref 8 14), (0, .nameAndType 15 16), (0, u "skip"), (0, u "(I)V"), (0, .methodref 8 18), (0, .nameAndType 19 20), (0, u "holdsAhead"), (0, u "(IIC)Z"), (0, .methodref 22 23), (0, .class_ 24), (0, .nameAndType 25 26), (0, u "com/example/virta/virta/InputHoldsAheadPinLaw"), (0, u "at"), (0, u "([CIIIC)Z"), (3, u "law"), (0, u "(IIIIII)Z")] 4

def k1m0 : Method := { name := "<init>", desc := "()V", sig := { parameters := [], returnType := none }, accessFlags := 2, code := none }
def k1c1 : Code := { maxStack := 3, maxLocals := 5, code := method_2_code, exceptionTable := #[], attributes := #[] }
def k1m1 : Method := { name := "at", desc := "([CIIIC)Z", sig := { parameters := [(.array .char), .int, .int, .int, .char], returnType := some .boolean }, accessFlags := 10, code := some k1c1 }
def k1c2 : Code := { maxStack := 5, maxLocals := 17, code := code, exceptionTable := #[], attributes := #[] }
def k1m2 : Method := { name := "law", desc := "(IIIIII)Z", sig := { parameters := [.int, .int, .int, .int, .int, .int], returnType := some .boolean }, accessFlags := 9, code := some k1c2 }
/-- com/example/virta/virta/InputHoldsAheadPinLaw -/
def k1 : Class := { plain "com/example/virta/virta/InputHoldsAheadPinLaw" (some 0) with
  accessFlags := 49
  interfaces := #[]
  cf := some (fileOf pool1 22 #[] #[{ accessFlags := 2, nameIndex := 5, descriptorIndex := 6, attributes := #[] }, { accessFlags := 10, nameIndex := 25, descriptorIndex := 26, attributes := #[] }, { accessFlags := 9, nameIndex := 30, descriptorIndex := 31, attributes := #[] }] 49 2 #[] #[])
  fields := #[]
  methods := #[k1m0, k1m1, k1m2]
  instanceTypes := #[]
  staticTypes := #[]
  resolved := Array.replicate 36 none
  statics := none }

def pool2 : Array CpInfo := pool [(1, .methodref 2 3), (0, .class_ 4), (0, .nameAndType 5 6), (0, u "java/lang/Object"), (0, u "<init>"), (0, u "()V"), (0, .fieldref 8 9), (0, .class_ 10), (0, .nameAndType 11 12), (0, u "com/example/virta/virta/Input"), (0, u "line"), (0, u "I"), (0, .fieldref 8 14), (0, .nameAndType 15 12), (0, u "column"), (0, .fieldref 8 17), (0, .nameAndType 18 19), (0, u "atStart"), (0, u "Z"), (0, .fieldref 8 21), (0, .nameAndType 22 23), (0, u "reader"), (0, u "Ljava/io/Reader;"), (0, .fieldref 8 25), (0, .nameAndType 26 27), (0, u "buffer"), (0, u "[C"), (0, .fieldref 8 29), (0, .nameAndType 30 31), (0, u "publicId"), (0, u "Ljava/lang/String;"), (0, .fieldref 8 33), (0, .nameAndType 34 31), (0, u "systemId"), (0, .fieldref 8 36), (0, .nameAndType 37 31), (0, u "base"), (0, .fieldref 8 39), (0, .nameAndType 40 31), (0, u "givenEncoding"), (4, .fieldref 8 46), (0, .nameAndType 47 48), (0, u "digestLanes"), (0, u "[J"), (0, .fieldref 8 50), (0, .nameAndType 51 12), (0, u "checked"), (0, .fieldref 8 53), (0, .nameAndType 54 12), (0, u "limit"), (0, .fieldref 8 56), (0, .nameAndType 57 58), (0, u "checkedSoFar"), (0, u "J"), (0, .fieldref 8 60), (0, .nameAndType 61 19), (0, u "endOfText"), (16, .fieldref 8 79), (0, .nameAndType 80 12), (0, u "position"), (13, u "digestGiven"), (0, u "Ljava/lang/Long;"), (36, u "error"), (14, .methodref 8 148), (0, .nameAndType 149 150), (0, u "skip"), (0, u "(II)V"), (68, u "afterCarriageReturn"), (39, u "EOF"), (2, u "BUFFER_SIZE"), (1, u "BYTE_ORDER_MARK"), (0, u "C"), (0, u "EMPTY_DIGEST"), (0, u "DIGEST_PRIME"), (0, u "DIGEST_LANES"), (1, u "LONG_SPELLING"), (5, u "([C)V"), (10, u "(I)V"), (3, u "holdsAhead"), (0, u "(IIC)Z")] 15

def k2c0 : Code := { maxStack := 3, maxLocals := 2, code := prog_42_method_2_code, exceptionTable := #[], attributes := #[] }
def k2m0 : Method := { name := "<init>", desc := "([C)V", sig := { parameters := [(.array .char)], returnType := none }, accessFlags := 0, code := some k2c0 }
def k2c1 : Code := { maxStack := 3, maxLocals := 2, code := prog_42_method_19_code, exceptionTable := #[], attributes := #[] }
def k2m1 : Method := { name := "skip", desc := "(I)V", sig := { parameters := [.int], returnType := none }, accessFlags := 0, code := some k2c1 }
def k2c2 : Code := { maxStack := 3, maxLocals := 3, code := prog_42_method_20_code, exceptionTable := #[], attributes := #[] }
def k2m2 : Method := { name := "skip", desc := "(II)V", sig := { parameters := [.int, .int], returnType := none }, accessFlags := 0, code := some k2c2 }
def k2c3 : Code := { maxStack := 3, maxLocals := 6, code := prog_42_method_24_code, exceptionTable := #[], attributes := #[] }
def k2m3 : Method := { name := "holdsAhead", desc := "(IIC)Z", sig := { parameters := [.int, .int, .char], returnType := some .boolean }, accessFlags := 0, code := some k2c3 }
/-- com/example/virta/virta/Input -/
def k2 : Class := { plain "com/example/virta/virta/Input" (some 0) with
  accessFlags := 32
  interfaces := #[]
  cf := some (fileOf pool2 8 #[] #[{ accessFlags := 0, nameIndex := 5, descriptorIndex := 276, attributes := #[] }, { accessFlags := 0, nameIndex := 149, descriptorIndex := 287, attributes := #[] }, { accessFlags := 0, nameIndex := 149, descriptorIndex := 150, attributes := #[] }, { accessFlags := 0, nameIndex := 291, descriptorIndex := 292, attributes := #[] }] 32 2 #[] #[{ accessFlags := 24, nameIndex := 259, descriptorIndex := 12, attributes := #[] }, { accessFlags := 26, nameIndex := 262, descriptorIndex := 12, attributes := #[] }, { accessFlags := 26, nameIndex := 264, descriptorIndex := 265, attributes := #[] }, { accessFlags := 26, nameIndex := 266, descriptorIndex := 58, attributes := #[] }, { accessFlags := 26, nameIndex := 267, descriptorIndex := 58, attributes := #[] }, { accessFlags := 26, nameIndex := 268, descriptorIndex := 12, attributes := #[] }, { accessFlags := 26, nameIndex := 270, descriptorIndex := 12, attributes := #[] }, { accessFlags := 18, nameIndex := 22, descriptorIndex := 23, attributes := #[] }, { accessFlags := 18, nameIndex := 26, descriptorIndex := 27, attributes := #[] }, { accessFlags := 18, nameIndex := 30, descriptorIndex := 31, attributes := #[] }, { accessFlags := 18, nameIndex := 34, descriptorIndex := 31, attributes := #[] }, { accessFlags := 18, nameIndex := 37, descriptorIndex := 31, attributes := #[] }, { accessFlags := 18, nameIndex := 40, descriptorIndex := 31, attributes := #[] }, { accessFlags := 18, nameIndex := 47, descriptorIndex := 48, attributes := #[] }, { accessFlags := 2, nameIndex := 80, descriptorIndex := 12, attributes := #[] }, { accessFlags := 2, nameIndex := 51, descriptorIndex := 12, attributes := #[] }, { accessFlags := 2, nameIndex := 54, descriptorIndex := 12, attributes := #[] }, { accessFlags := 2, nameIndex := 11, descriptorIndex := 12, attributes := #[] }, { accessFlags := 2, nameIndex := 15, descriptorIndex := 12, attributes := #[] }, { accessFlags := 2, nameIndex := 57, descriptorIndex := 58, attributes := #[] }, { accessFlags := 2, nameIndex := 18, descriptorIndex := 19, attributes := #[] }, { accessFlags := 2, nameIndex := 219, descriptorIndex := 19, attributes := #[] }, { accessFlags := 2, nameIndex := 61, descriptorIndex := 19, attributes := #[] }, { accessFlags := 2, nameIndex := 132, descriptorIndex := 31, attributes := #[] }, { accessFlags := 2, nameIndex := 94, descriptorIndex := 95, attributes := #[] }])
  fields := #[{ name := "EOF", type := .int, accessFlags := 24, slot := 0, constantValue := 0 }, { name := "BUFFER_SIZE", type := .int, accessFlags := 26, slot := 1, constantValue := 0 }, { name := "BYTE_ORDER_MARK", type := .char, accessFlags := 26, slot := 2, constantValue := 0 }, { name := "EMPTY_DIGEST", type := .long, accessFlags := 26, slot := 3, constantValue := 0 }, { name := "DIGEST_PRIME", type := .long, accessFlags := 26, slot := 4, constantValue := 0 }, { name := "DIGEST_LANES", type := .int, accessFlags := 26, slot := 5, constantValue := 0 }, { name := "LONG_SPELLING", type := .int, accessFlags := 26, slot := 6, constantValue := 0 }, { name := "reader", type := (.object "java/io/Reader"), accessFlags := 18, slot := 0, constantValue := 0 }, { name := "buffer", type := (.array .char), accessFlags := 18, slot := 1, constantValue := 0 }, { name := "publicId", type := (.object "java/lang/String"), accessFlags := 18, slot := 2, constantValue := 0 }, { name := "systemId", type := (.object "java/lang/String"), accessFlags := 18, slot := 3, constantValue := 0 }, { name := "base", type := (.object "java/lang/String"), accessFlags := 18, slot := 4, constantValue := 0 }, { name := "givenEncoding", type := (.object "java/lang/String"), accessFlags := 18, slot := 5, constantValue := 0 }, { name := "digestLanes", type := (.array .long), accessFlags := 18, slot := 6, constantValue := 0 }, { name := "position", type := .int, accessFlags := 2, slot := 7, constantValue := 0 }, { name := "checked", type := .int, accessFlags := 2, slot := 8, constantValue := 0 }, { name := "limit", type := .int, accessFlags := 2, slot := 9, constantValue := 0 }, { name := "line", type := .int, accessFlags := 2, slot := 10, constantValue := 0 }, { name := "column", type := .int, accessFlags := 2, slot := 11, constantValue := 0 }, { name := "checkedSoFar", type := .long, accessFlags := 2, slot := 12, constantValue := 0 }, { name := "atStart", type := .boolean, accessFlags := 2, slot := 13, constantValue := 0 }, { name := "afterCarriageReturn", type := .boolean, accessFlags := 2, slot := 14, constantValue := 0 }, { name := "endOfText", type := .boolean, accessFlags := 2, slot := 15, constantValue := 0 }, { name := "error", type := (.object "java/lang/String"), accessFlags := 2, slot := 16, constantValue := 0 }, { name := "digestGiven", type := (.object "java/lang/Long"), accessFlags := 2, slot := 17, constantValue := 0 }]
  methods := #[k2m0, k2m1, k2m2, k2m3]
  instanceTypes := #[(.object "java/io/Reader"), (.array .char), (.object "java/lang/String"), (.object "java/lang/String"), (.object "java/lang/String"), (.object "java/lang/String"), (.array .long), .int, .int, .int, .int, .int, .long, .boolean, .boolean, .boolean, (.object "java/lang/String"), (.object "java/lang/Long")]
  staticTypes := #[.int, .int, .char, .long, .long, .int, .int]
  resolved := Array.replicate 308 none
  statics := none }

def pool3 : Array CpInfo := pool [(1, u "java/lang/Cloneable"), (0, .class_ 1), (0, u "java/lang/Object"), (0, .class_ 3)] 3

/-- java/lang/Cloneable -/
def k3 : Class := { plain "java/lang/Cloneable" (some 0) with
  accessFlags := 1537
  interfaces := #[]
  cf := some (fileOf pool3 2 #[] #[] 1537 4 #[] #[])
  fields := #[]
  methods := #[]
  instanceTypes := #[]
  staticTypes := #[]
  resolved := Array.replicate 8 none
  statics := none }

def pool4 : Array CpInfo := pool [(1, u "java/io/Serializable"), (0, .class_ 1), (0, u "java/lang/Object"), (0, .class_ 3)] 3

/-- java/io/Serializable -/
def k4 : Class := { plain "java/io/Serializable" (some 0) with
  accessFlags := 1537
  interfaces := #[]
  cf := some (fileOf pool4 2 #[] #[] 1537 4 #[] #[])
  fields := #[]
  methods := #[]
  instanceTypes := #[]
  staticTypes := #[]
  resolved := Array.replicate 8 none
  statics := none }

/-- the primitive byte -/
def k5 : Class := { plain "byte" none with kind := .primitive 'B', accessFlags := 0x411 }
/-- [B -/
def k6 : Class := { plain "[B" (some 0) with kind := .array 5 .byte, interfaces := #[3, 4], accessFlags := 1041 }

/-- the primitive char -/
def k7 : Class := { plain "char" none with kind := .primitive 'C', accessFlags := 0x411 }
/-- [C -/
def k8 : Class := { plain "[C" (some 0) with kind := .array 7 .char, interfaces := #[3, 4], accessFlags := 1041 }

/-- the primitive int -/
def k9 : Class := { plain "int" none with kind := .primitive 'I', accessFlags := 0x411 }
/-- [I -/
def k10 : Class := { plain "[I" (some 0) with kind := .array 9 .int, interfaces := #[3, 4], accessFlags := 1041 }

def heap : Heap := #[]
def classes : Array Class := #[k0, k1, k2, k3, k4, k5, k6, k7, k8, k9, k10]
def interned : List (Array UInt16 × Addr) := []
def slotsUsed : Nat := 0
def theMethod : MethodId := ⟨1, 2⟩
def args0 : Array Value := #[.int 5, .int 6, .int 7, .int 3, .int 258, .int 1]
def aboutOver (below : List Frame) : State where
  vm := { classes := classes, interned := interned.toArray }
  heap := heap
  slotsUsed := slotsUsed
  threads := #[{ frames := .invoking theMethod args0 :: below }]
def below0 : List Frame := [.native { method := ⟨0, 0⟩, args := #[] }]
def about1 : State := aboutOver below0
def p0 : Program := .bare "" "" ""
def e0 : Env := launch0.env 0 0 0
theorem w_frames : about1.frames = Frame.invoking theMethod args0 :: below0 := rfl
set_option maxRecDepth 65536 in
theorem w_args : argsFit about1.vm theMethod args0 = true := by decide +kernel
set_option maxRecDepth 65536 in
theorem w_heap : heapFits about1 = true := by decide +kernel
set_option maxRecDepth 65536 in
theorem w_runnable : about1.curStatus? = some .runnable := by decide +kernel
set_option maxRecDepth 65536 in
theorem w_alone : about1.alone = true := by decide +kernel
set_option maxRecDepth 65536 in
theorem w_named : about1.methodNamed? x = some theMethod := by decide +kernel
set_option maxRecDepth 65536 in
theorem w_hears : about1.hears theMethod below0 = true := by decide +kernel
set_option maxRecDepth 65536 in
theorem w_ripe : about1.ripe theMethod args0 below0 = true := by decide +kernel
theorem w_running : about1.status = .running := rfl
set_option maxRecDepth 65536 in
theorem w_room : about1.hasRoom e0.platform room_1 = true :=
  launch0.hasRoom_least _ room_1 (by decide +kernel) (by decide +kernel) (by decide +kernel) (by decide +kernel) (by decide +kernel) (by decide +kernel)
theorem allAtoms_all (ts : List Jvm.Cond) (a : Array Jvm.Value) (st : Jvm.State) : (allAtoms ts).before a st = ts.all (fun c => c.before a st) := by
  induction ts with
  | nil => rfl
  | cons c t ih =>
    show (Jvm.Cond.and c (allAtoms t)).before a st = _
    rw [Jvm.Cond.before_and, ih, List.all_cons]
def words1 : List Jvm.Cond := Jvm.Cond.code x code maxLocals ret :: tables_1
/-- a 'code' word, met by the world's own term for the bytes: nothing is compared byte by byte -/
theorem code_word {y : MethodName} {bytes : ByteArray} {mx : Nat} {rt : Option FieldType} {a : Array Value} {s : State} {m : MethodId} {meth : Method} {c : Code} (h1 : s.methodNamed? y = some m) (h2 : s.vm.method? m = some meth) (h3 : meth.code = some c) (h4 : c.code = bytes)
    (h5 : (c.maxLocals == mx && c.exceptionTable.isEmpty && decide (c.maxStack ≤ mostOperands) && decide (meth.sig.returnType = rt) && !meth.locks && decide (parseMethodDescriptor y.desc = some meth.sig)) = true) : (Jvm.Cond.code y bytes mx rt).before a s = true := by
  simp only [Bool.and_eq_true, beq_iff_eq, Bool.not_eq_true', decide_eq_true_eq] at h5
  obtain ⟨⟨⟨⟨⟨g1, g2⟩, g3⟩, g4⟩, g5⟩, g6⟩ := h5
  simp [Cond.before, Cond.holds, Cond.value, h1, h2, h3, h4, g1, g2, g3, g4, g5, g6]
def isCode : Jvm.Cond → Bool
  | .code _ _ _ _ => true
  | _ => false
theorem all_split {L : List Jvm.Cond} {P : Jvm.Cond → Bool} (h1 : L.all (fun c => isCode c || P c) = true) (h2 : ∀ c ∈ L.filter isCode, P c = true) : L.all P = true := by
  refine List.all_eq_true.mpr fun c hc => ?_
  have h := List.all_eq_true.mp h1 c hc
  rcases Bool.eq_false_or_eq_true (isCode c) with hi | hi
  · exact h2 c (List.mem_filter.mpr ⟨hc, hi⟩)
  · simpa [hi] using h
set_option maxRecDepth 65536 in
theorem w_c0 : (Jvm.Cond.code x code maxLocals ret).before args0 about1 = true := code_word (m := ⟨1, 2⟩) (meth := k1m2) (c := k1c2) (by decide +kernel) rfl rfl rfl (by decide +kernel)
set_option maxRecDepth 65536 in
theorem w_c1 : (Jvm.Cond.code ({ cls := "com/example/virta/virta/Input", name := "<init>", desc := "([C)V" } : Jvm.MethodName) prog_42_method_2_code (2 : Nat) (Option.none : Option Jvm.ClassFile.FieldType)).before args0 about1 = true := code_word (m := ⟨2, 0⟩) (meth := k2m0) (c := k2c0) (by decide +kernel) rfl rfl rfl (by decide +kernel)
set_option maxRecDepth 65536 in
theorem w_c2 : (Jvm.Cond.code ({ cls := "java/lang/Object", name := "<init>", desc := "()V" } : Jvm.MethodName) object_method_1_code (1 : Nat) (Option.none : Option Jvm.ClassFile.FieldType)).before args0 about1 = true := code_word (m := ⟨0, 0⟩) (meth := k0m0) (c := k0c0) (by decide +kernel) rfl rfl rfl (by decide +kernel)
set_option maxRecDepth 65536 in
theorem w_c3 : (Jvm.Cond.code ({ cls := "com/example/virta/virta/Input", name := "skip", desc := "(I)V" } : Jvm.MethodName) prog_42_method_19_code (2 : Nat) (Option.none : Option Jvm.ClassFile.FieldType)).before args0 about1 = true := code_word (m := ⟨2, 1⟩) (meth := k2m1) (c := k2c1) (by decide +kernel) rfl rfl rfl (by decide +kernel)
set_option maxRecDepth 65536 in
theorem w_c4 : (Jvm.Cond.code ({ cls := "com/example/virta/virta/Input", name := "skip", desc := "(II)V" } : Jvm.MethodName) prog_42_method_20_code (3 : Nat) (Option.none : Option Jvm.ClassFile.FieldType)).before args0 about1 = true := code_word (m := ⟨2, 2⟩) (meth := k2m2) (c := k2c2) (by decide +kernel) rfl rfl rfl (by decide +kernel)
set_option maxRecDepth 65536 in
theorem w_c5 : (Jvm.Cond.code ({ cls := "com/example/virta/virta/Input", name := "holdsAhead", desc := "(IIC)Z" } : Jvm.MethodName) prog_42_method_24_code (6 : Nat) (Option.some Jvm.ClassFile.FieldType.boolean)).before args0 about1 = true := code_word (m := ⟨2, 3⟩) (meth := k2m3) (c := k2c3) (by decide +kernel) rfl rfl rfl (by decide +kernel)
set_option maxRecDepth 65536 in
theorem w_c6 : (Jvm.Cond.code ({ cls := "com/example/virta/virta/InputHoldsAheadPinLaw", name := "at", desc := "([CIIIC)Z" } : Jvm.MethodName) method_2_code (5 : Nat) (Option.some Jvm.ClassFile.FieldType.boolean)).before args0 about1 = true := code_word (m := ⟨1, 1⟩) (meth := k1m1) (c := k1c1) (by decide +kernel) rfl rfl rfl (by decide +kernel)
def codes1 : List Jvm.Cond := [Jvm.Cond.code x code maxLocals ret, Jvm.Cond.code ({ cls := "com/example/virta/virta/Input", name := "<init>", desc := "([C)V" } : Jvm.MethodName) prog_42_method_2_code (2 : Nat) (Option.none : Option Jvm.ClassFile.FieldType), Jvm.Cond.code ({ cls := "java/lang/Object", name := "<init>", desc := "()V" } : Jvm.MethodName) object_method_1_code (1 : Nat) (Option.none : Option Jvm.ClassFile.FieldType), Jvm.Cond.code ({ cls := "com/example/virta/virta/Input", name := "skip", desc := "(I)V" } : Jvm.MethodName) prog_42_method_19_code (2 : Nat) (Option.none : Option Jvm.ClassFile.FieldType), Jvm.Cond.code ({ cls := "com/example/virta/virta/Input", name := "skip", desc := "(II)V" } : Jvm.MethodName) prog_42_method_20_code (3 : Nat) (Option.none : Option Jvm.ClassFile.FieldType), Jvm.Cond.code ({ cls := "com/example/virta/virta/Input", name := "holdsAhead", desc := "(IIC)Z" } : Jvm.MethodName) prog_42_method_24_code (6 : Nat) (Option.some Jvm.ClassFile.FieldType.boolean), Jvm.Cond.code ({ cls := "com/example/virta/virta/InputHoldsAheadPinLaw", name := "at", desc := "([CIIIC)Z" } : Jvm.MethodName) method_2_code (5 : Nat) (Option.some Jvm.ClassFile.FieldType.boolean)]
set_option maxRecDepth 65536 in
theorem codes_eq : words1.filter isCode = codes1 := rfl
theorem w_codes : ∀ c ∈ words1.filter isCode, c.before args0 about1 = true := by
  rw [codes_eq]
  intro c hc
  simp only [codes1, List.mem_cons, List.not_mem_nil, or_false] at hc
  rcases hc with rfl | rfl | rfl | rfl | rfl | rfl | rfl
  · exact w_c0
  · exact w_c1
  · exact w_c2
  · exact w_c3
  · exact w_c4
  · exact w_c5
  · exact w_c6
set_option maxRecDepth 65536 in
theorem w_t1 : (words1.take 24).all (fun c => isCode c || c.before args0 about1) = true := by decide +kernel
set_option maxRecDepth 65536 in
theorem w_t2 : ((words1.drop 24).take 24).all (fun c => isCode c || c.before args0 about1) = true := by decide +kernel
set_option maxRecDepth 65536 in
theorem w_t3 : ((words1.drop 24).drop 24).all (fun c => isCode c || c.before args0 about1) = true := by decide +kernel
theorem w_tables : (allAtoms (Jvm.Cond.code x code maxLocals ret :: tables_1)).before args0 about1 = true := by
  rw [allAtoms_all]
  show words1.all (fun c => c.before args0 about1) = true
  refine all_split ?_ w_codes
  rw [← List.take_append_drop 24 words1, List.all_append, w_t1, ← List.take_append_drop 24 (words1.drop 24), List.all_append, w_t2, w_t3]
  rfl
set_option maxRecDepth 65536 in
theorem w_case : (Jvm.Cond.and given_1 narrow_1).before args0 about1 = true := by decide +kernel
theorem w_applies : (headSpec (Jvm.Cond.code x code maxLocals ret :: tables_1) room_1).applies x e0.platform about1 = true :=
  (Spec.applies_iff w_frames).mpr ⟨w_running, w_runnable, w_alone, w_named, w_hears, w_ripe, w_room, w_tables⟩
theorem atStart : AtStart classFile x code maxLocals ret World_1 tables_1 room_1 Calls_1 rest_1 Pre_1 launch0 p0 e0 about1 theMethod args0 below0 :=
  ⟨lists_1, trivial, launch0.admits_env _ _ _, launch0.least_env, fairChoices_fair.cas, fairChoices_fair.clock, w_frames, w_args, w_heap, w_applies, trivial, trivial, w_case⟩
end start1
theorem witness_1 : WitnessClaimed_1 := ⟨start1.p0, start1.e0, start1.about1, start1.theMethod, start1.args0, start1.below0, start1.atStart⟩
end Jvm.Pilot.@@N@@
