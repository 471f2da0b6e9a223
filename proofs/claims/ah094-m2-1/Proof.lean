import JvmDerived
import JvmDerived.Pilot.@@N@@Statement
import JvmDerived.Pilot.@@N@@Code
set_option linter.unusedVariables false
set_option linter.unusedSimpArgs false
namespace Jvm.Pilot.@@N@@
open Jvm Jvm.ClassFile Sem Op Lib Jvm.Free Jvm.Stand Jvm.LawKit Jvm.RoadKit Bundle Jvm.Pilot.@@N@@.Jvm.D
/-! the walk's own small kit: a run that ends in a return (own_Ends), a method's contract (own_Con), one step (own_go), the returns, the calls -/
section Own
variable {p : Program} {l : Launch} {e : Env} {R : Room} {s : State} {m : MethodId} {args : Array Value} {below : List Frame} {meth : Method} {c : Code} {T : State} {locs : List Loc} {cells slots : Nat} {Z : State} {a0 : Array Value} {h : Heap} {n0 kc ks : Nat}
def own_Ends (p : Program) (e : Env) (below : List Frame) (s : State) (n0 kc ks : Nat) (T : State) (g : JFrame) (Q : Option Value → Heap → Prop) : Prop :=
  ∃ s₂ o, Steps p.tables e below (T.setTop g) s₂ ∧ s₂.status = .running ∧ Ended s₂ below o ∧ ∃ v L, o = .returned v ∧ (Fr n0 L ∧ Q v s₂.heap) ∧ FrameEnd s o s₂ L kc ks
theorem own_go {T' : State} {g g' : JFrame} {Q : Option Value → Heap → Prop} (k : ∀ t, Steps p.tables e below (T'.setTop g') t → Steps p.tables e below (T.setTop g) t) (q : own_Ends p e below s n0 kc ks T' g' Q) : own_Ends p e below s n0 kc ks T g Q := by
  obtain ⟨s₂, o, h1, r⟩ := q
  exact ⟨s₂, o, k _ h1, r⟩
theorem own_mono {g : JFrame} {Q Q' : Option Value → Heap → Prop} (q : own_Ends p e below s n0 kc ks T g Q) (i : ∀ v h, Q v h → Q' v h) : own_Ends p e below s n0 kc ks T g Q' := by
  obtain ⟨s₂, o, h1, h2, h3, v, L, h4, ⟨h5, h6⟩, h7⟩ := q
  exact ⟨s₂, o, h1, h2, h3, v, L, h4, ⟨h5, i _ _ h6⟩, h7⟩
theorem own_retW (X : Stand p l e R s m args below meth c T locs cells slots) (hx : p.tables.exec = Jvm.exec) (hlk : meth.locks = false) {pc : Nat} {Ls : Array Slot} {w : Value} {t : FieldType} {i : Instr} {rest : List Value} (hret : meth.sig.returnType = some t) (hn : narrow t w = w)
    (hi : (i = .ireturn ∧ (t = .int ∨ t = .boolean ∨ t = .byte ∨ t = .char ∨ t = .short) ∧ ∃ z, w = .int z) ∨ (i = .lreturn ∧ t = .long ∧ ∃ z, w = .long z) ∨ (i = .dreturn ∧ t = .double ∧ ∃ z, w = .double z) ∨ (i = .freturn ∧ t = .float ∧ ∃ z, w = .float z) ∨ (i = .areturn ∧ t.isReference = true ∧ w.isRef = true))
    (hd : decode c.code pc = .ok (i, 1)) {Q : Option Value → Heap → Prop} (hc : cells ≤ kc) (hs : slots ≤ ks) (N : Fr n0 locs) (q : Q (some w) T.heap) : own_Ends p e below s n0 kc ks T (mkF m pc Ls (w :: rest)) Q := by
  obtain ⟨fs, hr, hrun, hended, hW, hsame⟩ := X.leave (v := some w) (fun h => by rw [hret] at h; cases h) hlk
  exact ⟨_, _, retOut X hx hret hn hi hd hr, hrun, hended, _, _, rfl, ⟨N, q⟩, ⟨_, rfl⟩, hW, hsame.mono hc hs⟩
theorem own_retI (X : Stand p l e R s m args below meth c T locs cells slots) (hx : p.tables.exec = Jvm.exec) (hlk : meth.locks = false) {pc : Nat} {Ls : Array Slot} {z : Int32} {rest : List Value} (hret : meth.sig.returnType = some .int)
    (hd : decode c.code pc = .ok (.ireturn, 1)) {Q : Option Value → Heap → Prop} (hc : cells ≤ kc) (hs : slots ≤ ks) (N : Fr n0 locs) (q : Q (some (.int z)) T.heap) : own_Ends p e below s n0 kc ks T (mkF m pc Ls (.int z :: rest)) Q :=
  own_retW X hx hlk hret rfl (Or.inl ⟨rfl, Or.inl rfl, z, rfl⟩) hd hc hs N q
theorem own_retJ (X : Stand p l e R s m args below meth c T locs cells slots) (hx : p.tables.exec = Jvm.exec) (hlk : meth.locks = false) {pc : Nat} {Ls : Array Slot} {z : Int64} {rest : List Value} (hret : meth.sig.returnType = some .long)
    (hd : decode c.code pc = .ok (.lreturn, 1)) {Q : Option Value → Heap → Prop} (hc : cells ≤ kc) (hs : slots ≤ ks) (N : Fr n0 locs) (q : Q (some (.long z)) T.heap) : own_Ends p e below s n0 kc ks T (mkF m pc Ls (.long z :: rest)) Q :=
  own_retW X hx hlk hret rfl (Or.inr (Or.inl ⟨rfl, rfl, z, rfl⟩)) hd hc hs N q
theorem own_retA (X : Stand p l e R s m args below meth c T locs cells slots) (hx : p.tables.exec = Jvm.exec) (hlk : meth.locks = false) {pc : Nat} {Ls : Array Slot} {a : Addr} {t : FieldType} {rest : List Value} (hret : meth.sig.returnType = some t) (ht : t.isReference = true) (hn : narrow t (.ref a) = .ref a)
    (hd : decode c.code pc = .ok (.areturn, 1)) {Q : Option Value → Heap → Prop} (hc : cells ≤ kc) (hs : slots ≤ ks) (N : Fr n0 locs) (q : Q (some (.ref a)) T.heap) : own_Ends p e below s n0 kc ks T (mkF m pc Ls (.ref a :: rest)) Q :=
  own_retW X hx hlk hret hn (Or.inr (Or.inr (Or.inr (Or.inr ⟨rfl, ht, rfl⟩)))) hd hc hs N q
theorem own_retN (X : Stand p l e R s m args below meth c T locs cells slots) (hx : p.tables.exec = Jvm.exec) (hlk : meth.locks = false) {pc : Nat} {Ls : Array Slot} {z : Int32} {t : FieldType} {rest : List Value} (hret : meth.sig.returnType = some t) (ht : t = .boolean ∨ t = .byte ∨ t = .char ∨ t = .short)
    (hd : decode c.code pc = .ok (.ireturn, 1)) {Q : Option Value → Heap → Prop} (hc : cells ≤ kc) (hs : slots ≤ ks) (N : Fr n0 locs) (q : Q (some (.int (nar t z))) T.heap) : own_Ends p e below s n0 kc ks T (mkF m pc Ls (.int z :: rest)) Q := by
  obtain ⟨fs, hr, hrun, hended, hW, hsame⟩ := X.leave (v := some (.int (nar t z))) (fun h => by rw [hret] at h; cases h) hlk
  exact ⟨_, _, retN X hx hret ht hd hr, hrun, hended, _, _, rfl, ⟨N, q⟩, ⟨_, rfl⟩, hW, hsame.mono hc hs⟩
theorem own_retV (X : Stand p l e R s m args below meth c T locs cells slots) (hx : p.tables.exec = Jvm.exec) (hlk : meth.locks = false) {pc : Nat} {Ls : Array Slot} (hret : meth.sig.returnType = none)
    (hd : decode c.code pc = .ok (.return_, 1)) {Q : Option Value → Heap → Prop} (hc : cells ≤ kc) (hs : slots ≤ ks) (N : Fr n0 locs) (q : Q none T.heap) : own_Ends p e below s n0 kc ks T (mkF m pc Ls []) Q := by
  obtain ⟨fs, hr, hrun, hended, hW, hsame⟩ := X.leave (v := none) (fun _ => rfl) hlk
  exact ⟨_, _, X.returnOut hx hret hd hr, hrun, hended, _, _, rfl, ⟨N, q⟩, ⟨_, rfl⟩, hW, hsame.mono hc hs⟩
def own_Con (ws : List Jvm.Cond) (l : Launch) (Z : State) (y : MethodName) (bytes : ByteArray) (maxL : Nat) (ret : Option FieldType) (rm : Room) (n0 : Nat) (as' : Array Value) (h : Heap) (Q : Option Value → Heap → Prop) : Prop :=
  MetFree l y (head1 (Jvm.Cond.code y bytes maxL ret :: ws) rm) (fun a U => a = as' ∧ Z.Warmed39 U.vm ∧ U.heap = h) (fun _ _ _ _ _ => True) (fun _ U o U' => ∃ v L, o = .returned v ∧ (Fr n0 L ∧ Q v U'.heap) ∧ FrameEnd U o U' L rm.cells rm.slots)
theorem own_body {ws : List Jvm.Cond} {y : MethodName} {bytes : ByteArray} {maxL : Nat} {ret : Option FieldType} {rm : Room} {as' : Array Value} {Q : Option Value → Heap → Prop} (hy : plainFor y = true) (fr : MethodId → JFrame) (hfr : ∀ m, entryFrame m as' maxL = fr m)
    (H : ∀ (p : Program) (e : Env) (s : State) (m : MethodId) (below : List Frame) (meth : Method) (c : Code) (s₁ : State), p.tables.exec = Jvm.exec → c.code = bytes → c.maxLocals = maxL → s.vm.findClass y.cls = some m.cls → meth.name = y.name → Z.Warmed39 s.vm → meth.sig.returnType = ret → meth.locks = false →
      Stand p l e rm s m as' below meth c s₁ [] 0 0 → s₁.heap = h → Fr n0 [] → own_Ends p e below s n0 rm.cells rm.slots s₁ (fr m) Q) : own_Con ws l Z y bytes maxL ret rm n0 as' h Q := by
  refine MetFree.of_bodySF hy hisR ?_
  intro p e s m args below meth c s₁ Bd hml0 hP hK
  obtain ⟨rfl, hZ, hh⟩ := hP
  have E := H p e s m below meth c s₁ Bd.exec Bd.bytes hml0 (findClass_of_methodNamed Bd.named) (name_of_methodNamed Bd.named Bd.method).1 hZ Bd.returns Bd.notSynchronized (Stand.of_body Bd) (by rw [← hh, Bd.state]; rfl) (Fr.nil n0)
  rw [← hfr m] at E
  exact E
theorem own_callS (X : Stand p l e R s m args below meth c T locs cells slots) (hx : p.tables.exec = Jvm.exec) (hZ : Z.Warmed39 s.vm) {own : String} {index : Nat} {y : MethodName} {bytes : ByteArray} {maxL : Nat} {ret : Option FieldType}
    (hown : s.vm.findClass own = some m.cls) (w1 : (Jvm.Cond.methodLink own index y).before a0 Z = true) (w2 : (Jvm.Cond.static y).before a0 Z = true) (w3 : (Jvm.Cond.initialized y.cls).before a0 Z = true) (w4 : (Jvm.Cond.code y bytes maxL ret).before a0 Z = true)
    (hy : y.cls ≠ "java/lang/invoke/MethodHandle" ∧ y.cls ≠ "java/lang/invoke/VarHandle") {argsL rest : List Value} {Q : Option Value → Heap → Prop} {rm : Room} (hM : own_Con [] l Z y bytes maxL ret rm n0 argsL.toArray h Q) {W : Nat} (hf : rm.frames + 1 ≤ R.frames) (hl : W + (maxL + 11) + rm.locals ≤ R.locals)
    {g : JFrame} (hg : g.method = m) (hsize : g.locals.size = c.maxLocals) {ps : List FieldType} {r : Option FieldType} (hpd : parseMethodDescriptor y.desc = some ⟨ps, r⟩) (hlen : argsL.length = ps.length) (hstack : g.stack = argsL.reverse ++ rest) (hW : 2 * g.monitorRoom + (rest.map fun v => v.category).sum ≤ W)
    (hd : decode c.code g.pc = .ok (.invokestatic index, 3)) (eT : T.heap = h) (hc : cells + rm.cells ≤ R.cells) (hs : slots + rm.slots ≤ R.slots) (N : Fr n0 locs) :
    ∃ v T' L', Stand p l e R s m args below meth c T' L' (cells + rm.cells) (slots + rm.slots) ∧ Fr n0 L' ∧ Q v T'.heap ∧ ∀ t, Steps p.tables e below (T'.setTop { g with pc := g.pc + 3, stack := v.toList ++ rest }) t → Steps p.tables e below (T.setTop g) t := by
  obtain ⟨v, _, ⟨T', L', k', n'⟩, -, X', ⟨Lc, ⟨hN, hQ⟩, l', y', z'⟩, st⟩ := Jvm.LawKit.callS X hx hown (mvT hZ w1) (mvT hZ w2) (mvT hZ w3) (mvT hZ w4) hy (backOf (Q := fun v h L => Fr n0 L ∧ Q v h) (W := W) hM hZ w4 w3 hf hl) hg hsize (lenOf hpd hlen) hstack hW hd (fun _ _ => ⟨rfl, eT, hc, hs⟩)
  dsimp only [Pt.U, Pt.locs, Pt.cells, Pt.slots] at X' l' y' z' st hQ
  subst l' y' z'
  exact ⟨v, T', _, X', Fr.app N hN, hQ, st⟩
theorem own_callI (X : Stand p l e R s m args below meth c T locs cells slots) (hx : p.tables.exec = Jvm.exec) (hZ : Z.Warmed39 s.vm) {own : String} {index : Nat} {y : MethodName} {bytes : ByteArray} {maxL : Nat}
    (hy1 : y.name = "<init>") (hown : s.vm.findClass own = some m.cls) (w1 : (Jvm.Cond.methodLink own index y).before a0 Z = true) (w2 : (Jvm.Cond.instanceMethod y).before a0 Z = true) (w3 : (Jvm.Cond.initialized y.cls).before a0 Z = true) (w4 : (Jvm.Cond.code y bytes maxL none).before a0 Z = true)
    (hy : y.cls ≠ "java/lang/invoke/MethodHandle" ∧ y.cls ≠ "java/lang/invoke/VarHandle") {a : Addr} {argsL rest : List Value} {Q : Option Value → Heap → Prop} {rm : Room} (hM : own_Con [] l Z y bytes maxL none rm n0 (.ref a :: argsL).toArray h Q) {W : Nat} (hf : rm.frames + 1 ≤ R.frames) (hl : W + (maxL + 11) + rm.locals ≤ R.locals)
    {g : JFrame} (hg : g.method = m) (hsize : g.locals.size = c.maxLocals) {ps : List FieldType} {r : Option FieldType} (hpd : parseMethodDescriptor y.desc = some ⟨ps, r⟩) (hlen : argsL.length = ps.length) (hstack : g.stack = argsL.reverse ++ .ref a :: rest) (hW : 2 * g.monitorRoom + (rest.map fun v => v.category).sum ≤ W)
    (hd : decode c.code g.pc = .ok (.invokespecial index, 3)) (eT : T.heap = h) (hc : cells + rm.cells ≤ R.cells) (hs : slots + rm.slots ≤ R.slots) (N : Fr n0 locs) :
    ∃ v T' L', Stand p l e R s m args below meth c T' L' (cells + rm.cells) (slots + rm.slots) ∧ Fr n0 L' ∧ Q v T'.heap ∧ ∀ t, Steps p.tables e below (T'.setTop { g with pc := g.pc + 3, stack := v.toList ++ rest }) t → Steps p.tables e below (T.setTop g) t := by
  obtain ⟨v, _, ⟨T', L', k', n'⟩, -, X', ⟨Lc, ⟨hN, hQ⟩, l', y', z'⟩, st⟩ := X.specialBack hx hy1 hown (mvT hZ w1) (mvT hZ w2) (mvT hZ w4) hy (backOf (Q := fun v h L => Fr n0 L ∧ Q v h) (W := W) hM hZ w4 w3 hf hl) hg hsize (Steps.refl _) (lenOf hpd hlen) hstack hW hd (fun _ _ => ⟨rfl, eT, hc, hs⟩)
  dsimp only [Pt.U, Pt.locs, Pt.cells, Pt.slots] at X' l' y' z' st hQ
  subst l' y' z'
  exact ⟨v, T', _, X', Fr.app N hN, hQ, fun t k => st.trans k⟩
theorem own_callV (X : Stand p l e R s m args below meth c T locs cells slots) (hx : p.tables.exec = Jvm.exec) (hZ : Z.Warmed39 s.vm) {own C : String} {index : Nat} {y : MethodName} {bytes : ByteArray} {maxL : Nat} {ret : Option FieldType}
    (hown : s.vm.findClass own = some m.cls) (w1 : (Jvm.Cond.methodLink own index y).before a0 Z = true) (wd : (Jvm.Cond.declares y).before a0 Z = true) (ws : (Jvm.Cond.selects C y y).before a0 Z = true) (w2 : (Jvm.Cond.instanceMethod y).before a0 Z = true) (w3 : (Jvm.Cond.initialized y.cls).before a0 Z = true) (w4 : (Jvm.Cond.code y bytes maxL ret).before a0 Z = true)
    (hy : y.cls ≠ "java/lang/invoke/MethodHandle" ∧ y.cls ≠ "java/lang/invoke/VarHandle") {a : Addr} {argsL rest : List Value} {Q : Option Value → Heap → Prop} {rm : Room} (hM : own_Con [] l Z y bytes maxL ret rm n0 (.ref a :: argsL).toArray h Q) {W : Nat} (hf : rm.frames + 1 ≤ R.frames) (hl : W + (maxL + 11) + rm.locals ≤ R.locals)
    (E : Exa Z h a C) {g : JFrame} (hg : g.method = m) (hsize : g.locals.size = c.maxLocals) {ps : List FieldType} {r : Option FieldType} (hpd : parseMethodDescriptor y.desc = some ⟨ps, r⟩) (hlen : argsL.length = ps.length) (hstack : g.stack = argsL.reverse ++ .ref a :: rest) (hW : 2 * g.monitorRoom + (rest.map fun v => v.category).sum ≤ W)
    (hd : decode c.code g.pc = .ok (.invokevirtual index, 3)) (eT : T.heap = h) (hc : cells + rm.cells ≤ R.cells) (hs : slots + rm.slots ≤ R.slots) (N : Fr n0 locs) :
    ∃ v T' L', Stand p l e R s m args below meth c T' L' (cells + rm.cells) (slots + rm.slots) ∧ Fr n0 L' ∧ Q v T'.heap ∧ ∀ t, Steps p.tables e below (T'.setTop { g with pc := g.pc + 3, stack := v.toList ++ rest }) t → Steps p.tables e below (T.setTop g) t := by
  obtain ⟨cq, kq, qa, qb, qc⟩ := isOf hZ eT E
  obtain ⟨v, _, ⟨T', L', k', n'⟩, -, X', ⟨Lc, ⟨hN, hQ⟩, l', y', z'⟩, st⟩ := X.virtualBack hx (z := y) hown (mvT hZ w1) (mvT hZ wd) (notFace_of_selects (args := #[]) (mvT hZ ws)) (mvT hZ ws) (mvT hZ w2) hy (backOf (Q := fun v h L => Fr n0 L ∧ Q v h) (W := W) hM hZ w4 w3 hf hl) qa qc hg hsize (Steps.refl _) (lenOf hpd hlen) hstack hW hd (fun _ _ => ⟨rfl, eT, hc, hs⟩)
  dsimp only [Pt.U, Pt.locs, Pt.cells, Pt.slots] at X' l' y' z' st hQ
  subst l' y' z'
  exact ⟨v, T', _, X', Fr.app N hN, hQ, fun t k => st.trans k⟩
/-! arrays by their values -/
theorem own_ldI (X : Stand p l e R s m args below meth c T locs cells slots) (hx : p.tables.exec = Jvm.exec) (hZ : Z.Warmed39 s.vm) (eT : T.heap = h) {a : Addr} {k : ClassId} {n : Int32} {vs : List Value} {d : Value} (V : Arv Z h a k .int n vs d) {j : Int32} (hj : ¬ j < 0 ∧ j < n) {v : Value} (hv : vs.getD j.toNatClampNeg d = v)
    {g : JFrame} (hg : g.method = m) {rest : List Value} (hs : g.stack = .int j :: .ref a :: rest) (hd : decode c.code g.pc = .ok (.iaload, 1)) : ∀ t, Steps p.tables e below (T.setTop { g with pc := g.pc + 1, stack := v :: rest }) t → Steps p.tables e below (T.setTop g) t := by
  obtain ⟨cl, Ar, -, S, M, H, G⟩ := V
  have hin := inb_of S hj
  exact fun t k => X.iaload hx (by rw [eT]; exact Ar.1) (State.isArrayOf_alike hZ.alike Ar.2.1) Ar.2.2 hin (H.at hin hv) hg hs hd t k
theorem own_ldJ (X : Stand p l e R s m args below meth c T locs cells slots) (hx : p.tables.exec = Jvm.exec) (hZ : Z.Warmed39 s.vm) (eT : T.heap = h) {a : Addr} {k : ClassId} {n : Int32} {vs : List Value} {d : Value} (V : Arv Z h a k .long n vs d) {j : Int32} (hj : ¬ j < 0 ∧ j < n) {v : Value} (hv : vs.getD j.toNatClampNeg d = v)
    {g : JFrame} (hg : g.method = m) {rest : List Value} (hs : g.stack = .int j :: .ref a :: rest) (hd : decode c.code g.pc = .ok (.laload, 1)) : ∀ t, Steps p.tables e below (T.setTop { g with pc := g.pc + 1, stack := v :: rest }) t → Steps p.tables e below (T.setTop g) t := by
  obtain ⟨cl, Ar, -, S, M, H, G⟩ := V
  have hin := inb_of S hj
  exact fun t k => X.laload hx (by rw [eT]; exact Ar.1) (State.isArrayOf_alike hZ.alike Ar.2.1) Ar.2.2 hin (H.at hin hv) hg hs hd t k
theorem own_ldC (X : Stand p l e R s m args below meth c T locs cells slots) (hx : p.tables.exec = Jvm.exec) (hZ : Z.Warmed39 s.vm) (eT : T.heap = h) {a : Addr} {k : ClassId} {n : Int32} {vs : List Value} {d : Value} (V : Arv Z h a k .char n vs d) {j : Int32} (hj : ¬ j < 0 ∧ j < n) {v : Value} (hv : vs.getD j.toNatClampNeg d = v)
    {g : JFrame} (hg : g.method = m) {rest : List Value} (hs : g.stack = .int j :: .ref a :: rest) (hd : decode c.code g.pc = .ok (.caload, 1)) : ∀ t, Steps p.tables e below (T.setTop { g with pc := g.pc + 1, stack := v :: rest }) t → Steps p.tables e below (T.setTop g) t := by
  obtain ⟨cl, Ar, -, S, M, H, G⟩ := V
  have hin := inb_of S hj
  exact fun t k => X.caload hx (by rw [eT]; exact Ar.1) (State.isArrayOf_alike hZ.alike Ar.2.1) Ar.2.2 hin (H.at hin hv) hg hs hd t k
theorem own_ldB (X : Stand p l e R s m args below meth c T locs cells slots) (hx : p.tables.exec = Jvm.exec) (hZ : Z.Warmed39 s.vm) (eT : T.heap = h) {a : Addr} {k : ClassId} {n : Int32} {vs : List Value} {d : Value} (V : Arv Z h a k .byte n vs d) {j : Int32} (hj : ¬ j < 0 ∧ j < n) {v : Value} (hv : vs.getD j.toNatClampNeg d = v)
    {g : JFrame} (hg : g.method = m) {rest : List Value} (hs : g.stack = .int j :: .ref a :: rest) (hd : decode c.code g.pc = .ok (.baload, 1)) : ∀ t, Steps p.tables e below (T.setTop { g with pc := g.pc + 1, stack := v :: rest }) t → Steps p.tables e below (T.setTop g) t := by
  obtain ⟨cl, Ar, -, S, M, H, G⟩ := V
  have hin := inb_of S hj
  exact fun t k => X.baloadBytes hx (by rw [eT]; exact Ar.1) (State.isArrayOf_alike hZ.alike Ar.2.1) Ar.2.2 hin (H.at hin hv) hg hs hd t k
theorem own_len (X : Stand p l e R s m args below meth c T locs cells slots) (hx : p.tables.exec = Jvm.exec) (hZ : Z.Warmed39 s.vm) (eT : T.heap = h) {a : Addr} {k : ClassId} {ty : FieldType} {n : Int32} {vs : List Value} {d : Value} (V : Arv Z h a k ty n vs d)
    {g : JFrame} (hg : g.method = m) {rest : List Value} (hs : g.stack = .ref a :: rest) (hd : decode c.code g.pc = .ok (.arraylength, 1)) : ∀ t, Steps p.tables e below (T.setTop { g with pc := g.pc + 1, stack := .int n :: rest }) t → Steps p.tables e below (T.setTop g) t := by
  obtain ⟨cl, Ar, -, S, M, H, G⟩ := V
  intro t k
  refine X.arraylength hx (by rw [eT]; exact Ar.1) (State.isArrayOf_alike hZ.alike Ar.2.1) hg hs hd _ ?_
  rw [len_of S M]
  exact k
theorem own_stI (X : Stand p l e R s m args below meth c T locs cells slots) (hx : p.tables.exec = Jvm.exec) (hZ : Z.Warmed39 s.vm) (eT : T.heap = h) {a : Addr} {k : ClassId} {n : Int32} {vs : List Value} {d : Value} (V : Arv Z h a k .int n vs d) {j : Int32} (hj : ¬ j < 0 ∧ j < n) (i : Nat) (hi : j.toNatClampNeg = i) (hl : i < vs.length) {x : Int32}
    (N : Fr n0 locs) (ga : n0 ≤ a) {g : JFrame} (hg : g.method = m) {rest : List Value} (hs : g.stack = (.int x) :: .int j :: .ref a :: rest) (hd : decode c.code g.pc = .ok (.iastore, 1)) :
    ∃ T' h' L', Stand p l e R s m args below meth c T' L' cells slots ∧ Fr n0 L' ∧ T'.heap = h' ∧ Wr h h' a i (.int x) ∧ Arv Z h' a k .int n (vs.set i (.int x)) d ∧ ∀ t, Steps p.tables e below (T'.setTop { g with pc := g.pc + 1, stack := rest }) t → Steps p.tables e below (T.setTop g) t := by
  obtain ⟨cl, Ar, q, S, M, H, G⟩ := V
  obtain ⟨T', h', X', e', W, st⟩ := stI X hx hZ eT Ar (inb_of S hj) hg hs hd
  have V' := Arv.set Ar q S M H G rfl W i hi hl
  rw [hi] at W
  exact ⟨T', h', _, X', Fr.snoc X' N ga, e', W, V', st⟩
theorem own_stJ (X : Stand p l e R s m args below meth c T locs cells slots) (hx : p.tables.exec = Jvm.exec) (hZ : Z.Warmed39 s.vm) (eT : T.heap = h) {a : Addr} {k : ClassId} {n : Int32} {vs : List Value} {d : Value} (V : Arv Z h a k .long n vs d) {j : Int32} (hj : ¬ j < 0 ∧ j < n) (i : Nat) (hi : j.toNatClampNeg = i) (hl : i < vs.length) {x : Int64}
    (N : Fr n0 locs) (ga : n0 ≤ a) {g : JFrame} (hg : g.method = m) {rest : List Value} (hs : g.stack = (.long x) :: .int j :: .ref a :: rest) (hd : decode c.code g.pc = .ok (.lastore, 1)) :
    ∃ T' h' L', Stand p l e R s m args below meth c T' L' cells slots ∧ Fr n0 L' ∧ T'.heap = h' ∧ Wr h h' a i (.long x) ∧ Arv Z h' a k .long n (vs.set i (.long x)) d ∧ ∀ t, Steps p.tables e below (T'.setTop { g with pc := g.pc + 1, stack := rest }) t → Steps p.tables e below (T.setTop g) t := by
  obtain ⟨cl, Ar, q, S, M, H, G⟩ := V
  obtain ⟨T', h', X', e', W, st⟩ := stJ X hx hZ eT Ar (inb_of S hj) hg hs hd
  have V' := Arv.set Ar q S M H G rfl W i hi hl
  rw [hi] at W
  exact ⟨T', h', _, X', Fr.snoc X' N ga, e', W, V', st⟩
theorem own_stC (X : Stand p l e R s m args below meth c T locs cells slots) (hx : p.tables.exec = Jvm.exec) (hZ : Z.Warmed39 s.vm) (eT : T.heap = h) {a : Addr} {k : ClassId} {n : Int32} {vs : List Value} {d : Value} (V : Arv Z h a k .char n vs d) {j : Int32} (hj : ¬ j < 0 ∧ j < n) (i : Nat) (hi : j.toNatClampNeg = i) (hl : i < vs.length) {x : Int32}
    (N : Fr n0 locs) (ga : n0 ≤ a) {g : JFrame} (hg : g.method = m) {rest : List Value} (hs : g.stack = (.int x) :: .int j :: .ref a :: rest) (hd : decode c.code g.pc = .ok (.castore, 1)) :
    ∃ T' h' L', Stand p l e R s m args below meth c T' L' cells slots ∧ Fr n0 L' ∧ T'.heap = h' ∧ Wr h h' a i (.int (nar .char x)) ∧ Arv Z h' a k .char n (vs.set i (.int (nar .char x))) d ∧ ∀ t, Steps p.tables e below (T'.setTop { g with pc := g.pc + 1, stack := rest }) t → Steps p.tables e below (T.setTop g) t := by
  obtain ⟨cl, Ar, q, S, M, H, G⟩ := V
  obtain ⟨T', h', X', e', W, st⟩ := stC X hx hZ eT Ar (inb_of S hj) hg hs hd
  have V' := Arv.set Ar q S M H G (fits_nar_char _) W i hi hl
  rw [hi] at W
  exact ⟨T', h', _, X', Fr.snoc X' N ga, e', W, V', st⟩
theorem own_stB (X : Stand p l e R s m args below meth c T locs cells slots) (hx : p.tables.exec = Jvm.exec) (hZ : Z.Warmed39 s.vm) (eT : T.heap = h) {a : Addr} {k : ClassId} {n : Int32} {vs : List Value} {d : Value} (V : Arv Z h a k .byte n vs d) {j : Int32} (hj : ¬ j < 0 ∧ j < n) (i : Nat) (hi : j.toNatClampNeg = i) (hl : i < vs.length) {x : Int32}
    (N : Fr n0 locs) (ga : n0 ≤ a) {g : JFrame} (hg : g.method = m) {rest : List Value} (hs : g.stack = (.int x) :: .int j :: .ref a :: rest) (hd : decode c.code g.pc = .ok (.bastore, 1)) :
    ∃ T' h' L', Stand p l e R s m args below meth c T' L' cells slots ∧ Fr n0 L' ∧ T'.heap = h' ∧ Wr h h' a i (.int (nar .byte x)) ∧ Arv Z h' a k .byte n (vs.set i (.int (nar .byte x))) d ∧ ∀ t, Steps p.tables e below (T'.setTop { g with pc := g.pc + 1, stack := rest }) t → Steps p.tables e below (T.setTop g) t := by
  obtain ⟨cl, Ar, q, S, M, H, G⟩ := V
  obtain ⟨T', h', X', e', W, st⟩ := stB X hx hZ eT Ar (inb_of S hj) hg hs hd
  have V' := Arv.set Ar q S M H G (fits_nar_byte _) W i hi hl
  rw [hi] at W
  exact ⟨T', h', _, X', Fr.snoc X' N ga, e', W, V', st⟩
theorem own_new (X : Stand p l e R s m args below meth c T locs cells slots) (hx : p.tables.exec = Jvm.exec) (hZ : Z.Warmed39 s.vm) {aty : ArrayType} (w : (Jvm.Cond.arrayClass (newarray.typeOf aty)).before a0 Z = true) (eT : T.heap = h) {g : JFrame} (hg : g.method = m) (hd : decode c.code g.pc = .ok (.newarray aty, 2)) {n : Int32} {rest : List Value} (hs : g.stack = .int n :: rest)
    (hn : ¬ n < 0) {cap : Nat} (hcap : n.toNatClampNeg ≤ cap) (hb : cap * 8 ≤ 536870912) (hc : cells + 1 ≤ R.cells) (hl : slots + cap ≤ R.slots) :
    ∃ T' h' k a, a = h.size ∧ Stand p l e R s m args below meth c T' locs (cells + 1) (slots + cap) ∧ T'.heap = h' ∧ Ext h h' ∧ Arv Z h' a k (newarray.typeOf aty) n [] (defaultValue (newarray.typeOf aty)) ∧
      ∀ t, Steps p.tables e below (T'.setTop { g with pc := g.pc + 2, stack := .ref a :: rest }) t → Steps p.tables e below (T.setTop g) t := by
  obtain ⟨T', h', k, X', e', E, A, st⟩ := newP X hx hZ w eT hg hd hs hn hcap hb hc hl
  exact ⟨T', h', k, _, rfl, X', e', E, Arv.new A hn, st⟩
def own_P (z : Value) (h0 : Heap) : Option Value → Heap → Prop := fun v h => v = some z ∧ h = h0
end Own
def f1_24 (p0 : Int32)  : Int32 := (if p0 = (95 : Int32) then (1 : Int32) else (0 : Int32))
def f1_12 (p0 : Int32)  : Int32 := (if p0 < (65 : Int32) then (f1_24 p0) else (if (90 : Int32) < p0 then (f1_24 p0) else (1 : Int32)))
def f1_0 (p0 : Int32) : Int32 := (if p0 < (97 : Int32) then (f1_12 p0) else (if (122 : Int32) < p0 then (f1_12 p0) else (1 : Int32)))
abbrev own_r1 : Room := { frames := 0, cells := 0, slots := 0, locals := 0 }
theorem d1_0 : decode prog_215_method_5_code 0 = .ok (.iload_n 0, 1) := by decide +kernel
theorem d1_1 : decode prog_215_method_5_code 1 = .ok (.bipush 97, 2) := by decide +kernel
theorem d1_3 : decode prog_215_method_5_code 3 = .ok (.if_icmp .lt 9, 3) := by decide +kernel
theorem d1_12 : decode prog_215_method_5_code 12 = .ok (.iload_n 0, 1) := by decide +kernel
theorem d1_13 : decode prog_215_method_5_code 13 = .ok (.bipush 65, 2) := by decide +kernel
theorem d1_15 : decode prog_215_method_5_code 15 = .ok (.if_icmp .lt 9, 3) := by decide +kernel
theorem d1_24 : decode prog_215_method_5_code 24 = .ok (.iload_n 0, 1) := by decide +kernel
theorem d1_25 : decode prog_215_method_5_code 25 = .ok (.bipush 95, 2) := by decide +kernel
theorem d1_27 : decode prog_215_method_5_code 27 = .ok (.if_icmp .ne 7, 3) := by decide +kernel
theorem d1_30 : decode prog_215_method_5_code 30 = .ok (.iconst 1, 1) := by decide +kernel
theorem d1_31 : decode prog_215_method_5_code 31 = .ok (.goto 4, 3) := by decide +kernel
theorem d1_35 : decode prog_215_method_5_code 35 = .ok (.ireturn, 1) := by decide +kernel
theorem d1_34 : decode prog_215_method_5_code 34 = .ok (.iconst 0, 1) := by decide +kernel
theorem d1_18 : decode prog_215_method_5_code 18 = .ok (.iload_n 0, 1) := by decide +kernel
theorem d1_19 : decode prog_215_method_5_code 19 = .ok (.bipush 90, 2) := by decide +kernel
theorem d1_21 : decode prog_215_method_5_code 21 = .ok (.if_icmp .le 9, 3) := by decide +kernel
theorem d1_6 : decode prog_215_method_5_code 6 = .ok (.iload_n 0, 1) := by decide +kernel
theorem d1_7 : decode prog_215_method_5_code 7 = .ok (.bipush 122, 2) := by decide +kernel
theorem d1_9 : decode prog_215_method_5_code 9 = .ok (.if_icmp .le 21, 3) := by decide +kernel
theorem ef_1 (m : MethodId) (p0 : Int32) : entryFrame m #[(.int p0)] 1 = mkF m 0 #[.val (.int p0)] [] := by first | (simp [entryFrame, mkF, argsToLocals, Value.category]; done) | rfl
set_option maxRecDepth 65536 in
set_option maxHeartbeats 40000000 in
theorem rm1 (l : Launch) (Z : State) (a0 : Array Value) (hw : ∀ d ∈ tables_1, d.before a0 Z = true) (p0 : Int32) (h0 : Heap) (n0 : Nat) : own_Con [] l Z (⟨site_48.cls, "isNameStart", "(C)Z"⟩ : MethodName) prog_215_method_5_code 1 (some .boolean) own_r1 n0 #[(.int p0)] h0 (own_P (.int (f1_0 p0)) h0) := by
  refine own_body (plainFor_of_name (by first | (simp [plainName, overriddenIn]; done) | decide +kernel)) (fun m => mkF m 0 #[.val (.int p0)] []) (fun m => ef_1 m p0) ?_
  intro p e s m below meth c s₁ hx hby hml hown hnm hZ hret hlk X0 e0 N0
  have w_f1_24 : ∀ {T : State} {locs : List Loc} (X : Stand p l e own_r1 s m #[(.int p0)] below meth c T locs 0 0) (eT : T.heap = h0) (N : Fr n0 locs), own_Ends p e below s n0 own_r1.cells own_r1.slots T (mkF m 24 #[.val (.int p0)] []) (own_P (.int (f1_24 p0)) h0) := by
    intro T locs X eT N 
    show own_Ends p e below s n0 _ _ _ _ (own_P (.int (if p0 = (95 : Int32) then (1 : Int32) else (0 : Int32))) h0)
    refine own_go (T' := T) (g' := (mkF m 27 #[.val (.int p0)] [(.int (95 : Int32)), (.int p0)])) (fun t k => ?_) ?_
    · show Steps p.tables e below (T.setTop (mkF m 24 #[.val (.int p0)] [])) t
      refine XS.iloadN X.here hx rfl (hb hby d1_24) rfl ?_
      show Steps p.tables e below (T.setTop (mkF m 25 #[.val (.int p0)] [(.int p0)])) _
      refine XS.bipush X.here hx rfl (hb hby d1_25) ?_
      show Steps p.tables e below (T.setTop (mkF m 27 #[.val (.int p0)] [(.int (95 : Int32)), (.int p0)])) _
      exact k
    by_cases hc27_3 : p0 = (95 : Int32)
    · rw [if_pos hc27_3]
      refine own_go (T' := T) (g' := (mkF m 30 #[.val (.int p0)] [])) (fun t k => ?_) ?_
      · refine XS.icmpNo X.here hx rfl (hb hby d1_27) rfl (teq hc27_3).2 ?_
        exact k
      refine own_go (T' := T) (g' := (mkF m 35 #[.val (.int p0)] [(.int (1 : Int32))])) (fun t k => ?_) ?_
      · show Steps p.tables e below (T.setTop (mkF m 30 #[.val (.int p0)] [])) t
        refine XS.iconst X.here hx rfl (hb hby d1_30) ?_
        show Steps p.tables e below (T.setTop (mkF m 31 #[.val (.int p0)] [(.int (1 : Int32))])) _
        refine XS.goto X.here hx rfl (pc0 := 31) (pc' := 35) rfl (hb hby d1_31) (by decide) (by decide) ?_
        show Steps p.tables e below (T.setTop (mkF m 35 #[.val (.int p0)] [(.int (1 : Int32))])) _
        exact k
      exact own_retN X hx hlk hret (by simp) (hb hby d1_35) (by decide) (by decide) N ⟨rfl, eT⟩
    · rw [if_neg hc27_3]
      refine own_go (T' := T) (g' := (mkF m 34 #[.val (.int p0)] [])) (fun t k => ?_) ?_
      · refine XS.icmpYes X.here hx rfl (pc0 := 27) (pc' := 34) rfl (hb hby d1_27) rfl (feq hc27_3).2 (by decide) (by decide) ?_
        exact k
      refine own_go (T' := T) (g' := (mkF m 35 #[.val (.int p0)] [(.int (0 : Int32))])) (fun t k => ?_) ?_
      · show Steps p.tables e below (T.setTop (mkF m 34 #[.val (.int p0)] [])) t
        refine XS.iconst X.here hx rfl (hb hby d1_34) ?_
        show Steps p.tables e below (T.setTop (mkF m 35 #[.val (.int p0)] [(.int (0 : Int32))])) _
        exact k
      exact own_retN X hx hlk hret (by simp) (hb hby d1_35) (by decide) (by decide) N ⟨rfl, eT⟩
  have w_f1_12 : ∀ {T : State} {locs : List Loc} (X : Stand p l e own_r1 s m #[(.int p0)] below meth c T locs 0 0) (eT : T.heap = h0) (N : Fr n0 locs), own_Ends p e below s n0 own_r1.cells own_r1.slots T (mkF m 12 #[.val (.int p0)] []) (own_P (.int (f1_12 p0)) h0) := by
    intro T locs X eT N 
    show own_Ends p e below s n0 _ _ _ _ (own_P (.int (if p0 < (65 : Int32) then (f1_24 p0) else (if (90 : Int32) < p0 then (f1_24 p0) else (1 : Int32)))) h0)
    refine own_go (T' := T) (g' := (mkF m 15 #[.val (.int p0)] [(.int (65 : Int32)), (.int p0)])) (fun t k => ?_) ?_
    · show Steps p.tables e below (T.setTop (mkF m 12 #[.val (.int p0)] [])) t
      refine XS.iloadN X.here hx rfl (hb hby d1_12) rfl ?_
      show Steps p.tables e below (T.setTop (mkF m 13 #[.val (.int p0)] [(.int p0)])) _
      refine XS.bipush X.here hx rfl (hb hby d1_13) ?_
      show Steps p.tables e below (T.setTop (mkF m 15 #[.val (.int p0)] [(.int (65 : Int32)), (.int p0)])) _
      exact k
    by_cases hc15_2 : p0 < (65 : Int32)
    · rw [if_pos hc15_2]
      refine own_go (T' := T) (g' := (mkF m 24 #[.val (.int p0)] [])) (fun t k => ?_) ?_
      · refine XS.icmpYes X.here hx rfl (pc0 := 15) (pc' := 24) rfl (hb hby d1_15) rfl (tlt hc15_2).1 (by decide) (by decide) ?_
        exact k
      exact w_f1_24 X eT N 
    · rw [if_neg hc15_2]
      refine own_go (T' := T) (g' := (mkF m 18 #[.val (.int p0)] [])) (fun t k => ?_) ?_
      · refine XS.icmpNo X.here hx rfl (hb hby d1_15) rfl (flt hc15_2).1 ?_
        exact k
      refine own_go (T' := T) (g' := (mkF m 21 #[.val (.int p0)] [(.int (90 : Int32)), (.int p0)])) (fun t k => ?_) ?_
      · show Steps p.tables e below (T.setTop (mkF m 18 #[.val (.int p0)] [])) t
        refine XS.iloadN X.here hx rfl (hb hby d1_18) rfl ?_
        show Steps p.tables e below (T.setTop (mkF m 19 #[.val (.int p0)] [(.int p0)])) _
        refine XS.bipush X.here hx rfl (hb hby d1_19) ?_
        show Steps p.tables e below (T.setTop (mkF m 21 #[.val (.int p0)] [(.int (90 : Int32)), (.int p0)])) _
        exact k
      by_cases hc21_4 : (90 : Int32) < p0
      · rw [if_pos hc21_4]
        refine own_go (T' := T) (g' := (mkF m 24 #[.val (.int p0)] [])) (fun t k => ?_) ?_
        · refine XS.icmpNo X.here hx rfl (hb hby d1_21) rfl (tlt hc21_4).2.2.2 ?_
          exact k
        exact w_f1_24 X eT N 
      · rw [if_neg hc21_4]
        refine own_go (T' := T) (g' := (mkF m 30 #[.val (.int p0)] [])) (fun t k => ?_) ?_
        · refine XS.icmpYes X.here hx rfl (pc0 := 21) (pc' := 30) rfl (hb hby d1_21) rfl (flt hc21_4).2.2.2 (by decide) (by decide) ?_
          exact k
        refine own_go (T' := T) (g' := (mkF m 35 #[.val (.int p0)] [(.int (1 : Int32))])) (fun t k => ?_) ?_
        · show Steps p.tables e below (T.setTop (mkF m 30 #[.val (.int p0)] [])) t
          refine XS.iconst X.here hx rfl (hb hby d1_30) ?_
          show Steps p.tables e below (T.setTop (mkF m 31 #[.val (.int p0)] [(.int (1 : Int32))])) _
          refine XS.goto X.here hx rfl (pc0 := 31) (pc' := 35) rfl (hb hby d1_31) (by decide) (by decide) ?_
          show Steps p.tables e below (T.setTop (mkF m 35 #[.val (.int p0)] [(.int (1 : Int32))])) _
          exact k
        exact own_retN X hx hlk hret (by simp) (hb hby d1_35) (by decide) (by decide) N ⟨rfl, eT⟩
  show own_Ends p e below s n0 _ _ _ _ (own_P (.int (if p0 < (97 : Int32) then (f1_12 p0) else (if (122 : Int32) < p0 then (f1_12 p0) else (1 : Int32)))) h0)
  refine own_go (T' := s₁) (g' := (mkF m 3 #[.val (.int p0)] [(.int (97 : Int32)), (.int p0)])) (fun t k => ?_) ?_
  · show Steps p.tables e below (s₁.setTop (mkF m 0 #[.val (.int p0)] [])) t
    refine XS.iloadN X0.here hx rfl (hb hby d1_0) rfl ?_
    show Steps p.tables e below (s₁.setTop (mkF m 1 #[.val (.int p0)] [(.int p0)])) _
    refine XS.bipush X0.here hx rfl (hb hby d1_1) ?_
    show Steps p.tables e below (s₁.setTop (mkF m 3 #[.val (.int p0)] [(.int (97 : Int32)), (.int p0)])) _
    exact k
  by_cases hc3_1 : p0 < (97 : Int32)
  · rw [if_pos hc3_1]
    refine own_go (T' := s₁) (g' := (mkF m 12 #[.val (.int p0)] [])) (fun t k => ?_) ?_
    · refine XS.icmpYes X0.here hx rfl (pc0 := 3) (pc' := 12) rfl (hb hby d1_3) rfl (tlt hc3_1).1 (by decide) (by decide) ?_
      exact k
    exact w_f1_12 X0 e0 N0 
  · rw [if_neg hc3_1]
    refine own_go (T' := s₁) (g' := (mkF m 6 #[.val (.int p0)] [])) (fun t k => ?_) ?_
    · refine XS.icmpNo X0.here hx rfl (hb hby d1_3) rfl (flt hc3_1).1 ?_
      exact k
    refine own_go (T' := s₁) (g' := (mkF m 9 #[.val (.int p0)] [(.int (122 : Int32)), (.int p0)])) (fun t k => ?_) ?_
    · show Steps p.tables e below (s₁.setTop (mkF m 6 #[.val (.int p0)] [])) t
      refine XS.iloadN X0.here hx rfl (hb hby d1_6) rfl ?_
      show Steps p.tables e below (s₁.setTop (mkF m 7 #[.val (.int p0)] [(.int p0)])) _
      refine XS.bipush X0.here hx rfl (hb hby d1_7) ?_
      show Steps p.tables e below (s₁.setTop (mkF m 9 #[.val (.int p0)] [(.int (122 : Int32)), (.int p0)])) _
      exact k
    by_cases hc9_5 : (122 : Int32) < p0
    · rw [if_pos hc9_5]
      refine own_go (T' := s₁) (g' := (mkF m 12 #[.val (.int p0)] [])) (fun t k => ?_) ?_
      · refine XS.icmpNo X0.here hx rfl (hb hby d1_9) rfl (tlt hc9_5).2.2.2 ?_
        exact k
      exact w_f1_12 X0 e0 N0 
    · rw [if_neg hc9_5]
      refine own_go (T' := s₁) (g' := (mkF m 30 #[.val (.int p0)] [])) (fun t k => ?_) ?_
      · refine XS.icmpYes X0.here hx rfl (pc0 := 9) (pc' := 30) rfl (hb hby d1_9) rfl (flt hc9_5).2.2.2 (by decide) (by decide) ?_
        exact k
      refine own_go (T' := s₁) (g' := (mkF m 35 #[.val (.int p0)] [(.int (1 : Int32))])) (fun t k => ?_) ?_
      · show Steps p.tables e below (s₁.setTop (mkF m 30 #[.val (.int p0)] [])) t
        refine XS.iconst X0.here hx rfl (hb hby d1_30) ?_
        show Steps p.tables e below (s₁.setTop (mkF m 31 #[.val (.int p0)] [(.int (1 : Int32))])) _
        refine XS.goto X0.here hx rfl (pc0 := 31) (pc' := 35) rfl (hb hby d1_31) (by decide) (by decide) ?_
        show Steps p.tables e below (s₁.setTop (mkF m 35 #[.val (.int p0)] [(.int (1 : Int32))])) _
        exact k
      exact own_retN X0 hx hlk hret (by simp) (hb hby d1_35) (by decide) (by decide) N0 ⟨rfl, e0⟩
def f0_45 (p0 : Int32) (v1 : Int32) (v2 : Int32) (v3 : Int32) (u0 : Int32) : Int32 := (if (f1_0 v1) = u0 then (1 : Int32) else (0 : Int32))
def f0_40 (p0 : Int32) (v1 : Int32) (v2 : Int32) (v3 : Int32) : Int32 := (f0_45 p0 v1 v2 v3 (1 : Int32))
def f0_29 (p0 : Int32) (v1 : Int32) (v2 : Int32) (u0 : Int32) : Int32 := (if u0 = (0 : Int32) then (if v1 = (95 : Int32) then (f0_40 p0 v1 v2 u0) else (f0_45 p0 v1 v2 u0 (0 : Int32))) else (f0_40 p0 v1 v2 u0))
def f0_28 (p0 : Int32) (v1 : Int32) (v2 : Int32) : Int32 := (f0_29 p0 v1 v2 (0 : Int32))
def f0_0 (p0 : Int32) : Int32 := (if ((((p0 &&& (65535 : Int32)).toUInt32.toUInt16.toUInt32.toInt32) ||| (32 : Int32)) - (97 : Int32)) < (0 : Int32) then (f0_28 p0 ((p0 &&& (65535 : Int32)).toUInt32.toUInt16.toUInt32.toInt32) ((((p0 &&& (65535 : Int32)).toUInt32.toUInt16.toUInt32.toInt32) ||| (32 : Int32)) - (97 : Int32))) else (if ((((p0 &&& (65535 : Int32)).toUInt32.toUInt16.toUInt32.toInt32) ||| (32 : Int32)) - (97 : Int32)) < (26 : Int32) then (f0_29 p0 ((p0 &&& (65535 : Int32)).toUInt32.toUInt16.toUInt32.toInt32) ((((p0 &&& (65535 : Int32)).toUInt32.toUInt16.toUInt32.toInt32) ||| (32 : Int32)) - (97 : Int32)) (1 : Int32)) else (f0_28 p0 ((p0 &&& (65535 : Int32)).toUInt32.toUInt16.toUInt32.toInt32) ((((p0 &&& (65535 : Int32)).toUInt32.toUInt16.toUInt32.toInt32) ||| (32 : Int32)) - (97 : Int32)))))
theorem pd_0 : parseMethodDescriptor "(C)Z" = some ⟨[.char], some .boolean⟩ := by decide +kernel
theorem ef_0 (m : MethodId) (p0 : Int32) : entryFrame m #[(.int p0)] maxLocals = mkF m 0 #[.val (.int p0), .unset, .unset, .unset, .unset] [] := by first | (simp [entryFrame, mkF, argsToLocals, Value.category, maxLocals]; done) | rfl
set_option maxRecDepth 65536 in
set_option maxHeartbeats 40000000 in
theorem rm0 (l : Launch) (Z : State) (a0 : Array Value) (hw : ∀ d ∈ tables_1, d.before a0 Z = true) (p0 : Int32) (h0 : Heap) (n0 : Nat) : own_Con tables_1 l Z x code maxLocals ret room_1 n0 #[(.int p0)] h0 (own_P (.int (f0_0 p0)) h0) := by
  refine own_body (plainFor_of_name (by first | (simp [plainName, overriddenIn]; done) | decide +kernel)) (fun m => mkF m 0 #[.val (.int p0), .unset, .unset, .unset, .unset] []) (fun m => ef_0 m p0) ?_
  intro p e s m below meth c s₁ hx hby hml hown hnm hZ hret hlk X0 e0 N0
  have hml : c.maxLocals = 5 := hml
  have hown : s.vm.findClass x.cls = some m.cls := hown
  have hret : meth.sig.returnType = some .boolean := hret
  have w_f0_45 : ∀ {T : State} {locs : List Loc} (X : Stand p l e room_1 s m #[(.int p0)] below meth c T locs 0 0) (eT : T.heap = h0) (N : Fr n0 locs) (v1 : Int32) (v2 : Int32) (v3 : Int32) (u0 : Int32), own_Ends p e below s n0 room_1.cells room_1.slots T (mkF m 45 #[.val (.int p0), .val (.int v1), .val (.int v2), .val (.int v3), .unset] [(.int u0)]) (own_P (.int (f0_45 p0 v1 v2 v3 u0)) h0) := by
    intro T locs X eT N v1 v2 v3 u0
    show own_Ends p e below s n0 _ _ _ _ (own_P (.int (if (f1_0 v1) = u0 then (1 : Int32) else (0 : Int32))) h0)
    refine own_go (T' := T) (g' := (mkF m 48 #[.val (.int p0), .val (.int v1), .val (.int v2), .val (.int v3), .val (.int u0)] [(.int v1)])) (fun t k => ?_) ?_
    · show Steps p.tables e below (T.setTop (mkF m 45 #[.val (.int p0), .val (.int v1), .val (.int v2), .val (.int v3), .unset] [(.int u0)])) t
      refine XS.istore X.here hx rfl (hb hby at_45) rfl (l' := #[.val (.int p0), .val (.int v1), .val (.int v2), .val (.int v3), .val (.int u0)]) rfl ?_
      show Steps p.tables e below (T.setTop (mkF m 47 #[.val (.int p0), .val (.int v1), .val (.int v2), .val (.int v3), .val (.int u0)] [])) _
      refine XS.iloadN X.here hx rfl (hb hby at_47) rfl ?_
      show Steps p.tables e below (T.setTop (mkF m 48 #[.val (.int p0), .val (.int v1), .val (.int v2), .val (.int v3), .val (.int u0)] [(.int v1)])) _
      exact k
    obtain ⟨_, T4, L4, X4, N4, ⟨rfl, e4⟩, st4⟩ := own_callS X hx hZ hown (hw _ (List.mem_of_getElem? (i := 1) rfl)) (hw _ (List.mem_of_getElem? (i := 2) rfl)) (hw _ (List.mem_of_getElem? (i := 3) rfl)) (hw _ (List.mem_of_getElem? (i := 4) rfl)) (by decide) (argsL := [(.int v1)]) (rest := []) (rm1 l Z a0 hw v1 h0 n0) (W := 0) (by decide) (by decide) (g := (mkF m 48 #[.val (.int p0), .val (.int v1), .val (.int v2), .val (.int v3), .val (.int u0)] [(.int v1)])) rfl (by rw [hml]; rfl) pd_0 rfl rfl (by show 2 * 0 + _ ≤ _; exact Nat.le_of_eq rfl) (hb hby at_48) eT (by decide) (by decide) N
    refine own_go (T' := T4) (g' := (mkF m 51 #[.val (.int p0), .val (.int v1), .val (.int v2), .val (.int v3), .val (.int u0)] [(.int (f1_0 v1))])) st4 ?_
    refine own_go (T' := T4) (g' := (mkF m 53 #[.val (.int p0), .val (.int v1), .val (.int v2), .val (.int v3), .val (.int u0)] [(.int u0), (.int (f1_0 v1))])) (fun t k => ?_) ?_
    · show Steps p.tables e below (T4.setTop (mkF m 51 #[.val (.int p0), .val (.int v1), .val (.int v2), .val (.int v3), .val (.int u0)] [(.int (f1_0 v1))])) t
      refine XS.iload X4.here hx rfl (hb hby at_51) rfl ?_
      show Steps p.tables e below (T4.setTop (mkF m 53 #[.val (.int p0), .val (.int v1), .val (.int v2), .val (.int v3), .val (.int u0)] [(.int u0), (.int (f1_0 v1))])) _
      exact k
    by_cases hc53_5 : (f1_0 v1) = u0
    · rw [if_pos hc53_5]
      refine own_go (T' := T4) (g' := (mkF m 56 #[.val (.int p0), .val (.int v1), .val (.int v2), .val (.int v3), .val (.int u0)] [])) (fun t k => ?_) ?_
      · refine XS.icmpNo X4.here hx rfl (hb hby at_53) rfl (teq hc53_5).2 ?_
        exact k
      refine own_go (T' := T4) (g' := (mkF m 61 #[.val (.int p0), .val (.int v1), .val (.int v2), .val (.int v3), .val (.int u0)] [(.int (1 : Int32))])) (fun t k => ?_) ?_
      · show Steps p.tables e below (T4.setTop (mkF m 56 #[.val (.int p0), .val (.int v1), .val (.int v2), .val (.int v3), .val (.int u0)] [])) t
        refine XS.iconst X4.here hx rfl (hb hby at_56) ?_
        show Steps p.tables e below (T4.setTop (mkF m 57 #[.val (.int p0), .val (.int v1), .val (.int v2), .val (.int v3), .val (.int u0)] [(.int (1 : Int32))])) _
        refine XS.goto X4.here hx rfl (pc0 := 57) (pc' := 61) rfl (hb hby at_57) (by decide) (by decide) ?_
        show Steps p.tables e below (T4.setTop (mkF m 61 #[.val (.int p0), .val (.int v1), .val (.int v2), .val (.int v3), .val (.int u0)] [(.int (1 : Int32))])) _
        exact k
      exact own_retN X4 hx hlk hret (by simp) (hb hby at_61) (by decide) (by decide) N4 ⟨rfl, e4⟩
    · rw [if_neg hc53_5]
      refine own_go (T' := T4) (g' := (mkF m 60 #[.val (.int p0), .val (.int v1), .val (.int v2), .val (.int v3), .val (.int u0)] [])) (fun t k => ?_) ?_
      · refine XS.icmpYes X4.here hx rfl (pc0 := 53) (pc' := 60) rfl (hb hby at_53) rfl (feq hc53_5).2 (by decide) (by decide) ?_
        exact k
      refine own_go (T' := T4) (g' := (mkF m 61 #[.val (.int p0), .val (.int v1), .val (.int v2), .val (.int v3), .val (.int u0)] [(.int (0 : Int32))])) (fun t k => ?_) ?_
      · show Steps p.tables e below (T4.setTop (mkF m 60 #[.val (.int p0), .val (.int v1), .val (.int v2), .val (.int v3), .val (.int u0)] [])) t
        refine XS.iconst X4.here hx rfl (hb hby at_60) ?_
        show Steps p.tables e below (T4.setTop (mkF m 61 #[.val (.int p0), .val (.int v1), .val (.int v2), .val (.int v3), .val (.int u0)] [(.int (0 : Int32))])) _
        exact k
      exact own_retN X4 hx hlk hret (by simp) (hb hby at_61) (by decide) (by decide) N4 ⟨rfl, e4⟩
  have w_f0_40 : ∀ {T : State} {locs : List Loc} (X : Stand p l e room_1 s m #[(.int p0)] below meth c T locs 0 0) (eT : T.heap = h0) (N : Fr n0 locs) (v1 : Int32) (v2 : Int32) (v3 : Int32), own_Ends p e below s n0 room_1.cells room_1.slots T (mkF m 40 #[.val (.int p0), .val (.int v1), .val (.int v2), .val (.int v3), .unset] []) (own_P (.int (f0_40 p0 v1 v2 v3)) h0) := by
    intro T locs X eT N v1 v2 v3
    show own_Ends p e below s n0 _ _ _ _ (own_P (.int (f0_45 p0 v1 v2 v3 (1 : Int32))) h0)
    refine own_go (T' := T) (g' := (mkF m 45 #[.val (.int p0), .val (.int v1), .val (.int v2), .val (.int v3), .unset] [(.int (1 : Int32))])) (fun t k => ?_) ?_
    · show Steps p.tables e below (T.setTop (mkF m 40 #[.val (.int p0), .val (.int v1), .val (.int v2), .val (.int v3), .unset] [])) t
      refine XS.iconst X.here hx rfl (hb hby at_40) ?_
      show Steps p.tables e below (T.setTop (mkF m 41 #[.val (.int p0), .val (.int v1), .val (.int v2), .val (.int v3), .unset] [(.int (1 : Int32))])) _
      refine XS.goto X.here hx rfl (pc0 := 41) (pc' := 45) rfl (hb hby at_41) (by decide) (by decide) ?_
      show Steps p.tables e below (T.setTop (mkF m 45 #[.val (.int p0), .val (.int v1), .val (.int v2), .val (.int v3), .unset] [(.int (1 : Int32))])) _
      exact k
    exact w_f0_45 X eT N v1 v2 v3 (1 : Int32)
  have w_f0_29 : ∀ {T : State} {locs : List Loc} (X : Stand p l e room_1 s m #[(.int p0)] below meth c T locs 0 0) (eT : T.heap = h0) (N : Fr n0 locs) (v1 : Int32) (v2 : Int32) (u0 : Int32), own_Ends p e below s n0 room_1.cells room_1.slots T (mkF m 29 #[.val (.int p0), .val (.int v1), .val (.int v2), .unset, .unset] [(.int u0)]) (own_P (.int (f0_29 p0 v1 v2 u0)) h0) := by
    intro T locs X eT N v1 v2 u0
    show own_Ends p e below s n0 _ _ _ _ (own_P (.int (if u0 = (0 : Int32) then (if v1 = (95 : Int32) then (f0_40 p0 v1 v2 u0) else (f0_45 p0 v1 v2 u0 (0 : Int32))) else (f0_40 p0 v1 v2 u0))) h0)
    refine own_go (T' := T) (g' := (mkF m 31 #[.val (.int p0), .val (.int v1), .val (.int v2), .val (.int u0), .unset] [(.int u0)])) (fun t k => ?_) ?_
    · show Steps p.tables e below (T.setTop (mkF m 29 #[.val (.int p0), .val (.int v1), .val (.int v2), .unset, .unset] [(.int u0)])) t
      refine XS.istoreN X.here hx rfl (hb hby at_29) rfl (l' := #[.val (.int p0), .val (.int v1), .val (.int v2), .val (.int u0), .unset]) rfl ?_
      show Steps p.tables e below (T.setTop (mkF m 30 #[.val (.int p0), .val (.int v1), .val (.int v2), .val (.int u0), .unset] [])) _
      refine XS.iloadN X.here hx rfl (hb hby at_30) rfl ?_
      show Steps p.tables e below (T.setTop (mkF m 31 #[.val (.int p0), .val (.int v1), .val (.int v2), .val (.int u0), .unset] [(.int u0)])) _
      exact k
    by_cases hc31_2 : u0 = (0 : Int32)
    · rw [if_pos hc31_2]
      refine own_go (T' := T) (g' := (mkF m 34 #[.val (.int p0), .val (.int v1), .val (.int v2), .val (.int u0), .unset] [])) (fun t k => ?_) ?_
      · refine XS.ifNo X.here hx rfl (hb hby at_31) rfl ((if0 _ _).trans (teq hc31_2).2) ?_
        exact k
      refine own_go (T' := T) (g' := (mkF m 37 #[.val (.int p0), .val (.int v1), .val (.int v2), .val (.int u0), .unset] [(.int (95 : Int32)), (.int v1)])) (fun t k => ?_) ?_
      · show Steps p.tables e below (T.setTop (mkF m 34 #[.val (.int p0), .val (.int v1), .val (.int v2), .val (.int u0), .unset] [])) t
        refine XS.iloadN X.here hx rfl (hb hby at_34) rfl ?_
        show Steps p.tables e below (T.setTop (mkF m 35 #[.val (.int p0), .val (.int v1), .val (.int v2), .val (.int u0), .unset] [(.int v1)])) _
        refine XS.bipush X.here hx rfl (hb hby at_35) ?_
        show Steps p.tables e below (T.setTop (mkF m 37 #[.val (.int p0), .val (.int v1), .val (.int v2), .val (.int u0), .unset] [(.int (95 : Int32)), (.int v1)])) _
        exact k
      by_cases hc37_3 : v1 = (95 : Int32)
      · rw [if_pos hc37_3]
        refine own_go (T' := T) (g' := (mkF m 40 #[.val (.int p0), .val (.int v1), .val (.int v2), .val (.int u0), .unset] [])) (fun t k => ?_) ?_
        · refine XS.icmpNo X.here hx rfl (hb hby at_37) rfl (teq hc37_3).2 ?_
          exact k
        exact w_f0_40 X eT N v1 v2 u0
      · rw [if_neg hc37_3]
        refine own_go (T' := T) (g' := (mkF m 44 #[.val (.int p0), .val (.int v1), .val (.int v2), .val (.int u0), .unset] [])) (fun t k => ?_) ?_
        · refine XS.icmpYes X.here hx rfl (pc0 := 37) (pc' := 44) rfl (hb hby at_37) rfl (feq hc37_3).2 (by decide) (by decide) ?_
          exact k
        refine own_go (T' := T) (g' := (mkF m 45 #[.val (.int p0), .val (.int v1), .val (.int v2), .val (.int u0), .unset] [(.int (0 : Int32))])) (fun t k => ?_) ?_
        · show Steps p.tables e below (T.setTop (mkF m 44 #[.val (.int p0), .val (.int v1), .val (.int v2), .val (.int u0), .unset] [])) t
          refine XS.iconst X.here hx rfl (hb hby at_44) ?_
          show Steps p.tables e below (T.setTop (mkF m 45 #[.val (.int p0), .val (.int v1), .val (.int v2), .val (.int u0), .unset] [(.int (0 : Int32))])) _
          exact k
        exact w_f0_45 X eT N v1 v2 u0 (0 : Int32)
    · rw [if_neg hc31_2]
      refine own_go (T' := T) (g' := (mkF m 40 #[.val (.int p0), .val (.int v1), .val (.int v2), .val (.int u0), .unset] [])) (fun t k => ?_) ?_
      · refine XS.ifYes X.here hx rfl (pc0 := 31) (pc' := 40) rfl (hb hby at_31) rfl ((if0 _ _).trans (feq hc31_2).2) (by decide) (by decide) ?_
        exact k
      exact w_f0_40 X eT N v1 v2 u0
  have w_f0_28 : ∀ {T : State} {locs : List Loc} (X : Stand p l e room_1 s m #[(.int p0)] below meth c T locs 0 0) (eT : T.heap = h0) (N : Fr n0 locs) (v1 : Int32) (v2 : Int32), own_Ends p e below s n0 room_1.cells room_1.slots T (mkF m 28 #[.val (.int p0), .val (.int v1), .val (.int v2), .unset, .unset] []) (own_P (.int (f0_28 p0 v1 v2)) h0) := by
    intro T locs X eT N v1 v2
    show own_Ends p e below s n0 _ _ _ _ (own_P (.int (f0_29 p0 v1 v2 (0 : Int32))) h0)
    refine own_go (T' := T) (g' := (mkF m 29 #[.val (.int p0), .val (.int v1), .val (.int v2), .unset, .unset] [(.int (0 : Int32))])) (fun t k => ?_) ?_
    · show Steps p.tables e below (T.setTop (mkF m 28 #[.val (.int p0), .val (.int v1), .val (.int v2), .unset, .unset] [])) t
      refine XS.iconst X.here hx rfl (hb hby at_28) ?_
      show Steps p.tables e below (T.setTop (mkF m 29 #[.val (.int p0), .val (.int v1), .val (.int v2), .unset, .unset] [(.int (0 : Int32))])) _
      exact k
    exact w_f0_29 X eT N v1 v2 (0 : Int32)
  show own_Ends p e below s n0 _ _ _ _ (own_P (.int (if ((((p0 &&& (65535 : Int32)).toUInt32.toUInt16.toUInt32.toInt32) ||| (32 : Int32)) - (97 : Int32)) < (0 : Int32) then (f0_28 p0 ((p0 &&& (65535 : Int32)).toUInt32.toUInt16.toUInt32.toInt32) ((((p0 &&& (65535 : Int32)).toUInt32.toUInt16.toUInt32.toInt32) ||| (32 : Int32)) - (97 : Int32))) else (if ((((p0 &&& (65535 : Int32)).toUInt32.toUInt16.toUInt32.toInt32) ||| (32 : Int32)) - (97 : Int32)) < (26 : Int32) then (f0_29 p0 ((p0 &&& (65535 : Int32)).toUInt32.toUInt16.toUInt32.toInt32) ((((p0 &&& (65535 : Int32)).toUInt32.toUInt16.toUInt32.toInt32) ||| (32 : Int32)) - (97 : Int32)) (1 : Int32)) else (f0_28 p0 ((p0 &&& (65535 : Int32)).toUInt32.toUInt16.toUInt32.toInt32) ((((p0 &&& (65535 : Int32)).toUInt32.toUInt16.toUInt32.toInt32) ||| (32 : Int32)) - (97 : Int32)))))) h0)
  refine own_go (T' := s₁) (g' := (mkF m 15 #[.val (.int p0), .val (.int ((p0 &&& (65535 : Int32)).toUInt32.toUInt16.toUInt32.toInt32)), .val (.int ((((p0 &&& (65535 : Int32)).toUInt32.toUInt16.toUInt32.toInt32) ||| (32 : Int32)) - (97 : Int32))), .unset, .unset] [(.int ((((p0 &&& (65535 : Int32)).toUInt32.toUInt16.toUInt32.toInt32) ||| (32 : Int32)) - (97 : Int32)))])) (fun t k => ?_) ?_
  · show Steps p.tables e below (s₁.setTop (mkF m 0 #[.val (.int p0), .unset, .unset, .unset, .unset] [])) t
    refine XS.iloadN X0.here hx rfl (hb hby at_0) rfl ?_
    show Steps p.tables e below (s₁.setTop (mkF m 1 #[.val (.int p0), .unset, .unset, .unset, .unset] [(.int p0)])) _
    refine X0.ldcInt hx hown (mvT hZ (hw _ (List.mem_of_getElem? (i := 0) rfl))) (g := (mkF m 1 #[.val (.int p0), .unset, .unset, .unset, .unset] [(.int p0)])) rfl (hb hby at_1) _ ?_
    show Steps p.tables e below (s₁.setTop (mkF m 3 #[.val (.int p0), .unset, .unset, .unset, .unset] [(.int (65535 : Int32)), (.int p0)])) _
    refine XS.iand X0.here hx rfl (hb hby at_3) rfl ?_
    show Steps p.tables e below (s₁.setTop (mkF m 4 #[.val (.int p0), .unset, .unset, .unset, .unset] [(.int (p0 &&& (65535 : Int32)))])) _
    refine XS.i2c X0.here hx rfl (hb hby at_4) rfl ?_
    show Steps p.tables e below (s₁.setTop (mkF m 5 #[.val (.int p0), .unset, .unset, .unset, .unset] [(.int ((p0 &&& (65535 : Int32)).toUInt32.toUInt16.toUInt32.toInt32))])) _
    refine XS.istoreN X0.here hx rfl (hb hby at_5) rfl (l' := #[.val (.int p0), .val (.int ((p0 &&& (65535 : Int32)).toUInt32.toUInt16.toUInt32.toInt32)), .unset, .unset, .unset]) rfl ?_
    show Steps p.tables e below (s₁.setTop (mkF m 6 #[.val (.int p0), .val (.int ((p0 &&& (65535 : Int32)).toUInt32.toUInt16.toUInt32.toInt32)), .unset, .unset, .unset] [])) _
    refine XS.iloadN X0.here hx rfl (hb hby at_6) rfl ?_
    show Steps p.tables e below (s₁.setTop (mkF m 7 #[.val (.int p0), .val (.int ((p0 &&& (65535 : Int32)).toUInt32.toUInt16.toUInt32.toInt32)), .unset, .unset, .unset] [(.int ((p0 &&& (65535 : Int32)).toUInt32.toUInt16.toUInt32.toInt32))])) _
    refine XS.bipush X0.here hx rfl (hb hby at_7) ?_
    show Steps p.tables e below (s₁.setTop (mkF m 9 #[.val (.int p0), .val (.int ((p0 &&& (65535 : Int32)).toUInt32.toUInt16.toUInt32.toInt32)), .unset, .unset, .unset] [(.int (32 : Int32)), (.int ((p0 &&& (65535 : Int32)).toUInt32.toUInt16.toUInt32.toInt32))])) _
    refine XS.ior X0.here hx rfl (hb hby at_9) rfl ?_
    show Steps p.tables e below (s₁.setTop (mkF m 10 #[.val (.int p0), .val (.int ((p0 &&& (65535 : Int32)).toUInt32.toUInt16.toUInt32.toInt32)), .unset, .unset, .unset] [(.int (((p0 &&& (65535 : Int32)).toUInt32.toUInt16.toUInt32.toInt32) ||| (32 : Int32)))])) _
    refine XS.bipush X0.here hx rfl (hb hby at_10) ?_
    show Steps p.tables e below (s₁.setTop (mkF m 12 #[.val (.int p0), .val (.int ((p0 &&& (65535 : Int32)).toUInt32.toUInt16.toUInt32.toInt32)), .unset, .unset, .unset] [(.int (97 : Int32)), (.int (((p0 &&& (65535 : Int32)).toUInt32.toUInt16.toUInt32.toInt32) ||| (32 : Int32)))])) _
    refine XS.isub X0.here hx rfl (hb hby at_12) rfl ?_
    show Steps p.tables e below (s₁.setTop (mkF m 13 #[.val (.int p0), .val (.int ((p0 &&& (65535 : Int32)).toUInt32.toUInt16.toUInt32.toInt32)), .unset, .unset, .unset] [(.int ((((p0 &&& (65535 : Int32)).toUInt32.toUInt16.toUInt32.toInt32) ||| (32 : Int32)) - (97 : Int32)))])) _
    refine XS.istoreN X0.here hx rfl (hb hby at_13) rfl (l' := #[.val (.int p0), .val (.int ((p0 &&& (65535 : Int32)).toUInt32.toUInt16.toUInt32.toInt32)), .val (.int ((((p0 &&& (65535 : Int32)).toUInt32.toUInt16.toUInt32.toInt32) ||| (32 : Int32)) - (97 : Int32))), .unset, .unset]) rfl ?_
    show Steps p.tables e below (s₁.setTop (mkF m 14 #[.val (.int p0), .val (.int ((p0 &&& (65535 : Int32)).toUInt32.toUInt16.toUInt32.toInt32)), .val (.int ((((p0 &&& (65535 : Int32)).toUInt32.toUInt16.toUInt32.toInt32) ||| (32 : Int32)) - (97 : Int32))), .unset, .unset] [])) _
    refine XS.iloadN X0.here hx rfl (hb hby at_14) rfl ?_
    show Steps p.tables e below (s₁.setTop (mkF m 15 #[.val (.int p0), .val (.int ((p0 &&& (65535 : Int32)).toUInt32.toUInt16.toUInt32.toInt32)), .val (.int ((((p0 &&& (65535 : Int32)).toUInt32.toUInt16.toUInt32.toInt32) ||| (32 : Int32)) - (97 : Int32))), .unset, .unset] [(.int ((((p0 &&& (65535 : Int32)).toUInt32.toUInt16.toUInt32.toInt32) ||| (32 : Int32)) - (97 : Int32)))])) _
    exact k
  by_cases hc15_1 : ((((p0 &&& (65535 : Int32)).toUInt32.toUInt16.toUInt32.toInt32) ||| (32 : Int32)) - (97 : Int32)) < (0 : Int32)
  · rw [if_pos hc15_1]
    refine own_go (T' := s₁) (g' := (mkF m 28 #[.val (.int p0), .val (.int ((p0 &&& (65535 : Int32)).toUInt32.toUInt16.toUInt32.toInt32)), .val (.int ((((p0 &&& (65535 : Int32)).toUInt32.toUInt16.toUInt32.toInt32) ||| (32 : Int32)) - (97 : Int32))), .unset, .unset] [])) (fun t k => ?_) ?_
    · refine XS.ifYes X0.here hx rfl (pc0 := 15) (pc' := 28) rfl (hb hby at_15) rfl ((if0 _ _).trans (tlt hc15_1).1) (by decide) (by decide) ?_
      exact k
    exact w_f0_28 X0 e0 N0 ((p0 &&& (65535 : Int32)).toUInt32.toUInt16.toUInt32.toInt32) ((((p0 &&& (65535 : Int32)).toUInt32.toUInt16.toUInt32.toInt32) ||| (32 : Int32)) - (97 : Int32))
  · rw [if_neg hc15_1]
    refine own_go (T' := s₁) (g' := (mkF m 18 #[.val (.int p0), .val (.int ((p0 &&& (65535 : Int32)).toUInt32.toUInt16.toUInt32.toInt32)), .val (.int ((((p0 &&& (65535 : Int32)).toUInt32.toUInt16.toUInt32.toInt32) ||| (32 : Int32)) - (97 : Int32))), .unset, .unset] [])) (fun t k => ?_) ?_
    · refine XS.ifNo X0.here hx rfl (hb hby at_15) rfl ((if0 _ _).trans (flt hc15_1).1) ?_
      exact k
    refine own_go (T' := s₁) (g' := (mkF m 21 #[.val (.int p0), .val (.int ((p0 &&& (65535 : Int32)).toUInt32.toUInt16.toUInt32.toInt32)), .val (.int ((((p0 &&& (65535 : Int32)).toUInt32.toUInt16.toUInt32.toInt32) ||| (32 : Int32)) - (97 : Int32))), .unset, .unset] [(.int (26 : Int32)), (.int ((((p0 &&& (65535 : Int32)).toUInt32.toUInt16.toUInt32.toInt32) ||| (32 : Int32)) - (97 : Int32)))])) (fun t k => ?_) ?_
    · show Steps p.tables e below (s₁.setTop (mkF m 18 #[.val (.int p0), .val (.int ((p0 &&& (65535 : Int32)).toUInt32.toUInt16.toUInt32.toInt32)), .val (.int ((((p0 &&& (65535 : Int32)).toUInt32.toUInt16.toUInt32.toInt32) ||| (32 : Int32)) - (97 : Int32))), .unset, .unset] [])) t
      refine XS.iloadN X0.here hx rfl (hb hby at_18) rfl ?_
      show Steps p.tables e below (s₁.setTop (mkF m 19 #[.val (.int p0), .val (.int ((p0 &&& (65535 : Int32)).toUInt32.toUInt16.toUInt32.toInt32)), .val (.int ((((p0 &&& (65535 : Int32)).toUInt32.toUInt16.toUInt32.toInt32) ||| (32 : Int32)) - (97 : Int32))), .unset, .unset] [(.int ((((p0 &&& (65535 : Int32)).toUInt32.toUInt16.toUInt32.toInt32) ||| (32 : Int32)) - (97 : Int32)))])) _
      refine XS.bipush X0.here hx rfl (hb hby at_19) ?_
      show Steps p.tables e below (s₁.setTop (mkF m 21 #[.val (.int p0), .val (.int ((p0 &&& (65535 : Int32)).toUInt32.toUInt16.toUInt32.toInt32)), .val (.int ((((p0 &&& (65535 : Int32)).toUInt32.toUInt16.toUInt32.toInt32) ||| (32 : Int32)) - (97 : Int32))), .unset, .unset] [(.int (26 : Int32)), (.int ((((p0 &&& (65535 : Int32)).toUInt32.toUInt16.toUInt32.toInt32) ||| (32 : Int32)) - (97 : Int32)))])) _
      exact k
    by_cases hc21_6 : ((((p0 &&& (65535 : Int32)).toUInt32.toUInt16.toUInt32.toInt32) ||| (32 : Int32)) - (97 : Int32)) < (26 : Int32)
    · rw [if_pos hc21_6]
      refine own_go (T' := s₁) (g' := (mkF m 24 #[.val (.int p0), .val (.int ((p0 &&& (65535 : Int32)).toUInt32.toUInt16.toUInt32.toInt32)), .val (.int ((((p0 &&& (65535 : Int32)).toUInt32.toUInt16.toUInt32.toInt32) ||| (32 : Int32)) - (97 : Int32))), .unset, .unset] [])) (fun t k => ?_) ?_
      · refine XS.icmpNo X0.here hx rfl (hb hby at_21) rfl (tlt hc21_6).2.1 ?_
        exact k
      refine own_go (T' := s₁) (g' := (mkF m 29 #[.val (.int p0), .val (.int ((p0 &&& (65535 : Int32)).toUInt32.toUInt16.toUInt32.toInt32)), .val (.int ((((p0 &&& (65535 : Int32)).toUInt32.toUInt16.toUInt32.toInt32) ||| (32 : Int32)) - (97 : Int32))), .unset, .unset] [(.int (1 : Int32))])) (fun t k => ?_) ?_
      · show Steps p.tables e below (s₁.setTop (mkF m 24 #[.val (.int p0), .val (.int ((p0 &&& (65535 : Int32)).toUInt32.toUInt16.toUInt32.toInt32)), .val (.int ((((p0 &&& (65535 : Int32)).toUInt32.toUInt16.toUInt32.toInt32) ||| (32 : Int32)) - (97 : Int32))), .unset, .unset] [])) t
        refine XS.iconst X0.here hx rfl (hb hby at_24) ?_
        show Steps p.tables e below (s₁.setTop (mkF m 25 #[.val (.int p0), .val (.int ((p0 &&& (65535 : Int32)).toUInt32.toUInt16.toUInt32.toInt32)), .val (.int ((((p0 &&& (65535 : Int32)).toUInt32.toUInt16.toUInt32.toInt32) ||| (32 : Int32)) - (97 : Int32))), .unset, .unset] [(.int (1 : Int32))])) _
        refine XS.goto X0.here hx rfl (pc0 := 25) (pc' := 29) rfl (hb hby at_25) (by decide) (by decide) ?_
        show Steps p.tables e below (s₁.setTop (mkF m 29 #[.val (.int p0), .val (.int ((p0 &&& (65535 : Int32)).toUInt32.toUInt16.toUInt32.toInt32)), .val (.int ((((p0 &&& (65535 : Int32)).toUInt32.toUInt16.toUInt32.toInt32) ||| (32 : Int32)) - (97 : Int32))), .unset, .unset] [(.int (1 : Int32))])) _
        exact k
      exact w_f0_29 X0 e0 N0 ((p0 &&& (65535 : Int32)).toUInt32.toUInt16.toUInt32.toInt32) ((((p0 &&& (65535 : Int32)).toUInt32.toUInt16.toUInt32.toInt32) ||| (32 : Int32)) - (97 : Int32)) (1 : Int32)
    · rw [if_neg hc21_6]
      refine own_go (T' := s₁) (g' := (mkF m 28 #[.val (.int p0), .val (.int ((p0 &&& (65535 : Int32)).toUInt32.toUInt16.toUInt32.toInt32)), .val (.int ((((p0 &&& (65535 : Int32)).toUInt32.toUInt16.toUInt32.toInt32) ||| (32 : Int32)) - (97 : Int32))), .unset, .unset] [])) (fun t k => ?_) ?_
      · refine XS.icmpYes X0.here hx rfl (pc0 := 21) (pc' := 28) rfl (hb hby at_21) rfl (flt hc21_6).2.1 (by decide) (by decide) ?_
        exact k
      exact w_f0_28 X0 e0 N0 ((p0 &&& (65535 : Int32)).toUInt32.toUInt16.toUInt32.toInt32) ((((p0 &&& (65535 : Int32)).toUInt32.toUInt16.toUInt32.toInt32) ||| (32 : Int32)) - (97 : Int32))
theorem own_or32 : ∀ k : Fin 64, (k.1 ||| 32) = (if k.1 < 32 then k.1 + 32 else k.1) := by decide +kernel
theorem own_orN (n : Nat) : n ||| 32 = if n % 64 < 32 then n + 32 else n := by
  have h1 : n = 2 ^ 6 * (n / 64) + n % 64 := by omega
  have h2 : n % 64 < 2 ^ 6 := by omega
  have h3 : n ||| 32 = 2 ^ 6 * (n / 64) ||| (n % 64 ||| 32) := by
    conv => lhs; rw [h1, Nat.two_pow_add_eq_or_of_lt h2]
    rw [Nat.or_assoc]
  have h4 := own_or32 ⟨n % 64, h2⟩
  simp only at h4
  have h5 : n % 64 ||| 32 < 2 ^ 6 := by rw [h4]; split <;> omega
  rw [h3, ← Nat.two_pow_add_eq_or_of_lt h5, h4]
  split <;> omega
theorem own_or (v : Int32) (h0 : 0 ≤ v.toInt) (h1 : v.toInt < 65536) : (v ||| (32 : Int32)).toInt = (if v.toInt % 64 < 32 then v.toInt + 32 else v.toInt) := by
  have hv : v = Int32.ofNat v.toInt.toNat := by
    apply Int32.toInt_inj.mp
    rw [Jvm.LawKit.toInt_of (c := v.toInt.toNat) rfl (by omega)]
    omega
  have ho : (v ||| (32 : Int32)) = Int32.ofNat (v.toInt.toNat ||| 32) := by
    conv => lhs; rw [hv]
    apply Int32.toBitVec_inj.mp
    simp [Int32.toBitVec_or, BitVec.ofNat_or]
  have hn := own_orN v.toInt.toNat
  rw [ho, Jvm.LawKit.toInt_of (c := v.toInt.toNat ||| 32) rfl (by rw [hn]; split <;> omega), hn]
  split <;> split <;> omega
theorem own_lt {x c : Int32} {k : Int} (hc : c.toInt = k) (h : x.toInt < k) : x < c := by rw [Int32.lt_iff_toInt_lt, hc]; exact h
theorem own_ge {x c : Int32} {k : Int} (hc : c.toInt = k) (h : k ≤ x.toInt) : ¬ x < c := by rw [Int32.lt_iff_toInt_lt, hc]; omega
theorem own_gt {x c : Int32} {k : Int} (hc : c.toInt = k) (h : k < x.toInt) : c < x := by rw [Int32.lt_iff_toInt_lt, hc]; exact h
theorem own_le {x c : Int32} {k : Int} (hc : c.toInt = k) (h : x.toInt ≤ k) : ¬ c < x := by rw [Int32.lt_iff_toInt_lt, hc]; omega
theorem own_ne {x c : Int32} {k : Int} (hc : c.toInt = k) (h : x.toInt ≠ k) : ¬ x = c := by intro e; rw [e, hc] at h; omega
theorem own_eq {x c : Int32} {k : Int} (hc : c.toInt = k) (h : x.toInt = k) : x = c := Int32.toInt_inj.mp (by rw [h, hc])
theorem own_ns (v : Int32) : ((97 ≤ v.toInt ∧ v.toInt ≤ 122) ∨ (65 ≤ v.toInt ∧ v.toInt ≤ 90) ∨ v.toInt = 95 → f1_0 v = 1) ∧ (¬ ((97 ≤ v.toInt ∧ v.toInt ≤ 122) ∨ (65 ≤ v.toInt ∧ v.toInt ≤ 90) ∨ v.toInt = 95) → f1_0 v = 0) := by
  unfold f1_0 f1_12 f1_24
  refine ⟨fun h => ?_, fun h => ?_⟩
  · rcases h with h | h | h
    · rw [if_neg (own_ge (c := 97) (k := 97) (by decide) (by omega)), if_neg (own_le (c := 122) (k := 122) (by decide) (by omega))]
    · rw [if_pos (own_lt (c := 97) (k := 97) (by decide) (by omega)), if_neg (own_ge (c := 65) (k := 65) (by decide) (by omega)), if_neg (own_le (c := 90) (k := 90) (by decide) (by omega))]
    · rw [if_pos (own_lt (c := 97) (k := 97) (by decide) (by omega)), if_neg (own_ge (c := 65) (k := 65) (by decide) (by omega)), if_pos (own_gt (c := 90) (k := 90) (by decide) (by omega)), if_pos (own_eq (c := 95) (k := 95) (by decide) h)]
  · have e : ¬ v = 95 := own_ne (c := 95) (k := 95) (by decide) (by omega)
    have r : (if v < (65 : Int32) then (if v = (95 : Int32) then (1 : Int32) else (0 : Int32)) else (if (90 : Int32) < v then (if v = (95 : Int32) then (1 : Int32) else (0 : Int32)) else (1 : Int32))) = 0 := by
      by_cases c : v.toInt < 65
      · rw [if_pos (own_lt (c := 65) (k := 65) (by decide) c), if_neg e]
      · rw [if_neg (own_ge (c := 65) (k := 65) (by decide) (by omega)), if_pos (own_gt (c := 90) (k := 90) (by decide) (by omega)), if_neg e]
    by_cases c : v.toInt < 97
    · rw [if_pos (own_lt (c := 97) (k := 97) (by decide) c), r]
    · rw [if_neg (own_ge (c := 97) (k := 97) (by decide) (by omega)), if_pos (own_gt (c := 122) (k := 122) (by decide) (by omega)), r]
theorem own_law (p0 : Int32) : f0_0 p0 = 1 := by
  obtain ⟨c1, c2, c3⟩ := c_i2c (p0 &&& (65535 : Int32))
  unfold f0_0
  generalize (p0 &&& (65535 : Int32)).toUInt32.toUInt16.toUInt32.toInt32 = v at *
  have ho := own_or v c2 c3
  have hs := c_isub (v ||| (32 : Int32)) 97
  have rs := rng32 ((v ||| (32 : Int32)) - 97)
  rw [show (97 : Int32).toInt = 97 from rfl] at hs
  generalize (v ||| (32 : Int32)) - 97 = u at *
  obtain ⟨n1, n0⟩ := own_ns v
  have z1 : ¬ (1 : Int32) = 0 := by decide
  have B : (0 ≤ u.toInt ∧ u.toInt < 26) ↔ ((97 ≤ v.toInt ∧ v.toInt ≤ 122) ∨ (65 ≤ v.toInt ∧ v.toInt ≤ 90)) := by
    split at ho <;> omega
  have no : ¬ ((97 ≤ v.toInt ∧ v.toInt ≤ 122) ∨ (65 ≤ v.toInt ∧ v.toInt ≤ 90)) → f0_28 p0 v u = 1 := by
    intro h
    unfold f0_28 f0_29 f0_40 f0_45
    rw [if_pos rfl]
    by_cases g : v = 95
    · rw [if_pos g, if_pos (n1 (by rw [g]; exact Or.inr (Or.inr (by decide))))]
    · rw [if_neg g, if_pos (n0 (fun q => by
        rcases q with q | q | q
        · exact h (Or.inl q)
        · exact h (Or.inr q)
        · exact g (own_eq (c := 95) (k := 95) (by decide) q)))]
  by_cases g1 : u.toInt < 0
  · rw [if_pos (own_lt (c := 0) (k := 0) (by decide) g1)]
    exact no (fun q => by have := B.mpr q; omega)
  · rw [if_neg (own_ge (c := 0) (k := 0) (by decide) (by omega))]
    by_cases g2 : u.toInt < 26
    · rw [if_pos (own_lt (c := 26) (k := 26) (by decide) g2)]
      have q := B.mp ⟨by omega, g2⟩
      unfold f0_29 f0_40 f0_45
      rw [if_neg z1, if_pos (n1 (by rcases q with q | q <;> omega))]
    · rw [if_neg (own_ge (c := 26) (k := 26) (by decide) (by omega))]
      exact no (fun q => by have := B.mpr q; omega)

set_option maxRecDepth 65536 in
set_option maxHeartbeats 40000000 in
theorem comes_1 {Post : Tables → Env → Array Value → State → Outcome → State → Prop} (hpost : ∀ tb e args s v u, (limb_1_1.after args s (.returned v) u = true ∧ limb_1_2.after args s (.returned v) u = true ∧ True) → FrameEnd s (.returned v) u (Jvm.fieldLocs frame_1_writes args s ++ Jvm.arrayLocs frame_1_arrays args s ++ Jvm.staticLocs frame_1_statics s) 0 0 → Post tb e args s (.returned v) u) :
    ArmFor flags0 classFile x code maxLocals ret World_1 tables_1 room_1 Calls_1 rest_1 Pre_1 Post := by
  intro l hfl _ _ p e ha hc hk s m args below hf hA hF happ hP
  obtain ⟨hcalls, hrest, hpre⟩ := hP
  obtain ⟨-, -, -, hnamed, -, -, -, hat⟩ := (Spec.applies_iff hf).mp happ
  obtain ⟨hg, hn⟩ := and_e (Cond.before_iff.mp (show (Jvm.Cond.and given_1 narrow_1).before args s = true from hpre))
  obtain ⟨h1, g0⟩ := and_e hg
  have k0 := g0
  obtain ⟨w0, rfl⟩ : ∃ w0 : Value, args = #[w0] := by
    have hs : args.size = 1 := by simpa [Cond.value, given_1] using h1
    obtain ⟨L⟩ := args
    match L, hs with
    | [w0], _ => exact ⟨w0, rfl⟩
  have hw := fun d (hd : d ∈ tables_1) => atoms_spec (ws := Jvm.Cond.code x code maxLocals ret :: tables_1) hat d (List.mem_cons_of_mem _ hd)
  obtain ⟨i0, e0⟩ := is_v k0
  obtain rfl : w0 = (.int i0) := Option.some.inj e0
  obtain ⟨n, o, h1, h2, h3, v, L, rfl, ⟨N, hv⟩, hq⟩ := rm0 l s _ hw i0 s.heap s.heap.size p e ha hc hk s m _ below hf ((Spec.applies_iff_loose hf).mp happ).1 ⟨rfl, State.Warmed39.refl s, rfl⟩ trivial
  obtain rfl : v = some (.int 1) := hv.1.trans (by rw [own_law])
  refine ⟨n, _, h1, h2, h3, hpost _ _ _ _ _ _ ⟨Cond.after_iff.mpr rfl, Cond.after_iff.mpr (eq_i res_at (Term.int_eval (1)) rfl), trivial⟩ ⟨hq.1, hq.2.1, (hq.2.2.sift fun y hy => Or.inr (N y hy)).mono (by decide) (by decide)⟩⟩
theorem main_1_1 : Claimed_1_1 := comes_1 fun _ _ _ _ _ _ h hF => ⟨h.1, hF⟩
theorem main_1_2 : Claimed_1_2 := comes_1 fun _ _ _ _ _ _ h hF => ⟨h.2.1, hF⟩
end Jvm.Pilot.@@N@@
namespace Jvm.Pilot.@@N@@
open Jvm Jvm.ClassFile Sem Op Lib Jvm.Free Jvm.Stand Jvm.Pilot.@@N@@.Jvm.D
/-! MADE BY PROGRAM (witnessworld.py) out of the Statement's table words and the real class files: 9 classes; the members and pool entries that the words name. The judged class is class 1, her method 1. -/
namespace start1
open Jvm.ClassFile
def u (s : String) : CpInfo := .utf8 (stringToUtf16 s)
def gap : Nat → List CpInfo → List CpInfo
  | 0, r => r
  | n + 1, r => .unusable :: gap n r
def poolList (es : List (Nat × CpInfo)) (last : Nat) : List CpInfo := es.foldr (fun e r => gap e.1 (e.2 :: r)) (gap last [])
def pool (es : List (Nat × CpInfo)) (last : Nat) : Array CpInfo := ⟨poolList es last⟩
def fileOf (pool : Array CpInfo) (this : Nat) (attrs : Array Attribute := #[]) (ms : Array MethodInfo := #[]) (fl : Nat := 33) (sup : Nat := 0) (ifs : Array Nat := #[]) (fds : Array FieldInfo := #[]) : ClassFile where
  minorVersion := 0
  majorVersion := 65
  constantPool := pool
  accessFlags := fl
  thisClass := this
  superClass := sup
  interfaces := ifs
  fields := fds
  methods := ms
  attributes := attrs
def plain (name : String) (sup : Option ClassId) : Class where
  name := name
  kind := .ordinary
  loader := none
  accessFlags := 33
  super := sup
  interfaces := #[]
  cf := none
  fields := #[]
  methods := #[]
  instanceTypes := #[]
  staticTypes := #[]
  resolved := #[]
  callSites := []
  init := .initialized
  statics := none
  mirror := none

def pool0 : Array CpInfo := pool [(5, u "<init>"), (0, u "()V"), (1, .class_ 10), (1, u "java/lang/Object")] 113

def k0m0 : Method := { name := "<init>", desc := "()V", sig := { parameters := [], returnType := none }, accessFlags := 1, code := none }
def k0 : Class := { plain "java/lang/Object" none with
  accessFlags := 33
  interfaces := #[]
  cf := some (fileOf pool0 8 #[] #[{ accessFlags := 1, nameIndex := 5, descriptorIndex := 6, attributes := #[] }] 33 0 #[] #[])
  fields := #[]
  methods := #[k0m0]
  instanceTypes := #[]
  staticTypes := #[]
  resolved := Array.replicate 124 none
  statics := none }

def pool1 : Array CpInfo := pool [(2, .class_ 4), (1, u "java/lang/Object"), (0, u "<init>"), (0, u "()V"), (0, .integer 65535), (0, .methodref 9 10), (0, .class_ 11), (0, .nameAndType 12 13), (0, u site_48.cls), (0, u "isNameStart"), (0, u "(C)Z"), (0, .class_ 15), (0, u x.cls), (2, u "law"), (0, u "(I)Z")] 3

def k1m0 : Method := { name := "<init>", desc := "()V", sig := { parameters := [], returnType := none }, accessFlags := 2, code := none }
def k1c1 : Code := { maxStack := 2, maxLocals := 5, code := code, exceptionTable := #[], attributes := #[] }
def k1m1 : Method := { name := "law", desc := "(I)Z", sig := { parameters := [.int], returnType := some .boolean }, accessFlags := 9, code := some k1c1 }
def k1 : Class := { plain x.cls (some 0) with
  accessFlags := 49
  interfaces := #[]
  cf := some (fileOf pool1 14 #[] #[{ accessFlags := 2, nameIndex := 5, descriptorIndex := 6, attributes := #[] }, { accessFlags := 9, nameIndex := 18, descriptorIndex := 19, attributes := #[] }] 49 2 #[] #[])
  fields := #[]
  methods := #[k1m0, k1m1]
  instanceTypes := #[]
  staticTypes := #[]
  resolved := Array.replicate 23 none
  statics := none }

def pool2 : Array CpInfo := pool [(2, .class_ 4), (1, u "java/lang/Object"), (0, u "<init>"), (0, u "()V"), (1, .class_ 10), (1, u site_48.cls), (0, u "RESERVED"), (0, u "Ljava/util/List;"), (2, u "RESERVED_SET"), (0, u "Ljava/util/Set;"), (28, u "isNameStart"), (0, u "(C)Z")] 46

def k2m0 : Method := { name := "<init>", desc := "()V", sig := { parameters := [], returnType := none }, accessFlags := 2, code := none }
def k2c1 : Code := { maxStack := 2, maxLocals := 1, code := prog_215_method_5_code, exceptionTable := #[], attributes := #[] }
def k2m1 : Method := { name := "isNameStart", desc := "(C)Z", sig := { parameters := [.char], returnType := some .boolean }, accessFlags := 8, code := some k2c1 }
def k2 : Class := { plain site_48.cls (some 0) with
  accessFlags := 49
  interfaces := #[]
  cf := some (fileOf pool2 8 #[] #[{ accessFlags := 2, nameIndex := 5, descriptorIndex := 6, attributes := #[] }, { accessFlags := 8, nameIndex := 45, descriptorIndex := 46, attributes := #[] }] 49 2 #[] #[{ accessFlags := 26, nameIndex := 11, descriptorIndex := 12, attributes := #[] }, { accessFlags := 26, nameIndex := 15, descriptorIndex := 16, attributes := #[] }])
  fields := #[{ name := "RESERVED", type := (.object "java/util/List"), accessFlags := 26, slot := 0, constantValue := 0 }, { name := "RESERVED_SET", type := (.object "java/util/Set"), accessFlags := 26, slot := 1, constantValue := 0 }]
  methods := #[k2m0, k2m1]
  instanceTypes := #[]
  staticTypes := #[(.object "java/util/List"), (.object "java/util/Set")]
  resolved := Array.replicate 93 none
  statics := none }

def pool3 : Array CpInfo := pool [(1, u "java/lang/Cloneable"), (0, .class_ 1), (0, u "java/lang/Object"), (0, .class_ 3)] 3

def k3 : Class := { plain "java/lang/Cloneable" (some 0) with
  accessFlags := 1537
  interfaces := #[]
  cf := some (fileOf pool3 2 #[] #[] 1537 4 #[] #[])
  fields := #[]
  methods := #[]
  instanceTypes := #[]
  staticTypes := #[]
  resolved := Array.replicate 8 none
  statics := none }

def pool4 : Array CpInfo := pool [(1, u "java/io/Serializable"), (0, .class_ 1), (0, u "java/lang/Object"), (0, .class_ 3)] 3

def k4 : Class := { plain "java/io/Serializable" (some 0) with
  accessFlags := 1537
  interfaces := #[]
  cf := some (fileOf pool4 2 #[] #[] 1537 4 #[] #[])
  fields := #[]
  methods := #[]
  instanceTypes := #[]
  staticTypes := #[]
  resolved := Array.replicate 8 none
  statics := none }

def k5 : Class := { plain "byte" none with kind := .primitive 'B', accessFlags := 0x411 }
def k6 : Class := { plain "[B" (some 0) with kind := .array 5 .byte, interfaces := #[3, 4], accessFlags := 1041 }

def k7 : Class := { plain "int" none with kind := .primitive 'I', accessFlags := 0x411 }
def k8 : Class := { plain "[I" (some 0) with kind := .array 7 .int, interfaces := #[3, 4], accessFlags := 1041 }

def heap : Heap := #[]
def classes : Array Class := #[k0, k1, k2, k3, k4, k5, k6, k7, k8]
def interned : List (Array UInt16 × Addr) := []
def slotsUsed : Nat := 0
def theMethod : MethodId := ⟨1, 1⟩
def args0 : Array Value := #[.int 5]
def aboutOver (below : List Frame) : State where
  vm := { classes := classes, interned := interned.toArray }
  heap := heap
  slotsUsed := slotsUsed
  threads := #[{ frames := .invoking theMethod args0 :: below }]
def below0 : List Frame := [.native { method := ⟨0, 0⟩, args := #[] }]
def about1 : State := aboutOver below0
def p0 : Program := .bare "" "" ""
def e0 : Env := launch0.env 0 0 0
theorem w_frames : about1.frames = Frame.invoking theMethod args0 :: below0 := rfl
set_option maxRecDepth 65536 in
theorem w_args : argsFit about1.vm theMethod args0 = true := by decide +kernel
set_option maxRecDepth 65536 in
theorem w_heap : heapFits about1 = true := by decide +kernel
set_option maxRecDepth 65536 in
theorem w_runnable : about1.curStatus? = some .runnable := by decide +kernel
set_option maxRecDepth 65536 in
theorem w_alone : about1.alone = true := by decide +kernel
set_option maxRecDepth 65536 in
theorem w_named : about1.methodNamed? x = some theMethod := by decide +kernel
set_option maxRecDepth 65536 in
theorem w_hears : about1.hears theMethod below0 = true := by decide +kernel
set_option maxRecDepth 65536 in
theorem w_ripe : about1.ripe theMethod args0 below0 = true := by decide +kernel
theorem w_running : about1.status = .running := rfl
set_option maxRecDepth 65536 in
theorem w_room : about1.hasRoom e0.platform room_1 = true :=
  launch0.hasRoom_least _ room_1 (by decide +kernel) (by decide +kernel) (by decide +kernel) (by decide +kernel) (by decide +kernel) (by decide +kernel)
theorem allAtoms_all (ts : List Jvm.Cond) (a : Array Jvm.Value) (st : Jvm.State) : (allAtoms ts).before a st = ts.all (fun c => c.before a st) := by
  induction ts with
  | nil => rfl
  | cons c t ih =>
    show (Jvm.Cond.and c (allAtoms t)).before a st = _
    rw [Jvm.Cond.before_and, ih, List.all_cons]
def words1 : List Jvm.Cond := Jvm.Cond.code x code maxLocals ret :: tables_1
theorem code_word {y : MethodName} {bytes : ByteArray} {mx : Nat} {rt : Option FieldType} {a : Array Value} {s : State} {m : MethodId} {meth : Method} {c : Code} (h1 : s.methodNamed? y = some m) (h2 : s.vm.method? m = some meth) (h3 : meth.code = some c) (h4 : c.code = bytes)
    (h5 : (c.maxLocals == mx && c.exceptionTable.isEmpty && decide (c.maxStack ≤ mostOperands) && decide (meth.sig.returnType = rt) && !meth.locks && decide (parseMethodDescriptor y.desc = some meth.sig)) = true) : (Jvm.Cond.code y bytes mx rt).before a s = true := by
  simp only [Bool.and_eq_true, beq_iff_eq, Bool.not_eq_true', decide_eq_true_eq] at h5
  obtain ⟨⟨⟨⟨⟨g1, g2⟩, g3⟩, g4⟩, g5⟩, g6⟩ := h5
  simp [Cond.before, Cond.holds, Cond.value, h1, h2, h3, h4, g1, g2, g3, g4, g5, g6]
def isCode : Jvm.Cond → Bool
  | .code _ _ _ _ => true
  | _ => false
theorem all_split {L : List Jvm.Cond} {P : Jvm.Cond → Bool} (h1 : L.all (fun c => isCode c || P c) = true) (h2 : ∀ c ∈ L.filter isCode, P c = true) : L.all P = true := by
  refine List.all_eq_true.mpr fun c hc => ?_
  have h := List.all_eq_true.mp h1 c hc
  rcases Bool.eq_false_or_eq_true (isCode c) with hi | hi
  · exact h2 c (List.mem_filter.mpr ⟨hc, hi⟩)
  · simpa [hi] using h
set_option maxRecDepth 65536 in
theorem w_c0 : (Jvm.Cond.code x code maxLocals ret).before args0 about1 = true := code_word (m := ⟨1, 1⟩) (meth := k1m1) (c := k1c1) (by decide +kernel) rfl rfl rfl (by decide +kernel)
set_option maxRecDepth 65536 in
theorem w_c1 : (Jvm.Cond.code ({ cls := site_48.cls, name := "isNameStart", desc := "(C)Z" } : Jvm.MethodName) prog_215_method_5_code (1 : Nat) (Option.some Jvm.ClassFile.FieldType.boolean)).before args0 about1 = true := code_word (m := ⟨2, 1⟩) (meth := k2m1) (c := k2c1) (by decide +kernel) rfl rfl rfl (by decide +kernel)
def codes1 : List Jvm.Cond := [Jvm.Cond.code x code maxLocals ret, Jvm.Cond.code ({ cls := site_48.cls, name := "isNameStart", desc := "(C)Z" } : Jvm.MethodName) prog_215_method_5_code (1 : Nat) (Option.some Jvm.ClassFile.FieldType.boolean)]
set_option maxRecDepth 65536 in
theorem codes_eq : words1.filter isCode = codes1 := rfl
theorem w_codes : ∀ c ∈ words1.filter isCode, c.before args0 about1 = true := by
  rw [codes_eq]
  intro c hc
  simp only [codes1, List.mem_cons, List.not_mem_nil, or_false] at hc
  rcases hc with rfl | rfl
  · exact w_c0
  · exact w_c1
set_option maxRecDepth 65536 in
theorem w_t1 : words1.all (fun c => isCode c || c.before args0 about1) = true := by decide +kernel
theorem w_tables : (allAtoms (Jvm.Cond.code x code maxLocals ret :: tables_1)).before args0 about1 = true := by
  rw [allAtoms_all]
  show words1.all (fun c => c.before args0 about1) = true
  refine all_split ?_ w_codes
  rw [w_t1]
set_option maxRecDepth 65536 in
theorem w_case : (Jvm.Cond.and given_1 narrow_1).before args0 about1 = true := by decide +kernel
theorem w_applies : (headSpec (Jvm.Cond.code x code maxLocals ret :: tables_1) room_1).applies x e0.platform about1 = true :=
  (Spec.applies_iff w_frames).mpr ⟨w_running, w_runnable, w_alone, w_named, w_hears, w_ripe, w_room, w_tables⟩
theorem atStart : AtStart classFile x code maxLocals ret World_1 tables_1 room_1 Calls_1 rest_1 Pre_1 launch0 p0 e0 about1 theMethod args0 below0 :=
  ⟨lists_1, trivial, launch0.admits_env _ _ _, launch0.least_env, fairChoices_fair.cas, fairChoices_fair.clock, w_frames, w_args, w_heap, w_applies, trivial, trivial, w_case⟩
end start1
theorem witness_1 : WitnessClaimed_1 := ⟨start1.p0, start1.e0, start1.about1, start1.theMethod, start1.args0, start1.below0, start1.atStart⟩
end Jvm.Pilot.@@N@@
