import JvmDerived
import JvmDerived.Pilot.@@N@@Statement
import JvmDerived.Pilot.@@N@@Code
set_option linter.unusedVariables false
set_option linter.unusedSimpArgs false
namespace Jvm.Pilot.@@N@@
open Jvm Jvm.ClassFile Sem Op Lib Jvm.Free Jvm.Stand Jvm.LawKit Jvm.RoadKit Bundle Jvm.Pilot.@@N@@.Jvm.D
theorem own_w {Z : State} {a0 : Array Value} (hw : ∀ d ∈ tables_1, d.before a0 Z = true) (k : Nat) {d : Jvm.Cond} (h : tables_1[k]? = some d) : d.before a0 Z = true := hw _ (List.mem_of_getElem? h)
/-- the run from U ends, and Q says what it leaves -/
def own_Fin (p : Program) (e : Env) (below : List Frame) (s : State) (Q : Option Value → Heap → List Loc → Prop) (k n : Nat) (U : State) : Prop :=
  ∃ s₂ o, Steps p.tables e below U s₂ ∧ s₂.status = .running ∧ Ended s₂ below o ∧ ∃ v L, o = .returned v ∧ Q v s₂.heap L ∧ FrameEnd s o s₂ L k n
theorem own_Fin.step {p : Program} {e : Env} {below : List Frame} {s : State} {Q : Option Value → Heap → List Loc → Prop} {k n : Nat} {U U' : State} (st : ∀ t, Steps p.tables e below U' t → Steps p.tables e below U t) (h : own_Fin p e below s Q k n U') : own_Fin p e below s Q k n U := by
  obtain ⟨s₂, o, h1, h2⟩ := h
  exact ⟨s₂, o, st _ h1, h2⟩
/-- a contract: called with as' at the heap h, the body leaves what Q says -/
abbrev own_Met (l : Launch) (Z : State) (ws : List Jvm.Cond) (y : MethodName) (bytes : ByteArray) (maxL : Nat) (ret : Option FieldType) (rm : Room) (as' : Array Value) (h : Heap) (Q : Option Value → Heap → List Loc → Prop) : Prop :=
  MetFree l y (head1 (Jvm.Cond.code y bytes maxL ret :: ws) rm) (fun a U => a = as' ∧ Z.Warmed39 U.vm ∧ U.heap = h) (fun _ _ _ _ _ => True) (fun _ U o U' => ∃ v L, o = .returned v ∧ Q v U'.heap L ∧ FrameEnd U o U' L rm.cells rm.slots)
/-- what a body leaves that returns w and writes nothing -/
def own_QP (w : Option Value) (h0 : Heap) (n0 : Nat) (v : Option Value) (h : Heap) (L : List Loc) : Prop := v = w ∧ Fr n0 L ∧ h = h0
/-- the law's own end -/
def own_Q0 (n0 : Nat) (v : Option Value) (h : Heap) (L : List Loc) : Prop := v = some (.int 1) ∧ Fr n0 L
theorem own_enter {l : Launch} {Z : State} {ws : List Jvm.Cond} {y : MethodName} {bytes : ByteArray} {maxL : Nat} {ret : Option FieldType} {rm : Room} {as' : Array Value} {h : Heap} {Q : Option Value → Heap → List Loc → Prop} (hp : plainFor y = true)
    (body : ∀ (p : Program) (e : Env) (s : State) (m : MethodId) (below : List Frame) (meth : Method) (c : Code) (s₁ : State), Stand p l e rm s m as' below meth c s₁ [] 0 0 → p.tables.exec = Jvm.exec → c.code = bytes → c.maxLocals = maxL → s.vm.findClass y.cls = some m.cls → meth.sig.returnType = ret → meth.locks = false → meth.name = y.name → Z.Warmed39 s.vm → s₁.heap = h →
      own_Fin p e below s Q rm.cells rm.slots (s₁.setTop (entryFrame m as' maxL))) : own_Met l Z ws y bytes maxL ret rm as' h Q := by
  refine MetFree.of_bodySF hp hisR ?_
  intro p e s m args below meth c s₁ Bd hml0 hP hK
  obtain ⟨rfl, hZ, hh⟩ := hP
  exact body p e s m below meth c s₁ (Stand.of_body Bd) Bd.exec Bd.bytes hml0 (findClass_of_methodNamed Bd.named) Bd.returns (BodyLoose.notSynchronized Bd) (name_of_methodNamed Bd.named Bd.method).1 hZ (by rw [← hh, Bd.state]; rfl)
section Own
variable {p : Program} {l : Launch} {e : Env} {R : Room} {s : State} {m : MethodId} {args : Array Value} {below : List Frame} {meth : Method} {c : Code} {T : State} {locs : List Loc} {cells slots : Nat} {Z : State} {a0 : Array Value} {h : Heap} {Q : Option Value → Heap → List Loc → Prop} {k n : Nat}
theorem own_retI (X : Stand p l e R s m args below meth c T locs cells slots) (hx : p.tables.exec = Jvm.exec) (hlk : meth.locks = false) {pc : Nat} {Ls : Array Slot} {z : Int32} {rest : List Value} (hret : meth.sig.returnType = some .int) (hd : decode c.code pc = .ok (.ireturn, 1)) (hQ : Q (some (.int z)) T.heap locs) (hk : cells ≤ k) (hn : slots ≤ n) :
    own_Fin p e below s Q k n (T.setTop (mkF m pc Ls (.int z :: rest))) := by
  obtain ⟨fs, hr, hrun, hended, hW, hsame⟩ := X.leave (v := some (.int z)) (fun h => by rw [hret] at h; cases h) hlk
  refine ⟨_, _, ?_, hrun, hended, _, _, rfl, hQ, ⟨_, rfl⟩, hW, hsame.mono hk hn⟩
  have hm' : T.vm.method? m = some meth := X.method'
  have hnn : narrow .int (.int z) = .int z := rfl
  show Steps p.tables e below (T.setTop { method := m, pc := pc, locals := Ls, stack := _ :: rest, locked := none }) _
  jvm_step X.here [X.here.top, hx, hd, hm', hret, hnn]
  first | (intro acts; rw [hr _ acts rfl rfl rfl]) | rw [hr _ _ rfl rfl rfl]
  exact Steps.refl _
theorem own_retN (X : Stand p l e R s m args below meth c T locs cells slots) (hx : p.tables.exec = Jvm.exec) (hlk : meth.locks = false) {pc : Nat} {Ls : Array Slot} {z : Int32} {t : FieldType} {rest : List Value} (hret : meth.sig.returnType = some t) (ht : t = .boolean ∨ t = .byte ∨ t = .char ∨ t = .short) (hd : decode c.code pc = .ok (.ireturn, 1)) (hQ : Q (some (.int (nar t z))) T.heap locs) (hk : cells ≤ k) (hn : slots ≤ n) :
    own_Fin p e below s Q k n (T.setTop (mkF m pc Ls (.int z :: rest))) := by
  obtain ⟨fs, hr, hrun, hended, hW, hsame⟩ := X.leave (v := some (.int (nar t z))) (fun h => by rw [hret] at h; cases h) hlk
  exact ⟨_, _, retN X hx hret ht hd hr, hrun, hended, _, _, rfl, hQ, ⟨_, rfl⟩, hW, hsame.mono hk hn⟩
theorem own_retJ (X : Stand p l e R s m args below meth c T locs cells slots) (hx : p.tables.exec = Jvm.exec) (hlk : meth.locks = false) {pc : Nat} {Ls : Array Slot} {z : Int64} (hret : meth.sig.returnType = some .long) (hd : decode c.code pc = .ok (.lreturn, 1)) (hQ : Q (some (.long z)) T.heap locs) (hk : cells ≤ k) (hn : slots ≤ n) :
    own_Fin p e below s Q k n (T.setTop (mkF m pc Ls [.long z])) := by
  obtain ⟨fs, hr, hrun, hended, hW, hsame⟩ := X.leave (v := some (.long z)) (fun h => by rw [hret] at h; cases h) hlk
  exact ⟨_, _, X.lreturnOut hx hret hd hr, hrun, hended, _, _, rfl, hQ, ⟨_, rfl⟩, hW, hsame.mono hk hn⟩
theorem own_retR (X : Stand p l e R s m args below meth c T locs cells slots) (hx : p.tables.exec = Jvm.exec) (hlk : meth.locks = false) {pc : Nat} {Ls : Array Slot} {w : Value} {t : FieldType} (hw : w.isRef = true) (hret : meth.sig.returnType = some t) (ht : t.isReference = true) (hd : decode c.code pc = .ok (.areturn, 1)) (hQ : Q (some w) T.heap locs) (hk : cells ≤ k) (hn : slots ≤ n) :
    own_Fin p e below s Q k n (T.setTop (mkF m pc Ls [w])) := by
  obtain ⟨fs, hr, hrun, hended, hW, hsame⟩ := X.leave (v := some w) (fun h => by rw [hret] at h; cases h) hlk
  exact ⟨_, _, X.areturnOut hx hw hret ht hd hr, hrun, hended, _, _, rfl, hQ, ⟨_, rfl⟩, hW, hsame.mono hk hn⟩
theorem own_ret0 (X : Stand p l e R s m args below meth c T locs cells slots) (hx : p.tables.exec = Jvm.exec) (hlk : meth.locks = false) {pc : Nat} {Ls : Array Slot} (hret : meth.sig.returnType = none) (hd : decode c.code pc = .ok (.return_, 1)) (hQ : Q none T.heap locs) (hk : cells ≤ k) (hn : slots ≤ n) :
    own_Fin p e below s Q k n (T.setTop (mkF m pc Ls [])) := by
  obtain ⟨fs, hr, hrun, hended, hW, hsame⟩ := X.leave (v := none) (fun _ => rfl) hlk
  exact ⟨_, _, X.returnOut hx hret hd hr, hrun, hended, _, _, rfl, hQ, ⟨_, rfl⟩, hW, hsame.mono hk hn⟩
theorem own_lrem {tb : Tables} [Ours tb] {target : State} {g : JFrame} (h : At T m c below) (hx : tb.exec = Jvm.exec) (hg : g.method = m) {x y : Int64} {rest : List Value} (hd : decode c.code g.pc = .ok (.lrem, 1)) (hs : g.stack = .long y :: .long x :: rest) (hy : y ≠ 0)
    (hr : Steps tb e below (T.setTop { g with pc := g.pc + 1, stack := .long (x % y) :: rest }) target) : Steps tb e below (T.setTop g) target := by
  have q : x - x / y * y = x % y := lrem_mod x y
  exact XS.lrem h hx hg hd hs hy (by rw [q]; exact hr)
theorem own_callS (X : Stand p l e R s m args below meth c T locs cells slots) (hx : p.tables.exec = Jvm.exec) (hZ : Z.Warmed39 s.vm) {own : String} {index : Nat} {y : MethodName} {bytes : ByteArray} {maxL : Nat} {ret : Option FieldType} {rm : Room} {as' : Array Value}
    (hown : s.vm.findClass own = some m.cls) (w1 : (Jvm.Cond.methodLink own index y).before a0 Z = true) (w2 : (Jvm.Cond.static y).before a0 Z = true) (w3 : (Jvm.Cond.initialized y.cls).before a0 Z = true) (w4 : (Jvm.Cond.code y bytes maxL ret).before a0 Z = true)
    (hy : y.cls ≠ "java/lang/invoke/MethodHandle" ∧ y.cls ≠ "java/lang/invoke/VarHandle") (hM : own_Met l Z [] y bytes maxL ret rm as' h Q) {W : Nat} (hf : rm.frames + 1 ≤ R.frames) (hl : W + (maxL + 11) + rm.locals ≤ R.locals) (eT : T.heap = h)
    {g : JFrame} (hg : g.method = m) (hsize : g.locals.size = c.maxLocals) {argsL rest : List Value} (hlen : ∀ sig, parseMethodDescriptor y.desc = some sig → argsL.length = sig.parameters.length) (has : argsL.toArray = as') (hstack : g.stack = argsL.reverse ++ rest) (hW : 2 * g.monitorRoom + (rest.map fun v => v.category).sum ≤ W)
    (hdg : decode c.code g.pc = .ok (.invokestatic index, 3)) (hc : cells + rm.cells ≤ R.cells) (hs : slots + rm.slots ≤ R.slots) :
    ∃ v T' L, Stand p l e R s m args below meth c T' (locs ++ L) (cells + rm.cells) (slots + rm.slots) ∧ Q v T'.heap L ∧ ∀ t, Steps p.tables e below (T'.setTop { g with pc := g.pc + 3, stack := v.toList ++ rest }) t → Steps p.tables e below (T.setTop g) t := by
  obtain ⟨v, vm1, ⟨T', L', k', n'⟩, -, X', ⟨Lc, hQ, l1, y1, z1⟩, st⟩ := Jvm.LawKit.callS X hx (y := y) hown (mvT hZ w1) (mvT hZ w2) (mvT hZ w3) (mvT hZ w4) hy (backOf (W := W) hM hZ w4 w3 hf hl) (g := g) hg hsize (argsL := argsL) (rest := rest) hlen hstack hW hdg (fun _ _ => ⟨has, eT, hc, hs⟩)
  dsimp only [Pt.U, Pt.locs, Pt.cells, Pt.slots] at X' l1 y1 z1 st hQ
  subst l1 y1 z1
  exact ⟨v, T', Lc, X', hQ, st⟩
theorem own_callN (X : Stand p l e R s m args below meth c T locs cells slots) (hx : p.tables.exec = Jvm.exec) (hZ : Z.Warmed39 s.vm) {own : String} {index : Nat} {y : MethodName} {bytes : ByteArray} {maxL : Nat} {rm : Room} {as' : Array Value} (hy1 : y.name = "<init>")
    (hown : s.vm.findClass own = some m.cls) (w1 : (Jvm.Cond.methodLink own index y).before a0 Z = true) (w2 : (Jvm.Cond.instanceMethod y).before a0 Z = true) (w3 : (Jvm.Cond.initialized y.cls).before a0 Z = true) (w4 : (Jvm.Cond.code y bytes maxL none).before a0 Z = true)
    (hy : y.cls ≠ "java/lang/invoke/MethodHandle" ∧ y.cls ≠ "java/lang/invoke/VarHandle") (hM : own_Met l Z [] y bytes maxL none rm as' h Q) {W : Nat} (hf : rm.frames + 1 ≤ R.frames) (hl : W + (maxL + 11) + rm.locals ≤ R.locals) {a : Addr} (eT : T.heap = h)
    {g : JFrame} (hg : g.method = m) (hsize : g.locals.size = c.maxLocals) {argsL rest : List Value} (hlen : ∀ sig, parseMethodDescriptor y.desc = some sig → argsL.length = sig.parameters.length) (has : (.ref a :: argsL).toArray = as') (hstack : g.stack = argsL.reverse ++ .ref a :: rest) (hW : 2 * g.monitorRoom + (rest.map fun v => v.category).sum ≤ W)
    (hdg : decode c.code g.pc = .ok (.invokespecial index, 3)) (hc : cells + rm.cells ≤ R.cells) (hs : slots + rm.slots ≤ R.slots) :
    ∃ v T' L, Stand p l e R s m args below meth c T' (locs ++ L) (cells + rm.cells) (slots + rm.slots) ∧ Q v T'.heap L ∧ ∀ t, Steps p.tables e below (T'.setTop { g with pc := g.pc + 3, stack := v.toList ++ rest }) t → Steps p.tables e below (T.setTop g) t := by
  obtain ⟨v, vm1, ⟨T', L', k', n'⟩, -, X', ⟨Lc, hQ, l1, y1, z1⟩, st⟩ := X.specialBack hx (y := y) hy1 hown (mvT hZ w1) (mvT hZ w2) (mvT hZ w4) hy (backOf (W := W) hM hZ w4 w3 hf hl) (g := g) hg hsize (Steps.refl _) (a := a) (argsL := argsL) (rest := rest) hlen hstack hW hdg (fun _ _ => ⟨has, eT, hc, hs⟩)
  dsimp only [Pt.U, Pt.locs, Pt.cells, Pt.slots] at X' l1 y1 z1 st hQ
  subst l1 y1 z1
  exact ⟨v, T', Lc, X', hQ, fun t k => st.trans k⟩
theorem own_callV (X : Stand p l e R s m args below meth c T locs cells slots) (hx : p.tables.exec = Jvm.exec) (hZ : Z.Warmed39 s.vm) {own C : String} {index : Nat} {y : MethodName} {bytes : ByteArray} {maxL : Nat} {ret : Option FieldType} {rm : Room} {as' : Array Value}
    (hown : s.vm.findClass own = some m.cls) (w1 : (Jvm.Cond.methodLink own index y).before a0 Z = true) (w2 : (Jvm.Cond.declares y).before a0 Z = true) (w5 : (Jvm.Cond.selects C y y).before a0 Z = true) (w6 : (Jvm.Cond.instanceMethod y).before a0 Z = true) (w3 : (Jvm.Cond.initialized y.cls).before a0 Z = true) (w4 : (Jvm.Cond.code y bytes maxL ret).before a0 Z = true)
    (hy : y.cls ≠ "java/lang/invoke/MethodHandle" ∧ y.cls ≠ "java/lang/invoke/VarHandle") (hM : own_Met l Z [] y bytes maxL ret rm as' h Q) {W : Nat} (hf : rm.frames + 1 ≤ R.frames) (hl : W + (maxL + 11) + rm.locals ≤ R.locals) {a : Addr} (E : Exa Z h a C) (eT : T.heap = h)
    {g : JFrame} (hg : g.method = m) (hsize : g.locals.size = c.maxLocals) {argsL rest : List Value} (hlen : ∀ sig, parseMethodDescriptor y.desc = some sig → argsL.length = sig.parameters.length) (has : (.ref a :: argsL).toArray = as') (hstack : g.stack = argsL.reverse ++ .ref a :: rest) (hW : 2 * g.monitorRoom + (rest.map fun v => v.category).sum ≤ W)
    (hdg : decode c.code g.pc = .ok (.invokevirtual index, 3)) (hc : cells + rm.cells ≤ R.cells) (hs : slots + rm.slots ≤ R.slots) :
    ∃ v T' L, Stand p l e R s m args below meth c T' (locs ++ L) (cells + rm.cells) (slots + rm.slots) ∧ Q v T'.heap L ∧ ∀ t, Steps p.tables e below (T'.setTop { g with pc := g.pc + 3, stack := v.toList ++ rest }) t → Steps p.tables e below (T.setTop g) t := by
  obtain ⟨cq, kq, qa, qb, qc⟩ := isOf hZ eT E
  obtain ⟨v, vm1, ⟨T', L', k', n'⟩, -, X', ⟨Lc, hQ, l1, y1, z1⟩, st⟩ := X.virtualBack hx (y := y) (z := y) hown (mvT hZ w1) (mvT hZ w2) (notFace_of_selects (args := #[]) (mvT hZ w5)) (mvT hZ w5) (mvT hZ w6) hy (backOf (W := W) hM hZ w4 w3 hf hl) qa qc (g := g) hg hsize (Steps.refl _) (argsL := argsL) (rest := rest) hlen hstack hW hdg (fun _ _ => ⟨has, eT, hc, hs⟩)
  dsimp only [Pt.U, Pt.locs, Pt.cells, Pt.slots] at X' l1 y1 z1 st hQ
  subst l1 y1 z1
  exact ⟨v, T', Lc, X', hQ, fun t k => st.trans k⟩
theorem own_newA (X : Stand p l e R s m args below meth c T locs cells slots) (hx : p.tables.exec = Jvm.exec) (hZ : Z.Warmed39 s.vm) {aty : ArrayType} (w : (Jvm.Cond.arrayClass (newarray.typeOf aty)).before a0 Z = true) (eT : T.heap = h) {ty : FieldType} {dv : Value} (hty : newarray.typeOf aty = ty) (hdv : defaultValue ty = dv)
    {g : JFrame} (hg : g.method = m) (hd : decode c.code g.pc = .ok (.newarray aty, 2)) {n : Int32} {rest : List Value} (hs : g.stack = .int n :: rest) (hn : ¬ n < 0) {cap : Nat} (hcap : n.toNatClampNeg ≤ cap) (hb : cap * 8 ≤ 536870912) (hc : cells + 1 ≤ R.cells) (hl : slots + cap ≤ R.slots) (N : Nat) :
    ∃ T' h' k a, Stand p l e R s m args below meth c T' locs (cells + 1) (slots + cap) ∧ T'.heap = h' ∧ Ext h h' ∧ a = h.size ∧ Arv Z h' a k ty n (List.replicate N dv) dv ∧
      ∀ t, Steps p.tables e below (T'.setTop { g with pc := g.pc + 2, stack := .ref a :: rest }) t → Steps p.tables e below (T.setTop g) t := by
  subst hty hdv
  obtain ⟨T', h', k, X', e', E, A, st⟩ := newP X hx hZ w eT hg hd hs hn hcap hb hc hl
  exact ⟨T', h', k, _, X', e', E, rfl, by simpa using (Arv.new A hn).pad (pad_rep [] _ N), st⟩
theorem own_stI (X : Stand p l e R s m args below meth c T locs cells slots) (hx : p.tables.exec = Jvm.exec) (hZ : Z.Warmed39 s.vm) (eT : T.heap = h) {a : Addr} {k : ClassId} {n : Int32} {vs : List Value} {dv : Value} (F : Arv Z h a k .int n vs dv) {j x : Int32} (hj : ¬ j < 0 ∧ j < n) (i : Nat) (hi : j.toNatClampNeg = i) (hl : i < vs.length)
    {g : JFrame} (hg : g.method = m) {rest : List Value} (hs : g.stack = .int x :: .int j :: .ref a :: rest) (hd : decode c.code g.pc = .ok (.iastore, 1)) :
    ∃ T' h', Stand p l e R s m args below meth c T' (locs ++ [⟨a, j.toNatClampNeg⟩]) cells slots ∧ T'.heap = h' ∧ Arv Z h' a k .int n (vs.set i (.int x)) dv ∧ Wr h h' a j.toNatClampNeg (.int x) ∧ ∀ t, Steps p.tables e below (T'.setTop { g with pc := g.pc + 1, stack := rest }) t → Steps p.tables e below (T.setTop g) t := by
  obtain ⟨cl, A, q1, q2, q3, H, G⟩ := F
  obtain ⟨T', h', X', e', W, st⟩ := stI X hx hZ eT A (j := j) (inb_of q2 hj) hg hs hd
  exact ⟨T', h', X', e', Arv.set A q1 q2 q3 H G rfl W i hi hl, W, st⟩
theorem own_stJ (X : Stand p l e R s m args below meth c T locs cells slots) (hx : p.tables.exec = Jvm.exec) (hZ : Z.Warmed39 s.vm) (eT : T.heap = h) {a : Addr} {k : ClassId} {n : Int32} {vs : List Value} {dv : Value} (F : Arv Z h a k .long n vs dv) {j : Int32} {x : Int64} (hj : ¬ j < 0 ∧ j < n) (i : Nat) (hi : j.toNatClampNeg = i) (hl : i < vs.length)
    {g : JFrame} (hg : g.method = m) {rest : List Value} (hs : g.stack = .long x :: .int j :: .ref a :: rest) (hd : decode c.code g.pc = .ok (.lastore, 1)) :
    ∃ T' h', Stand p l e R s m args below meth c T' (locs ++ [⟨a, j.toNatClampNeg⟩]) cells slots ∧ T'.heap = h' ∧ Arv Z h' a k .long n (vs.set i (.long x)) dv ∧ Wr h h' a j.toNatClampNeg (.long x) ∧ ∀ t, Steps p.tables e below (T'.setTop { g with pc := g.pc + 1, stack := rest }) t → Steps p.tables e below (T.setTop g) t := by
  obtain ⟨cl, A, q1, q2, q3, H, G⟩ := F
  obtain ⟨T', h', X', e', W, st⟩ := stJ X hx hZ eT A (j := j) (inb_of q2 hj) hg hs hd
  exact ⟨T', h', X', e', Arv.set A q1 q2 q3 H G rfl W i hi hl, W, st⟩
theorem own_stB (X : Stand p l e R s m args below meth c T locs cells slots) (hx : p.tables.exec = Jvm.exec) (hZ : Z.Warmed39 s.vm) (eT : T.heap = h) {a : Addr} {k : ClassId} {n : Int32} {vs : List Value} {dv : Value} (F : Arv Z h a k .byte n vs dv) {j x : Int32} (hj : ¬ j < 0 ∧ j < n) (i : Nat) (hi : j.toNatClampNeg = i) (hl : i < vs.length)
    {g : JFrame} (hg : g.method = m) {rest : List Value} (hs : g.stack = .int x :: .int j :: .ref a :: rest) (hd : decode c.code g.pc = .ok (.bastore, 1)) :
    ∃ T' h', Stand p l e R s m args below meth c T' (locs ++ [⟨a, j.toNatClampNeg⟩]) cells slots ∧ T'.heap = h' ∧ Arv Z h' a k .byte n (vs.set i (.int (nar .byte x))) dv ∧ Wr h h' a j.toNatClampNeg (.int (nar .byte x)) ∧ ∀ t, Steps p.tables e below (T'.setTop { g with pc := g.pc + 1, stack := rest }) t → Steps p.tables e below (T.setTop g) t := by
  obtain ⟨cl, A, q1, q2, q3, H, G⟩ := F
  obtain ⟨T', h', X', e', W, st⟩ := stB X hx hZ eT A (j := j) (inb_of q2 hj) hg hs hd
  exact ⟨T', h', X', e', Arv.set A q1 q2 q3 H G (fits_nar_byte x) W i hi hl, W, st⟩
theorem own_nar (y : Int32) : nar .byte y.toInt8.toInt32 = y.toInt8.toInt32 := by
  show y.toInt8.toInt32.toInt8.toInt32 = _
  simp
theorem own_stBn (X : Stand p l e R s m args below meth c T locs cells slots) (hx : p.tables.exec = Jvm.exec) (hZ : Z.Warmed39 s.vm) (eT : T.heap = h) {a : Addr} {k : ClassId} {n : Int32} {vs : List Value} {dv : Value} (F : Arv Z h a k .byte n vs dv) {j x : Int32} (hj : ¬ j < 0 ∧ j < n) (i : Nat) (hi : j.toNatClampNeg = i) (hl : i < vs.length)
    {g : JFrame} (hg : g.method = m) {rest : List Value} (hs : g.stack = .int x.toInt8.toInt32 :: .int j :: .ref a :: rest) (hd : decode c.code g.pc = .ok (.bastore, 1)) :
    ∃ T' h', Stand p l e R s m args below meth c T' (locs ++ [⟨a, j.toNatClampNeg⟩]) cells slots ∧ T'.heap = h' ∧ Arv Z h' a k .byte n (vs.set i (.int x.toInt8.toInt32)) dv ∧ Wr h h' a j.toNatClampNeg (.int x.toInt8.toInt32) ∧ ∀ t, Steps p.tables e below (T'.setTop { g with pc := g.pc + 1, stack := rest }) t → Steps p.tables e below (T.setTop g) t := by
  have h := own_stB X hx hZ eT F hj i hi hl hg hs hd
  rw [own_nar] at h
  exact h
theorem own_ldI (X : Stand p l e R s m args below meth c T locs cells slots) (hx : p.tables.exec = Jvm.exec) (hZ : Z.Warmed39 s.vm) (eT : T.heap = h) {a : Addr} {k : ClassId} {n : Int32} {vs : List Value} {dv v : Value} (F : Arv Z h a k .int n vs dv) {j : Int32} (hj : ¬ j < 0 ∧ j < n) (hv : vs.getD j.toNatClampNeg dv = v)
    {g : JFrame} (hg : g.method = m) {rest : List Value} (hs : g.stack = .int j :: .ref a :: rest) (hd : decode c.code g.pc = .ok (.iaload, 1)) :
    ∀ t, Steps p.tables e below (T.setTop { g with pc := g.pc + 1, stack := v :: rest }) t → Steps p.tables e below (T.setTop g) t := by
  obtain ⟨cl, A, q1, q2, q3, H, G⟩ := F
  have hin := inb_of q2 hj
  exact fun t kt => X.iaload hx (j := j) (v := v) (by rw [eT]; exact A.1) (State.isArrayOf_alike hZ.alike A.2.1) A.2.2 hin (H.at hin hv) hg hs hd _ kt
theorem own_ldJ (X : Stand p l e R s m args below meth c T locs cells slots) (hx : p.tables.exec = Jvm.exec) (hZ : Z.Warmed39 s.vm) (eT : T.heap = h) {a : Addr} {k : ClassId} {n : Int32} {vs : List Value} {dv v : Value} (F : Arv Z h a k .long n vs dv) {j : Int32} (hj : ¬ j < 0 ∧ j < n) (hv : vs.getD j.toNatClampNeg dv = v)
    {g : JFrame} (hg : g.method = m) {rest : List Value} (hs : g.stack = .int j :: .ref a :: rest) (hd : decode c.code g.pc = .ok (.laload, 1)) :
    ∀ t, Steps p.tables e below (T.setTop { g with pc := g.pc + 1, stack := v :: rest }) t → Steps p.tables e below (T.setTop g) t := by
  obtain ⟨cl, A, q1, q2, q3, H, G⟩ := F
  have hin := inb_of q2 hj
  exact fun t kt => X.laload hx (j := j) (v := v) (by rw [eT]; exact A.1) (State.isArrayOf_alike hZ.alike A.2.1) A.2.2 hin (H.at hin hv) hg hs hd _ kt
theorem own_ldB (X : Stand p l e R s m args below meth c T locs cells slots) (hx : p.tables.exec = Jvm.exec) (hZ : Z.Warmed39 s.vm) (eT : T.heap = h) {a : Addr} {k : ClassId} {n : Int32} {vs : List Value} {dv v : Value} (F : Arv Z h a k .byte n vs dv) {j : Int32} (hj : ¬ j < 0 ∧ j < n) (hv : vs.getD j.toNatClampNeg dv = v)
    {g : JFrame} (hg : g.method = m) {rest : List Value} (hs : g.stack = .int j :: .ref a :: rest) (hd : decode c.code g.pc = .ok (.baload, 1)) :
    ∀ t, Steps p.tables e below (T.setTop { g with pc := g.pc + 1, stack := v :: rest }) t → Steps p.tables e below (T.setTop g) t := by
  obtain ⟨cl, A, q1, q2, q3, H, G⟩ := F
  have hin := inb_of q2 hj
  exact fun t kt => X.baloadBytes hx (j := j) (v := v) (by rw [eT]; exact A.1) (State.isArrayOf_alike hZ.alike A.2.1) A.2.2 hin (H.at hin hv) hg hs hd _ kt
theorem own_len (X : Stand p l e R s m args below meth c T locs cells slots) (hx : p.tables.exec = Jvm.exec) (hZ : Z.Warmed39 s.vm) (eT : T.heap = h) {a : Addr} {k : ClassId} {ty : FieldType} {n : Int32} {vs : List Value} {dv : Value} (F : Arv Z h a k ty n vs dv)
    {g : JFrame} (hg : g.method = m) {rest : List Value} (hs : g.stack = .ref a :: rest) (hd : decode c.code g.pc = .ok (.arraylength, 1)) :
    ∀ t, Steps p.tables e below (T.setTop { g with pc := g.pc + 1, stack := .int n :: rest }) t → Steps p.tables e below (T.setTop g) t := by
  obtain ⟨cl, A, q1, q2, q3, H, G⟩ := F
  exact fun t kt => X.arraylength hx (by rw [eT]; exact A.1) (State.isArrayOf_alike hZ.alike A.2.1) hg hs hd _ (by rw [len_of q2 q3]; exact kt)
end Own
/-- an array of small numbers by a function of the place -/
def own_Arf (Z : State) (h : Heap) (a : Addr) (k : ClassId) (ty : FieldType) (n : Int32) (f : Nat → Int32) : Prop := ∃ c : Cell, Arr Z h a c ty ∧ c.cls = k ∧ c.slots.size = n.toNatClampNeg ∧ ¬ n < 0 ∧ ∀ i, i < c.slots.size → c.slots[i]? = some (.int (f i))
def own_upd (f : Nat → Int32) (j : Nat) (x : Int32) : Nat → Int32 := fun i => if i = j then x else f i
section OwnF
variable {p : Program} {l : Launch} {e : Env} {R : Room} {s : State} {m : MethodId} {args : Array Value} {below : List Frame} {meth : Method} {c : Code} {T : State} {locs : List Loc} {cells slots : Nat} {Z : State} {a0 : Array Value} {h h' : Heap} {a b : Addr} {k : ClassId} {ty : FieldType} {n : Int32} {f : Nat → Int32} {ws : List Addr} {sl : Nat} {v : Value}
theorem own_Arf.lt (F : own_Arf Z h a k ty n f) : a < h.size := by obtain ⟨c, A, -⟩ := F; exact A.lt
theorem own_Arf.ext (F : own_Arf Z h a k ty n f) (E : Ext h h') : own_Arf Z h' a k ty n f := by obtain ⟨c, A, r⟩ := F; exact ⟨c, A.ext E, r⟩
theorem own_Arf.other (F : own_Arf Z h b k ty n f) (W : Wr h h' a sl v) (q : b ≠ a) : own_Arf Z h' b k ty n f := by obtain ⟨c, A, r⟩ := F; exact ⟨c, A.other W q, r⟩
theorem own_Arf.keep (F : own_Arf Z h a k ty n f) (K : Keep h h' ws) (q : a ∉ ws) : own_Arf Z h' a k ty n f := by obtain ⟨c, A, r⟩ := F; exact ⟨c, ⟨K.2.1 a c A.1 q, A.2⟩, r⟩
theorem own_Arf.of {N : Nat} (F : Arv Z h a k ty n (List.replicate N (.int 0)) (.int 0)) : own_Arf Z h a k ty n (fun _ => 0) := by
  obtain ⟨c, A, q1, q2, q3, H, -⟩ := F
  refine ⟨c, A, q1, q2, q3, fun i hi => ?_⟩
  rw [H i hi]; congr 1
  rw [List.getD_eq_getElem?_getD, List.getElem?_replicate]; split <;> rfl
theorem own_lenF (X : Stand p l e R s m args below meth c T locs cells slots) (hx : p.tables.exec = Jvm.exec) (hZ : Z.Warmed39 s.vm) (eT : T.heap = h) (F : own_Arf Z h a k ty n f)
    {g : JFrame} (hg : g.method = m) {rest : List Value} (hs : g.stack = .ref a :: rest) (hd : decode c.code g.pc = .ok (.arraylength, 1)) :
    ∀ t, Steps p.tables e below (T.setTop { g with pc := g.pc + 1, stack := .int n :: rest }) t → Steps p.tables e below (T.setTop g) t := by
  obtain ⟨cl, A, q1, q2, q3, H⟩ := F
  exact fun t kt => X.arraylength hx (by rw [eT]; exact A.1) (State.isArrayOf_alike hZ.alike A.2.1) hg hs hd _ (by rw [len_of q2 q3]; exact kt)
theorem own_ldFI (X : Stand p l e R s m args below meth c T locs cells slots) (hx : p.tables.exec = Jvm.exec) (hZ : Z.Warmed39 s.vm) (eT : T.heap = h) (F : own_Arf Z h a k .int n f) {j : Int32} (hj : ¬ j < 0 ∧ j < n)
    {g : JFrame} (hg : g.method = m) {rest : List Value} (hs : g.stack = .int j :: .ref a :: rest) (hd : decode c.code g.pc = .ok (.iaload, 1)) :
    ∀ t, Steps p.tables e below (T.setTop { g with pc := g.pc + 1, stack := .int (f j.toNatClampNeg) :: rest }) t → Steps p.tables e below (T.setTop g) t := by
  obtain ⟨cl, A, q1, q2, q3, H⟩ := F
  have hin := inb_of q2 hj
  exact fun t kt => X.iaload hx (j := j) (by rw [eT]; exact A.1) (State.isArrayOf_alike hZ.alike A.2.1) A.2.2 hin (H _ (Nat.lt_of_not_le fun y => hin (Or.inr y))) hg hs hd _ kt
theorem own_ldFB (X : Stand p l e R s m args below meth c T locs cells slots) (hx : p.tables.exec = Jvm.exec) (hZ : Z.Warmed39 s.vm) (eT : T.heap = h) (F : own_Arf Z h a k .byte n f) {j : Int32} (hj : ¬ j < 0 ∧ j < n)
    {g : JFrame} (hg : g.method = m) {rest : List Value} (hs : g.stack = .int j :: .ref a :: rest) (hd : decode c.code g.pc = .ok (.baload, 1)) :
    ∀ t, Steps p.tables e below (T.setTop { g with pc := g.pc + 1, stack := .int (f j.toNatClampNeg) :: rest }) t → Steps p.tables e below (T.setTop g) t := by
  obtain ⟨cl, A, q1, q2, q3, H⟩ := F
  have hin := inb_of q2 hj
  exact fun t kt => X.baloadBytes hx (j := j) (by rw [eT]; exact A.1) (State.isArrayOf_alike hZ.alike A.2.1) A.2.2 hin (H _ (Nat.lt_of_not_le fun y => hin (Or.inr y))) hg hs hd _ kt
theorem own_updF {c : Cell} {j : Int32} {x : Int32} (A : Arr Z h a c ty) (q1 : c.cls = k) (q2 : c.slots.size = n.toNatClampNeg) (q3 : ¬ n < 0) (H : ∀ i, i < c.slots.size → c.slots[i]? = some (.int (f i))) (W : Wr h h' a j.toNatClampNeg (.int x)) : own_Arf Z h' a k ty n (own_upd f j.toNatClampNeg x) := by
  refine ⟨_, A.same W, q1, by rw [sz_set]; exact q2, q3, fun i hi => ?_⟩
  rw [sz_set] at hi
  unfold own_upd
  by_cases e : i = j.toNatClampNeg
  · subst e; simp [Cell.setSlot, hi]
  · rw [if_neg e]; simp only [Cell.setSlot]; rw [Array.getElem?_setIfInBounds_ne (Ne.symm e)]; exact H i hi
theorem own_stFI (X : Stand p l e R s m args below meth c T locs cells slots) (hx : p.tables.exec = Jvm.exec) (hZ : Z.Warmed39 s.vm) (eT : T.heap = h) (F : own_Arf Z h a k .int n f) {j x : Int32} (hj : ¬ j < 0 ∧ j < n)
    {g : JFrame} (hg : g.method = m) {rest : List Value} (hs : g.stack = .int x :: .int j :: .ref a :: rest) (hd : decode c.code g.pc = .ok (.iastore, 1)) :
    ∃ T' h', Stand p l e R s m args below meth c T' (locs ++ [⟨a, j.toNatClampNeg⟩]) cells slots ∧ T'.heap = h' ∧ own_Arf Z h' a k .int n (own_upd f j.toNatClampNeg x) ∧ Wr h h' a j.toNatClampNeg (.int x) ∧ ∀ t, Steps p.tables e below (T'.setTop { g with pc := g.pc + 1, stack := rest }) t → Steps p.tables e below (T.setTop g) t := by
  obtain ⟨cl, A, q1, q2, q3, H⟩ := F
  obtain ⟨T', h', X', e', W, st⟩ := stI X hx hZ eT A (j := j) (inb_of q2 hj) hg hs hd
  exact ⟨T', h', X', e', own_updF A q1 q2 q3 H W, W, st⟩
theorem own_stFB (X : Stand p l e R s m args below meth c T locs cells slots) (hx : p.tables.exec = Jvm.exec) (hZ : Z.Warmed39 s.vm) (eT : T.heap = h) (F : own_Arf Z h a k .byte n f) {j x : Int32} (hj : ¬ j < 0 ∧ j < n)
    {g : JFrame} (hg : g.method = m) {rest : List Value} (hs : g.stack = .int x :: .int j :: .ref a :: rest) (hd : decode c.code g.pc = .ok (.bastore, 1)) :
    ∃ T' h', Stand p l e R s m args below meth c T' (locs ++ [⟨a, j.toNatClampNeg⟩]) cells slots ∧ T'.heap = h' ∧ own_Arf Z h' a k .byte n (own_upd f j.toNatClampNeg (nar .byte x)) ∧ Wr h h' a j.toNatClampNeg (.int (nar .byte x)) ∧ ∀ t, Steps p.tables e below (T'.setTop { g with pc := g.pc + 1, stack := rest }) t → Steps p.tables e below (T.setTop g) t := by
  obtain ⟨cl, A, q1, q2, q3, H⟩ := F
  obtain ⟨T', h', X', e', W, st⟩ := stB X hx hZ eT A (j := j) (inb_of q2 hj) hg hs hd
  exact ⟨T', h', X', e', own_updF A q1 q2 q3 H W, W, st⟩
end OwnF

theorem own_b1 {f : Int32} (h : f = 1) : some (Value.int (nar .boolean (1 : Int32))) = some (.int f) := by rw [h]; rfl
theorem own_b0 {f : Int32} (h : f = 0) : some (Value.int (nar .boolean (0 : Int32))) = some (.int f) := by rw [h]; rfl
/-- in every row of c + 1 places of the ring one is empty -/
def own_few (f : Nat → Int32) (c : Nat) : Prop := ∀ i : Nat, ∃ t, t ≤ c ∧ f ((i + t) % 65536) = 0
theorem own_few0 : own_few (fun _ => 0) 0 := fun i => ⟨0, Nat.le_refl _, rfl⟩
theorem own_few.mono {f : Nat → Int32} {c d : Nat} (h : own_few f c) (q : c ≤ d) : own_few f d := fun i => by obtain ⟨t, h1, h2⟩ := h i; exact ⟨t, by omega, h2⟩
theorem own_few.upd {f : Nat → Int32} {c : Nat} (h : own_few f c) (hc : c < 60000) (j : Nat) (x : Int32) : own_few (own_upd f j x) (2 * c + 1) := fun i => by
  obtain ⟨t, h1, h2⟩ := h i
  by_cases e : (i + t) % 65536 = j
  · obtain ⟨t', h3, h4⟩ := h (i + t + 1)
    refine ⟨t + 1 + t', by omega, ?_⟩
    unfold own_upd
    rw [if_neg (by omega), show i + (t + 1 + t') = i + t + 1 + t' by omega]; exact h4
  · exact ⟨t, by omega, by unfold own_upd; rw [if_neg e]; exact h2⟩
theorem own_nn {i : Int32} (h : ¬ i < 0 ∧ i < 65536) : 0 ≤ i.toInt ∧ i.toInt < 65536 := by
  have q0 : (0 : Int32).toInt = 0 := by decide
  have q1 : (65536 : Int32).toInt = 65536 := by decide
  rw [Int32.lt_iff_toInt_lt, Int32.lt_iff_toInt_lt] at h; omega
theorem own_ring (x : Int32) : ¬ (x &&& 65535) < 0 ∧ (x &&& 65535) < 65536 := by
  have h := c_mask x 65535 16 (by omega) (by decide)
  have h8 : ((2 ^ 16 : Nat) : Int) = 65536 := by decide
  have q0 : (0 : Int32).toInt = 0 := by decide
  have q1 : (65536 : Int32).toInt = 65536 := by decide
  rw [h8] at h
  rw [Int32.lt_iff_toInt_lt, Int32.lt_iff_toInt_lt]; omega
theorem own_turn {f : Nat → Int32} {i : Int32} {k : Nat} (hi : ¬ i < 0 ∧ i < 65536) (h : ∃ t, t ≤ k + 1 ∧ f ((i.toNatClampNeg + t) % 65536) = 0) (hn : ¬ f i.toNatClampNeg = 0) : ∃ t, t ≤ k ∧ f ((((i + 1) &&& 65535).toNatClampNeg + t) % 65536) = 0 := by
  obtain ⟨t, h1, h2⟩ := h
  have r := own_nn hi
  have ei : i.toNatClampNeg = i.toInt.toNat := rfl
  have hm := c_mask (i + 1) 65535 16 (by omega) (by decide)
  have h8 : ((2 ^ 16 : Nat) : Int) = 65536 := by decide
  rw [h8] at hm
  have ha := c_iadd i 1
  have q1 : (1 : Int32).toInt = 1 := by decide
  have ej : ((i + 1) &&& 65535).toNatClampNeg = ((i + 1) &&& 65535).toInt.toNat := rfl
  rcases t with _ | t
  · exfalso; apply hn; rw [← h2]; congr 1; omega
  · refine ⟨t, by omega, ?_⟩
    rw [← h2]; congr 1; omega
theorem own_zero {f : Nat → Int32} {i : Int32} (hi : ¬ i < 0 ∧ i < 65536) (h : ∃ t, t ≤ 0 ∧ f ((i.toNatClampNeg + t) % 65536) = 0) : f i.toNatClampNeg = 0 := by
  obtain ⟨t, h1, h2⟩ := h
  have r := own_nn hi
  have ei : i.toNatClampNeg = i.toInt.toNat := rfl
  rw [← h2]; congr 1; omega
def own_full (he mo : Int32) : Int32 := if he = mo then 1 else 0
def own_max (x y : Int32) : Int32 := if x < y then y else x
theorem own_next {i p : Int32} {k : Nat} (hi : ¬ i < 0) (hk : i.toNatClampNeg + (k + 1) = p.toNatClampNeg) : i < p ∧ ¬ (i + 1) < 0 ∧ (i + 1).toNatClampNeg = i.toNatClampNeg + 1 := by
  have r := rng32 p
  have h1 := c_iadd i 1
  have q1 : (1 : Int32).toInt = 1 := by decide
  have r1 := rng32 (i + 1)
  have ei : i.toNatClampNeg = i.toInt.toNat := rfl
  have ep : p.toNatClampNeg = p.toInt.toNat := rfl
  have ej : (i + 1).toNatClampNeg = (i + 1).toInt.toNat := rfl
  rw [Int32.lt_iff_toInt_lt] at hi
  have q0 : (0 : Int32).toInt = 0 := by decide
  refine ⟨Int32.lt_iff_toInt_lt.mpr (by omega), ?_, by omega⟩
  rw [Int32.lt_iff_toInt_lt]; omega
theorem own_stopd {i p : Int32} (hi : ¬ i < 0) (hk : i.toNatClampNeg + 0 = p.toNatClampNeg) : ¬ i < p := by
  have ei : i.toNatClampNeg = i.toInt.toNat := rfl
  have ep : p.toNatClampNeg = p.toInt.toNat := rfl
  rw [Int32.lt_iff_toInt_lt] at hi ⊢
  have q0 : (0 : Int32).toInt = 0 := by decide
  omega
theorem own_add0 {Z : State} {h : Heap} {a : Addr} {C n d : String} {he : Int32} (F : Fld Z h a C n d (.int he)) : Fld Z h a C n d (.int (he + (0 : Int32))) := by rw [Int32.add_zero]; exact F
theorem own_sub0 {Z : State} {h : Heap} {a : Addr} {C n d : String} {he : Int32} (F : Fld Z h a C n d (.int (he + (0 : Int32)))) : Fld Z h a C n d (.int he) := by rw [Int32.add_zero] at F; exact F
theorem own_Arf.ofL {Z : State} {h : Heap} {a : Addr} {k : ClassId} {ty : FieldType} {n : Int32} {xs : List Int32} (F : Arv Z h a k ty n (xs.map Value.int) (.int 0)) : own_Arf Z h a k ty n (fun i => xs.getD i 0) := by
  obtain ⟨c, A, q1, q2, q3, H, -⟩ := F
  refine ⟨c, A, q1, q2, q3, fun i hi => ?_⟩
  rw [H i hi]; congr 1
  show _ = Value.int (xs.getD i 0)
  rw [List.getD_eq_getElem?_getD, List.getD_eq_getElem?_getD, List.getElem?_map]; cases xs[i]? <;> rfl
theorem own_Hh {he : Int32} (h : 0 ≤ he.toInt ∧ he.toInt ≤ 3) : ¬ (65536 : Int32) < ((2 : Int32) * (he + (1 : Int32))) := by
  have h1 := c_iadd he 1
  have h2 := c_imul 2 (he + 1)
  have q1 : (1 : Int32).toInt = 1 := by decide
  have q2 : (2 : Int32).toInt = 2 := by decide
  have q3 : (65536 : Int32).toInt = 65536 := by decide
  have r1 := rng32 (he + 1)
  have r2 := rng32 ((2 : Int32) * (he + 1))
  rw [Int32.lt_iff_toInt_lt]
  rw [q2] at h2
  omega
theorem own_inc {he : Int32} {r : Int} (h : 0 ≤ he.toInt ∧ he.toInt ≤ r) (hr : r ≤ 3) : 0 ≤ (he + (1 : Int32)).toInt ∧ (he + (1 : Int32)).toInt ≤ r + 1 := by
  have h1 := c_iadd he 1
  have q1 : (1 : Int32).toInt = 1 := by decide
  have r1 := rng32 (he + 1)
  omega
theorem own_lt_le {he mo : Int32} (h : he < mo) : ¬ mo < he + (1 : Int32) := by
  have h1 := c_iadd he 1
  have q1 : (1 : Int32).toInt = 1 := by decide
  have r1 := rng32 (he + 1)
  have r2 := rng32 mo
  have r3 := rng32 he
  rw [Int32.lt_iff_toInt_lt] at h ⊢
  omega
theorem own_full_lt {he mo : Int32} (h : he < mo) : own_full he mo = 0 := if_neg fun q => by
  rw [q, Int32.lt_iff_toInt_lt] at h; omega
theorem own_full0 (mo : Int32) : own_full 0 mo = if mo = 0 then 1 else 0 := by
  unfold own_full
  by_cases h : mo = 0
  · rw [if_pos h, if_pos h.symm]
  · rw [if_neg h, if_neg (fun q => h q.symm)]
theorem own_end {he mo : Int32} (h : he = 0 ∨ ¬ mo < he) : ¬ own_max mo 0 < he := by
  unfold own_max
  have q0 : (0 : Int32).toInt = 0 := by decide
  rcases h with rfl | h
  · split
    · decide
    · assumption
  · split
    · rename_i q; rw [Int32.lt_iff_toInt_lt] at *; omega
    · exact h
def own_QE (h0 : Heap) (n0 : Nat) (v : Option Value) (h : Heap) (L : List Loc) : Prop := ∃ z : Int32, v = some (.int z) ∧ Fr n0 L ∧ h = h0
def own_QL (Z : State) (a1 : Addr) (k : ClassId) (c : Nat) (h0 : Heap) (n0 : Nat) (v : Option Value) (h : Heap) (L : List Loc) : Prop := ∃ (b : Int32) (f' : Nat → Int32), v = some (.int b) ∧ Fr n0 L ∧ Keep h0 h [a1] ∧ (b = 0 ∨ b = 1) ∧ own_few f' (2 * c + 1) ∧ own_Arf Z h a1 k .int (65536 : Int32) f'
def own_QC (Z : State) (a1 : Addr) (mo : Int32) (h0 : Heap) (n0 : Nat) (v : Option Value) (h : Heap) (L : List Loc) : Prop := ∃ (bb : Addr) (kb : ClassId), v = none ∧ Fr n0 L ∧ Keep h0 h [a1] ∧ h0.size ≤ bb ∧ Exa Z h a1 "com/example/meterkeep/meterkeep/store/RecordedIds" ∧ Fld Z h a1 "com/example/meterkeep/meterkeep/store/RecordedIds" "slots" "[I" (.ref bb) ∧ Fld Z h a1 "com/example/meterkeep/meterkeep/store/RecordedIds" "most" "I" (.int mo) ∧ Fld Z h a1 "com/example/meterkeep/meterkeep/store/RecordedIds" "held" "I" (.int (0 : Int32)) ∧ own_Arf Z h bb kb .int (65536 : Int32) (fun _ => 0)
def own_QA (Z : State) (a1 bb : Addr) (kb : ClassId) (mo he : Int32) (c : Nat) (h0 : Heap) (n0 : Nat) (v : Option Value) (h : Heap) (L : List Loc) : Prop := ∃ (b : Int32) (f' : Nat → Int32), v = some (.int b) ∧ Fr n0 L ∧ Keep h0 h [a1, bb] ∧ (b = 0 ∨ b = 1 ∧ he < mo) ∧ Exa Z h a1 "com/example/meterkeep/meterkeep/store/RecordedIds" ∧ Fld Z h a1 "com/example/meterkeep/meterkeep/store/RecordedIds" "slots" "[I" (.ref bb) ∧ Fld Z h a1 "com/example/meterkeep/meterkeep/store/RecordedIds" "most" "I" (.int mo) ∧ Fld Z h a1 "com/example/meterkeep/meterkeep/store/RecordedIds" "held" "I" (.int (he + b)) ∧ own_Arf Z h bb kb .int (65536 : Int32) f' ∧ own_few f' (2 * c + 1)
theorem d1_0 : decode prog_84_method_1_code 0 = .ok (.aload_n 0, 1) := by decide +kernel
theorem d1_1 : decode prog_84_method_1_code 1 = .ok (.invokespecial 1, 3) := by decide +kernel
theorem d1_4 : decode prog_84_method_1_code 4 = .ok (.aload_n 0, 1) := by decide +kernel
theorem d1_5 : decode prog_84_method_1_code 5 = .ok (.ldc 9, 2) := by decide +kernel
theorem d1_7 : decode prog_84_method_1_code 7 = .ok (.newarray .int, 2) := by decide +kernel
theorem d1_9 : decode prog_84_method_1_code 9 = .ok (.putfield 10, 3) := by decide +kernel
theorem d1_12 : decode prog_84_method_1_code 12 = .ok (.aload_n 0, 1) := by decide +kernel
theorem d1_13 : decode prog_84_method_1_code 13 = .ok (.iload_n 1, 1) := by decide +kernel
theorem d1_14 : decode prog_84_method_1_code 14 = .ok (.putfield 14, 3) := by decide +kernel
theorem d1_17 : decode prog_84_method_1_code 17 = .ok (.return_, 1) := by decide +kernel
theorem pn_1 : plainFor (⟨"com/example/meterkeep/meterkeep/store/RecordedIds", "<init>", "(I)V"⟩ : MethodName) = true := plainFor_of_name (by first | (simp [plainName, overriddenIn]; done) | decide +kernel)
theorem ef_1 (m : MethodId) (x0 : Addr) (x1 : Int32) : entryFrame m #[(.ref x0), (.int x1)] 2 = mkF m 0 #[.val (.ref x0), .val (.int x1)] [] := by first | (simp [entryFrame, mkF, argsToLocals, Value.category]; done) | rfl
set_option maxRecDepth 65536 in
set_option maxHeartbeats 40000000 in
theorem rm1 (l : Launch) (Z : State) (a0 : Array Value) (hw : ∀ d ∈ tables_1, d.before a0 Z = true) (a1 : Addr) (p2 : Int32)  (h0 : Heap) (n0 : Nat) (Z0 : n0 ≤ h0.size) (g1 : n0 ≤ a1) (E1 : Exa Z h0 a1 "com/example/meterkeep/meterkeep/store/RecordedIds") (Fs : Fld Z h0 a1 "com/example/meterkeep/meterkeep/store/RecordedIds" "slots" "[I" .null) (Fm : Fld Z h0 a1 "com/example/meterkeep/meterkeep/store/RecordedIds" "most" "I" (.int (0 : Int32))) (Fh : Fld Z h0 a1 "com/example/meterkeep/meterkeep/store/RecordedIds" "held" "I" (.int (0 : Int32))) :
    own_Met l Z [] (⟨"com/example/meterkeep/meterkeep/store/RecordedIds", "<init>", "(I)V"⟩ : MethodName) prog_84_method_1_code 2 none ({ frames := 1, cells := 1, slots := 65536, locals := 12 } : Room) #[(.ref a1), (.int p2)] h0 (own_QC Z a1 p2 h0 n0) := by
  refine own_enter pn_1 ?_
  intro p e s m below meth c s₁ X0 hx hby hml hown hret hlk hnm hZ e0
  have hml : c.maxLocals = 2 := hml
  have N0 := Fr.nil n0
  rw [ef_1 m a1 p2]
  show own_Fin p e below s _ _ _ (s₁.setTop (mkF m 0 #[.val (.ref a1), .val (.int p2)] []))
  refine own_Fin.step (fun _ => XS.aloadN X0.here hx rfl (hb hby d1_0) rfl rfl) ?_
  show own_Fin p e below s _ _ _ (s₁.setTop (mkF m 1 #[.val (.ref a1), .val (.int p2)] [(.ref a1)]))
  obtain ⟨T1, X1, e1, st1⟩ := initO X0 hx hZ hown (own_w hw 7 rfl) (own_w hw 8 rfl) (own_w hw 9 rfl) e0 (g := (mkF m 1 #[.val (.ref a1), .val (.int p2)] [(.ref a1)])) rfl (by rw [hml]; rfl) rfl (hb hby d1_1) (by decide) (W := 0) (by show 2 * 0 + _ ≤ _; exact Nat.le_of_eq rfl) (by decide)
  refine own_Fin.step st1 ?_
  show own_Fin p e below s _ _ _ (T1.setTop (mkF m 4 #[.val (.ref a1), .val (.int p2)] []))
  refine own_Fin.step (fun _ => XS.aloadN X1.here hx rfl (hb hby d1_4) rfl rfl) ?_
  show own_Fin p e below s _ _ _ (T1.setTop (mkF m 5 #[.val (.ref a1), .val (.int p2)] [(.ref a1)]))
  refine own_Fin.step (X1.ldcInt hx hown (mvT hZ (own_w hw 10 rfl)) (g := (mkF m 5 #[.val (.ref a1), .val (.int p2)] [(.ref a1)])) rfl (hb hby d1_5)) ?_
  show own_Fin p e below s _ _ _ (T1.setTop (mkF m 7 #[.val (.ref a1), .val (.int p2)] [(.int (65536 : Int32)), (.ref a1)]))
  obtain ⟨T2, h2, k2, b2, X2, e2, E2, g2, V2, st2⟩ := own_newA X1 hx hZ (own_w hw 11 rfl) e1 (ty := .int) (dv := (.int (0 : Int32))) rfl rfl (g := (mkF m 7 #[.val (.ref a1), .val (.int p2)] [(.int (65536 : Int32)), (.ref a1)])) rfl (hb hby d1_7) rfl (by decide) (cap := 65536) (by decide) (by decide) (by decide) (by decide) 0
  have ne3 : a1 ≠ b2 := Nat.ne_of_lt (Nat.lt_of_lt_of_eq E1.lt g2.symm)
  have ge4 : n0 ≤ b2 := Nat.le_trans Z0 (Nat.le_of_eq g2.symm)
  have f5 := E1.ext E2
  have f6 := Fs.ext E2
  have f7 := Fm.ext E2
  have f8 := Fh.ext E2
  have sz2 : h0.size ≤ b2 := Nat.le_trans (Keep.refl h0 [a1]).1 (Nat.le_of_eq g2.symm)
  have Z2 : n0 ≤ h2.size := Nat.le_trans Z0 E2.1
  have K9 : Keep h0 h2 [a1] := (Keep.refl h0 [a1]).ext E2
  have V2' := own_Arf.of V2
  refine own_Fin.step st2 ?_
  show own_Fin p e below s _ _ _ (T2.setTop (mkF m 9 #[.val (.ref a1), .val (.int p2)] [(.ref b2), (.ref a1)]))
  obtain ⟨T10, h10, X10, e10, W10, st10⟩ := putF X2 hx hZ hown (host := "") (Or.inl (own_w hw 12 rfl)) Via.refl e2 f6 f5 (Or.inl (own_w hw 13 rfl)) (own_w hw 2 rfl) (ty := (.array .int)) (by decide) rfl rfl (g := (mkF m 9 #[.val (.ref a1), .val (.int p2)] [(.ref b2), (.ref a1)])) rfl rfl (hb hby d1_9)
  have Fw10 := f6.same W10
  have f11 := f5.wr W10
  have f13 := f7.other W10 (Or.inr (slot_ne (Or.inr (own_w hw 15 rfl)) (Or.inl (own_w hw 13 rfl)) (by decide) (t := .int) (t' := (.array .int)) (by decide) (by decide)))
  have f14 := f8.other W10 (Or.inr (slot_ne (Or.inl (own_w hw 22 rfl)) (Or.inl (own_w hw 13 rfl)) (by decide) (t := .int) (t' := (.array .int)) (by decide) (by decide)))
  have f15 := V2'.other W10 (Ne.symm ne3)
  have N10 := Fr.snoc X10 N0 g1
  have Z10 : n0 ≤ h10.size := Nat.le_trans Z2 (Nat.le_of_eq W10.size.symm)
  have K16 : Keep h0 h10 [a1] := K9.wr W10 (Or.inl (List.mem_of_getElem? (i := 0) rfl))
  refine own_Fin.step st10 ?_
  show own_Fin p e below s _ _ _ (T10.setTop (mkF m 12 #[.val (.ref a1), .val (.int p2)] []))
  refine own_Fin.step (fun _ => XS.aloadN X10.here hx rfl (hb hby d1_12) rfl rfl) ?_
  show own_Fin p e below s _ _ _ (T10.setTop (mkF m 13 #[.val (.ref a1), .val (.int p2)] [(.ref a1)]))
  refine own_Fin.step (fun _ => XS.iloadN X10.here hx rfl (hb hby d1_13) rfl) ?_
  show own_Fin p e below s _ _ _ (T10.setTop (mkF m 14 #[.val (.ref a1), .val (.int p2)] [(.int p2), (.ref a1)]))
  obtain ⟨T17, h17, X17, e17, W17, st17⟩ := putF X10 hx hZ hown (host := "") (Or.inl (own_w hw 14 rfl)) Via.refl e10 f13 f11 (Or.inr ⟨(own_w hw 15 rfl), rfl, hnm⟩) (own_w hw 2 rfl) (ty := .int) (by decide) rfl rfl (g := (mkF m 14 #[.val (.ref a1), .val (.int p2)] [(.int p2), (.ref a1)])) rfl rfl (hb hby d1_14)
  have Fw17 := f13.same W17
  have f18 := f11.wr W17
  have f20 := f14.other W17 (Or.inr (slot_ne (Or.inl (own_w hw 22 rfl)) (Or.inr (own_w hw 15 rfl)) (by decide) (t := .int) (t' := .int) (by decide) (by decide)))
  have f21 := f15.other W17 (Ne.symm ne3)
  have f22 := Fw10.other W17 (Or.inr (slot_ne (Or.inl (own_w hw 13 rfl)) (Or.inr (own_w hw 15 rfl)) (by decide) (t := (.array .int)) (t' := .int) (by decide) (by decide)))
  have N17 := Fr.snoc X17 N10 g1
  have Z17 : n0 ≤ h17.size := Nat.le_trans Z10 (Nat.le_of_eq W17.size.symm)
  have K23 : Keep h0 h17 [a1] := K16.wr W17 (Or.inl (List.mem_of_getElem? (i := 0) rfl))
  refine own_Fin.step st17 ?_
  show own_Fin p e below s _ _ _ (T17.setTop (mkF m 17 #[.val (.ref a1), .val (.int p2)] []))
  exact own_ret0 X17 hx hlk hret (hb hby d1_17) (by rw [e17]; exact ⟨_, _, rfl, N17, K23, sz2, f18, f22, Fw17, f20, f21⟩) (by decide) (by decide)
theorem d2_0 : decode prog_84_method_3_code 0 = .ok (.aload_n 0, 1) := by decide +kernel
theorem d2_1 : decode prog_84_method_3_code 1 = .ok (.getfield 18, 3) := by decide +kernel
theorem d2_4 : decode prog_84_method_3_code 4 = .ok (.aload_n 0, 1) := by decide +kernel
theorem d2_5 : decode prog_84_method_3_code 5 = .ok (.getfield 14, 3) := by decide +kernel
theorem d2_8 : decode prog_84_method_3_code 8 = .ok (.if_icmp .ne 7, 3) := by decide +kernel
theorem d2_11 : decode prog_84_method_3_code 11 = .ok (.iconst 1, 1) := by decide +kernel
theorem d2_12 : decode prog_84_method_3_code 12 = .ok (.goto 4, 3) := by decide +kernel
theorem d2_15 : decode prog_84_method_3_code 15 = .ok (.iconst 0, 1) := by decide +kernel
theorem d2_16 : decode prog_84_method_3_code 16 = .ok (.ireturn, 1) := by decide +kernel
theorem pn_2 : plainFor (⟨"com/example/meterkeep/meterkeep/store/RecordedIds", "full", "()Z"⟩ : MethodName) = true := plainFor_of_name (by first | (simp [plainName, overriddenIn]; done) | decide +kernel)
theorem ef_2 (m : MethodId) (x0 : Addr) : entryFrame m #[(.ref x0)] 1 = mkF m 0 #[.val (.ref x0)] [] := by first | (simp [entryFrame, mkF, argsToLocals, Value.category]; done) | rfl
set_option maxRecDepth 65536 in
set_option maxHeartbeats 40000000 in
theorem rm2 (l : Launch) (Z : State) (a0 : Array Value) (hw : ∀ d ∈ tables_1, d.before a0 Z = true) (a1 : Addr) (he mo : Int32) (h0 : Heap) (n0 : Nat) (Z0 : n0 ≤ h0.size) (Fh : Fld Z h0 a1 "com/example/meterkeep/meterkeep/store/RecordedIds" "held" "I" (.int he)) (Fm : Fld Z h0 a1 "com/example/meterkeep/meterkeep/store/RecordedIds" "most" "I" (.int mo)) :
    own_Met l Z [] (⟨"com/example/meterkeep/meterkeep/store/RecordedIds", "full", "()Z"⟩ : MethodName) prog_84_method_3_code 1 (some .boolean) ({ frames := 0, cells := 0, slots := 0, locals := 0 } : Room) #[(.ref a1)] h0 (own_QP (some (.int (own_full he mo))) h0 n0) := by
  refine own_enter pn_2 ?_
  intro p e s m below meth c s₁ X0 hx hby hml hown hret hlk hnm hZ e0
  have hml : c.maxLocals = 1 := hml
  have N0 := Fr.nil n0
  rw [ef_2 m a1]
  show own_Fin p e below s _ _ _ (s₁.setTop (mkF m 0 #[.val (.ref a1)] []))
  refine own_Fin.step (fun _ => XS.aloadN X0.here hx rfl (hb hby d2_0) rfl rfl) ?_
  show own_Fin p e below s _ _ _ (s₁.setTop (mkF m 1 #[.val (.ref a1)] [(.ref a1)]))
  obtain ⟨T1, X1, e1, st1⟩ := getF X0 hx hZ hown (host := "") (Or.inl (own_w hw 21 rfl)) Via.refl e0 Fh (g := (mkF m 1 #[.val (.ref a1)] [(.ref a1)])) rfl rfl (hb hby d2_1)
  refine own_Fin.step st1 ?_
  show own_Fin p e below s _ _ _ (T1.setTop (mkF m 4 #[.val (.ref a1)] [(.int he)]))
  refine own_Fin.step (fun _ => XS.aloadN X1.here hx rfl (hb hby d2_4) rfl rfl) ?_
  show own_Fin p e below s _ _ _ (T1.setTop (mkF m 5 #[.val (.ref a1)] [(.ref a1), (.int he)]))
  obtain ⟨T2, X2, e2, st2⟩ := getF X1 hx hZ hown (host := "") (Or.inl (own_w hw 14 rfl)) Via.refl e1 Fm (g := (mkF m 5 #[.val (.ref a1)] [(.ref a1), (.int he)])) rfl rfl (hb hby d2_5)
  refine own_Fin.step st2 ?_
  show own_Fin p e below s _ _ _ (T2.setTop (mkF m 8 #[.val (.ref a1)] [(.int mo), (.int he)]))
  by_cases hc8_3 : he = mo
  ·
    refine own_Fin.step (fun _ => XS.icmpNo X2.here hx rfl (hb hby d2_8) rfl (XT.ii_ne_f hc8_3)) ?_
    show own_Fin p e below s _ _ _ (T2.setTop (mkF m 11 #[.val (.ref a1)] []))
    refine own_Fin.step (fun _ => XS.iconst X2.here hx rfl (hb hby d2_11)) ?_
    show own_Fin p e below s _ _ _ (T2.setTop (mkF m 12 #[.val (.ref a1)] [(.int (1 : Int32))]))
    refine own_Fin.step (fun _ => XS.goto X2.here hx rfl (pc0 := 12) (pc' := 16) rfl (hb hby d2_12) (by decide) (by decide)) ?_
    show own_Fin p e below s _ _ _ (T2.setTop (mkF m 16 #[.val (.ref a1)] [(.int (1 : Int32))]))
    exact own_retN X2 hx hlk (t := .boolean) hret (by simp) (hb hby d2_16) ⟨own_b1 (if_pos hc8_3), N0, e2⟩ (by decide) (by decide)
  ·
    refine own_Fin.step (fun _ => XS.icmpYes X2.here hx rfl (pc0 := 8) (pc' := 15) rfl (hb hby d2_8) rfl (XT.ii_ne_t hc8_3) (by decide) (by decide)) ?_
    show own_Fin p e below s _ _ _ (T2.setTop (mkF m 15 #[.val (.ref a1)] []))
    refine own_Fin.step (fun _ => XS.iconst X2.here hx rfl (hb hby d2_15)) ?_
    show own_Fin p e below s _ _ _ (T2.setTop (mkF m 16 #[.val (.ref a1)] [(.int (0 : Int32))]))
    exact own_retN X2 hx hlk (t := .boolean) hret (by simp) (hb hby d2_16) ⟨own_b0 (if_neg hc8_3), N0, e2⟩ (by decide) (by decide)
theorem d3_0 : decode jdk_29_method_65_code 0 = .ok (.iload_n 0, 1) := by decide +kernel
theorem d3_1 : decode jdk_29_method_65_code 1 = .ok (.iload_n 1, 1) := by decide +kernel
theorem d3_2 : decode jdk_29_method_65_code 2 = .ok (.if_icmp .lt 7, 3) := by decide +kernel
theorem d3_5 : decode jdk_29_method_65_code 5 = .ok (.iload_n 0, 1) := by decide +kernel
theorem d3_6 : decode jdk_29_method_65_code 6 = .ok (.goto 4, 3) := by decide +kernel
theorem d3_9 : decode jdk_29_method_65_code 9 = .ok (.iload_n 1, 1) := by decide +kernel
theorem d3_10 : decode jdk_29_method_65_code 10 = .ok (.ireturn, 1) := by decide +kernel
theorem pn_3 : plainFor (⟨"java/lang/Math", "max", "(II)I"⟩ : MethodName) = true := Jvm.Free.JP.mathPlain rfl (by decide +kernel)
theorem ef_3 (m : MethodId) (x0 : Int32) (x1 : Int32) : entryFrame m #[(.int x0), (.int x1)] 2 = mkF m 0 #[.val (.int x0), .val (.int x1)] [] := by first | (simp [entryFrame, mkF, argsToLocals, Value.category]; done) | rfl
set_option maxRecDepth 65536 in
set_option maxHeartbeats 40000000 in
theorem rm3 (l : Launch) (Z : State) (a0 : Array Value) (hw : ∀ d ∈ tables_1, d.before a0 Z = true) (p1 : Int32) (p2 : Int32)  (h0 : Heap) (n0 : Nat) (Z0 : n0 ≤ h0.size)  :
    own_Met l Z [] (⟨"java/lang/Math", "max", "(II)I"⟩ : MethodName) jdk_29_method_65_code 2 (some .int) ({ frames := 0, cells := 0, slots := 0, locals := 0 } : Room) #[(.int p1), (.int p2)] h0 (own_QP (some (.int (own_max p1 p2))) h0 n0) := by
  refine own_enter pn_3 ?_
  intro p e s m below meth c s₁ X0 hx hby hml hown hret hlk hnm hZ e0
  have hml : c.maxLocals = 2 := hml
  have N0 := Fr.nil n0
  rw [ef_3 m p1 p2]
  show own_Fin p e below s _ _ _ (s₁.setTop (mkF m 0 #[.val (.int p1), .val (.int p2)] []))
  refine own_Fin.step (fun _ => XS.iloadN X0.here hx rfl (hb hby d3_0) rfl) ?_
  show own_Fin p e below s _ _ _ (s₁.setTop (mkF m 1 #[.val (.int p1), .val (.int p2)] [(.int p1)]))
  refine own_Fin.step (fun _ => XS.iloadN X0.here hx rfl (hb hby d3_1) rfl) ?_
  show own_Fin p e below s _ _ _ (s₁.setTop (mkF m 2 #[.val (.int p1), .val (.int p2)] [(.int p2), (.int p1)]))
  by_cases hc2_1 : p1 < p2
  ·
    refine own_Fin.step (fun _ => XS.icmpYes X0.here hx rfl (pc0 := 2) (pc' := 9) rfl (hb hby d3_2) rfl (XT.ii_lt_t hc2_1) (by decide) (by decide)) ?_
    show own_Fin p e below s _ _ _ (s₁.setTop (mkF m 9 #[.val (.int p1), .val (.int p2)] []))
    refine own_Fin.step (fun _ => XS.iloadN X0.here hx rfl (hb hby d3_9) rfl) ?_
    show own_Fin p e below s _ _ _ (s₁.setTop (mkF m 10 #[.val (.int p1), .val (.int p2)] [(.int p2)]))
    exact own_retI X0 hx hlk hret (hb hby d3_10) ⟨by rw [own_max, if_pos hc2_1], N0, e0⟩ (by decide) (by decide)
  ·
    refine own_Fin.step (fun _ => XS.icmpNo X0.here hx rfl (hb hby d3_2) rfl (XT.ii_lt_f hc2_1)) ?_
    show own_Fin p e below s _ _ _ (s₁.setTop (mkF m 5 #[.val (.int p1), .val (.int p2)] []))
    refine own_Fin.step (fun _ => XS.iloadN X0.here hx rfl (hb hby d3_5) rfl) ?_
    show own_Fin p e below s _ _ _ (s₁.setTop (mkF m 6 #[.val (.int p1), .val (.int p2)] [(.int p1)]))
    refine own_Fin.step (fun _ => XS.goto X0.here hx rfl (pc0 := 6) (pc' := 10) rfl (hb hby d3_6) (by decide) (by decide)) ?_
    show own_Fin p e below s _ _ _ (s₁.setTop (mkF m 10 #[.val (.int p1), .val (.int p2)] [(.int p1)]))
    exact own_retI X0 hx hlk hret (hb hby d3_10) ⟨by rw [own_max, if_neg hc2_1], N0, e0⟩ (by decide) (by decide)
theorem d4_0 : decode prog_84_method_6_code 0 = .ok (.ldc2_w 32, 3) := by decide +kernel
theorem d4_3 : decode prog_84_method_6_code 3 = .ok (.lstore_n 3, 1) := by decide +kernel
theorem d4_4 : decode prog_84_method_6_code 4 = .ok (.iload_n 1, 1) := by decide +kernel
theorem d4_5 : decode prog_84_method_6_code 5 = .ok (.istore 5, 2) := by decide +kernel
theorem d4_7 : decode prog_84_method_6_code 7 = .ok (.iload 5, 2) := by decide +kernel
theorem d4_9 : decode prog_84_method_6_code 9 = .ok (.iload_n 2, 1) := by decide +kernel
theorem d4_10 : decode prog_84_method_6_code 10 = .ok (.if_icmp .ge 25, 3) := by decide +kernel
theorem d4_13 : decode prog_84_method_6_code 13 = .ok (.lload_n 3, 1) := by decide +kernel
theorem d4_14 : decode prog_84_method_6_code 14 = .ok (.aload_n 0, 1) := by decide +kernel
theorem d4_15 : decode prog_84_method_6_code 15 = .ok (.iload 5, 2) := by decide +kernel
theorem d4_17 : decode prog_84_method_6_code 17 = .ok (.baload, 1) := by decide +kernel
theorem d4_18 : decode prog_84_method_6_code 18 = .ok (.sipush 255, 3) := by decide +kernel
theorem d4_21 : decode prog_84_method_6_code 21 = .ok (.iand, 1) := by decide +kernel
theorem d4_22 : decode prog_84_method_6_code 22 = .ok (.i2l, 1) := by decide +kernel
theorem d4_23 : decode prog_84_method_6_code 23 = .ok (.lxor, 1) := by decide +kernel
theorem d4_24 : decode prog_84_method_6_code 24 = .ok (.ldc2_w 34, 3) := by decide +kernel
theorem d4_27 : decode prog_84_method_6_code 27 = .ok (.lmul, 1) := by decide +kernel
theorem d4_28 : decode prog_84_method_6_code 28 = .ok (.lstore_n 3, 1) := by decide +kernel
theorem d4_29 : decode prog_84_method_6_code 29 = .ok (.iinc 5 1, 3) := by decide +kernel
theorem d4_32 : decode prog_84_method_6_code 32 = .ok (.goto (-25), 3) := by decide +kernel
theorem d4_35 : decode prog_84_method_6_code 35 = .ok (.lload_n 3, 1) := by decide +kernel
theorem d4_36 : decode prog_84_method_6_code 36 = .ok (.lload_n 3, 1) := by decide +kernel
theorem d4_37 : decode prog_84_method_6_code 37 = .ok (.bipush 33, 2) := by decide +kernel
theorem d4_39 : decode prog_84_method_6_code 39 = .ok (.lushr, 1) := by decide +kernel
theorem d4_40 : decode prog_84_method_6_code 40 = .ok (.lxor, 1) := by decide +kernel
theorem d4_41 : decode prog_84_method_6_code 41 = .ok (.ldc2_w 36, 3) := by decide +kernel
theorem d4_44 : decode prog_84_method_6_code 44 = .ok (.lmul, 1) := by decide +kernel
theorem d4_45 : decode prog_84_method_6_code 45 = .ok (.lstore_n 3, 1) := by decide +kernel
theorem d4_46 : decode prog_84_method_6_code 46 = .ok (.lload_n 3, 1) := by decide +kernel
theorem d4_47 : decode prog_84_method_6_code 47 = .ok (.lload_n 3, 1) := by decide +kernel
theorem d4_48 : decode prog_84_method_6_code 48 = .ok (.bipush 32, 2) := by decide +kernel
theorem d4_50 : decode prog_84_method_6_code 50 = .ok (.lushr, 1) := by decide +kernel
theorem d4_51 : decode prog_84_method_6_code 51 = .ok (.lxor, 1) := by decide +kernel
theorem d4_52 : decode prog_84_method_6_code 52 = .ok (.l2i, 1) := by decide +kernel
theorem d4_53 : decode prog_84_method_6_code 53 = .ok (.istore 5, 2) := by decide +kernel
theorem d4_55 : decode prog_84_method_6_code 55 = .ok (.iload 5, 2) := by decide +kernel
theorem d4_57 : decode prog_84_method_6_code 57 = .ok (.ifCond .ne 7, 3) := by decide +kernel
theorem d4_60 : decode prog_84_method_6_code 60 = .ok (.iconst 1, 1) := by decide +kernel
theorem d4_61 : decode prog_84_method_6_code 61 = .ok (.goto 5, 3) := by decide +kernel
theorem d4_64 : decode prog_84_method_6_code 64 = .ok (.iload 5, 2) := by decide +kernel
theorem d4_66 : decode prog_84_method_6_code 66 = .ok (.ireturn, 1) := by decide +kernel
theorem pn_4 : plainFor (⟨"com/example/meterkeep/meterkeep/store/RecordedIds", "fingerprint", "([BII)I"⟩ : MethodName) = true := plainFor_of_name (by first | (simp [plainName, overriddenIn]; done) | decide +kernel)
theorem ef_4 (m : MethodId) (x0 : Addr) (x1 : Int32) (x2 : Int32) : entryFrame m #[(.ref x0), (.int x1), (.int x2)] 6 = mkF m 0 #[.val (.ref x0), .val (.int x1), .val (.int x2), .unset, .unset, .unset] [] := by first | (simp [entryFrame, mkF, argsToLocals, Value.category]; done) | rfl
set_option maxRecDepth 65536 in
set_option maxHeartbeats 40000000 in
theorem rm4 (l : Launch) (Z : State) (a0 : Array Value) (hw : ∀ d ∈ tables_1, d.before a0 Z = true) (a1 : Addr) (p3 : Int32) (k : ClassId) (n : Int32) (f : Nat → Int32) (h0 : Heap) (n0 : Nat) (Z0 : n0 ≤ h0.size) (F : own_Arf Z h0 a1 k .byte n f) (HL : ¬ n < p3) :
    own_Met l Z [] (⟨"com/example/meterkeep/meterkeep/store/RecordedIds", "fingerprint", "([BII)I"⟩ : MethodName) prog_84_method_6_code 6 (some .int) ({ frames := 0, cells := 0, slots := 0, locals := 0 } : Room) #[(.ref a1), (.int (0 : Int32)), (.int p3)] h0 (own_QE h0 n0) := by
  refine own_enter pn_4 ?_
  intro p e s m below meth c s₁ X0 hx hby hml hown hret hlk hnm hZ e0
  have hml : c.maxLocals = 6 := hml
  have N0 := Fr.nil n0
  rw [ef_4 m a1 (0 : Int32) p3]
  have loop : ∀ (k : Nat) (i : Int32) (r : Int64), ¬ i < 0 → i.toNatClampNeg + k = p3.toNatClampNeg → own_Fin p e below s (own_QE h0 n0) ({ frames := 0, cells := 0, slots := 0, locals := 0 } : Room).cells ({ frames := 0, cells := 0, slots := 0, locals := 0 } : Room).slots (s₁.setTop (mkF m 7 #[.val (.ref a1), .val (.int (0 : Int32)), .val (.int p3), .val (.long r), .second, .val (.int i)] [])) := by
    intro k
    induction k with
    | zero =>
      intro i r hi hk
      show own_Fin p e below s _ _ _ (s₁.setTop (mkF m 7 #[.val (.ref a1), .val (.int (0 : Int32)), .val (.int p3), .val (.long r), .second, .val (.int i)] []))
      refine own_Fin.step (fun _ => XS.iload X0.here hx rfl (hb hby d4_7) rfl) ?_
      show own_Fin p e below s _ _ _ (s₁.setTop (mkF m 9 #[.val (.ref a1), .val (.int (0 : Int32)), .val (.int p3), .val (.long r), .second, .val (.int i)] [(.int i)]))
      refine own_Fin.step (fun _ => XS.iloadN X0.here hx rfl (hb hby d4_9) rfl) ?_
      show own_Fin p e below s _ _ _ (s₁.setTop (mkF m 10 #[.val (.ref a1), .val (.int (0 : Int32)), .val (.int p3), .val (.long r), .second, .val (.int i)] [(.int p3), (.int i)]))
      refine own_Fin.step (fun _ => XS.icmpYes X0.here hx rfl (pc0 := 10) (pc' := 35) rfl (hb hby d4_10) rfl (XT.ii_ge_t (own_stopd hi hk)) (by decide) (by decide)) ?_
      show own_Fin p e below s _ _ _ (s₁.setTop (mkF m 35 #[.val (.ref a1), .val (.int (0 : Int32)), .val (.int p3), .val (.long r), .second, .val (.int i)] []))
      refine own_Fin.step (fun _ => XS.lloadN X0.here hx rfl (hb hby d4_35) rfl) ?_
      show own_Fin p e below s _ _ _ (s₁.setTop (mkF m 36 #[.val (.ref a1), .val (.int (0 : Int32)), .val (.int p3), .val (.long r), .second, .val (.int i)] [(.long r)]))
      refine own_Fin.step (fun _ => XS.lloadN X0.here hx rfl (hb hby d4_36) rfl) ?_
      show own_Fin p e below s _ _ _ (s₁.setTop (mkF m 37 #[.val (.ref a1), .val (.int (0 : Int32)), .val (.int p3), .val (.long r), .second, .val (.int i)] [(.long r), (.long r)]))
      refine own_Fin.step (fun _ => XS.bipush X0.here hx rfl (hb hby d4_37)) ?_
      show own_Fin p e below s _ _ _ (s₁.setTop (mkF m 39 #[.val (.ref a1), .val (.int (0 : Int32)), .val (.int p3), .val (.long r), .second, .val (.int i)] [(.int (33 : Int32)), (.long r), (.long r)]))
      refine own_Fin.step (fun _ => XS.lushr X0.here hx rfl (hb hby d4_39) rfl) ?_
      show own_Fin p e below s _ _ _ (s₁.setTop (mkF m 40 #[.val (.ref a1), .val (.int (0 : Int32)), .val (.int p3), .val (.long r), .second, .val (.int i)] [(.long ((r.toUInt64 >>> ((33 : Int32) &&& 0x3f).toInt64.toUInt64).toInt64)), (.long r)]))
      refine own_Fin.step (fun _ => XS.lxor X0.here hx rfl (hb hby d4_40) rfl) ?_
      show own_Fin p e below s _ _ _ (s₁.setTop (mkF m 41 #[.val (.ref a1), .val (.int (0 : Int32)), .val (.int p3), .val (.long r), .second, .val (.int i)] [(.long (r ^^^ ((r.toUInt64 >>> ((33 : Int32) &&& 0x3f).toInt64.toUInt64).toInt64)))]))
      refine own_Fin.step (X0.ldc2Long hx hown (mvT hZ (own_w hw 37 rfl)) (g := (mkF m 41 #[.val (.ref a1), .val (.int (0 : Int32)), .val (.int p3), .val (.long r), .second, .val (.int i)] [(.long (r ^^^ ((r.toUInt64 >>> ((33 : Int32) &&& 0x3f).toInt64.toUInt64).toInt64)))])) rfl (hb hby d4_41)) ?_
      show own_Fin p e below s _ _ _ (s₁.setTop (mkF m 44 #[.val (.ref a1), .val (.int (0 : Int32)), .val (.int p3), .val (.long r), .second, .val (.int i)] [(.long (-49064778989728563 : Int64)), (.long (r ^^^ ((r.toUInt64 >>> ((33 : Int32) &&& 0x3f).toInt64.toUInt64).toInt64)))]))
      refine own_Fin.step (fun _ => XS.lmul X0.here hx rfl (hb hby d4_44) rfl) ?_
      show own_Fin p e below s _ _ _ (s₁.setTop (mkF m 45 #[.val (.ref a1), .val (.int (0 : Int32)), .val (.int p3), .val (.long r), .second, .val (.int i)] [(.long ((r ^^^ ((r.toUInt64 >>> ((33 : Int32) &&& 0x3f).toInt64.toUInt64).toInt64)) * (-49064778989728563 : Int64)))]))
      refine own_Fin.step (fun _ => XS.lstoreN X0.here hx rfl (hb hby d4_45) rfl (l' := #[.val (.ref a1), .val (.int (0 : Int32)), .val (.int p3), .val (.long ((r ^^^ ((r.toUInt64 >>> ((33 : Int32) &&& 0x3f).toInt64.toUInt64).toInt64)) * (-49064778989728563 : Int64))), .second, .val (.int i)]) rfl) ?_
      show own_Fin p e below s _ _ _ (s₁.setTop (mkF m 46 #[.val (.ref a1), .val (.int (0 : Int32)), .val (.int p3), .val (.long ((r ^^^ ((r.toUInt64 >>> ((33 : Int32) &&& 0x3f).toInt64.toUInt64).toInt64)) * (-49064778989728563 : Int64))), .second, .val (.int i)] []))
      refine own_Fin.step (fun _ => XS.lloadN X0.here hx rfl (hb hby d4_46) rfl) ?_
      show own_Fin p e below s _ _ _ (s₁.setTop (mkF m 47 #[.val (.ref a1), .val (.int (0 : Int32)), .val (.int p3), .val (.long ((r ^^^ ((r.toUInt64 >>> ((33 : Int32) &&& 0x3f).toInt64.toUInt64).toInt64)) * (-49064778989728563 : Int64))), .second, .val (.int i)] [(.long ((r ^^^ ((r.toUInt64 >>> ((33 : Int32) &&& 0x3f).toInt64.toUInt64).toInt64)) * (-49064778989728563 : Int64)))]))
      refine own_Fin.step (fun _ => XS.lloadN X0.here hx rfl (hb hby d4_47) rfl) ?_
      show own_Fin p e below s _ _ _ (s₁.setTop (mkF m 48 #[.val (.ref a1), .val (.int (0 : Int32)), .val (.int p3), .val (.long ((r ^^^ ((r.toUInt64 >>> ((33 : Int32) &&& 0x3f).toInt64.toUInt64).toInt64)) * (-49064778989728563 : Int64))), .second, .val (.int i)] [(.long ((r ^^^ ((r.toUInt64 >>> ((33 : Int32) &&& 0x3f).toInt64.toUInt64).toInt64)) * (-49064778989728563 : Int64))), (.long ((r ^^^ ((r.toUInt64 >>> ((33 : Int32) &&& 0x3f).toInt64.toUInt64).toInt64)) * (-49064778989728563 : Int64)))]))
      refine own_Fin.step (fun _ => XS.bipush X0.here hx rfl (hb hby d4_48)) ?_
      show own_Fin p e below s _ _ _ (s₁.setTop (mkF m 50 #[.val (.ref a1), .val (.int (0 : Int32)), .val (.int p3), .val (.long ((r ^^^ ((r.toUInt64 >>> ((33 : Int32) &&& 0x3f).toInt64.toUInt64).toInt64)) * (-49064778989728563 : Int64))), .second, .val (.int i)] [(.int (32 : Int32)), (.long ((r ^^^ ((r.toUInt64 >>> ((33 : Int32) &&& 0x3f).toInt64.toUInt64).toInt64)) * (-49064778989728563 : Int64))), (.long ((r ^^^ ((r.toUInt64 >>> ((33 : Int32) &&& 0x3f).toInt64.toUInt64).toInt64)) * (-49064778989728563 : Int64)))]))
      refine own_Fin.step (fun _ => XS.lushr X0.here hx rfl (hb hby d4_50) rfl) ?_
      show own_Fin p e below s _ _ _ (s₁.setTop (mkF m 51 #[.val (.ref a1), .val (.int (0 : Int32)), .val (.int p3), .val (.long ((r ^^^ ((r.toUInt64 >>> ((33 : Int32) &&& 0x3f).toInt64.toUInt64).toInt64)) * (-49064778989728563 : Int64))), .second, .val (.int i)] [(.long ((((r ^^^ ((r.toUInt64 >>> ((33 : Int32) &&& 0x3f).toInt64.toUInt64).toInt64)) * (-49064778989728563 : Int64)).toUInt64 >>> ((32 : Int32) &&& 0x3f).toInt64.toUInt64).toInt64)), (.long ((r ^^^ ((r.toUInt64 >>> ((33 : Int32) &&& 0x3f).toInt64.toUInt64).toInt64)) * (-49064778989728563 : Int64)))]))
      refine own_Fin.step (fun _ => XS.lxor X0.here hx rfl (hb hby d4_51) rfl) ?_
      show own_Fin p e below s _ _ _ (s₁.setTop (mkF m 52 #[.val (.ref a1), .val (.int (0 : Int32)), .val (.int p3), .val (.long ((r ^^^ ((r.toUInt64 >>> ((33 : Int32) &&& 0x3f).toInt64.toUInt64).toInt64)) * (-49064778989728563 : Int64))), .second, .val (.int i)] [(.long (((r ^^^ ((r.toUInt64 >>> ((33 : Int32) &&& 0x3f).toInt64.toUInt64).toInt64)) * (-49064778989728563 : Int64)) ^^^ ((((r ^^^ ((r.toUInt64 >>> ((33 : Int32) &&& 0x3f).toInt64.toUInt64).toInt64)) * (-49064778989728563 : Int64)).toUInt64 >>> ((32 : Int32) &&& 0x3f).toInt64.toUInt64).toInt64)))]))
      refine own_Fin.step (fun _ => XS.l2i X0.here hx rfl (hb hby d4_52) rfl) ?_
      show own_Fin p e below s _ _ _ (s₁.setTop (mkF m 53 #[.val (.ref a1), .val (.int (0 : Int32)), .val (.int p3), .val (.long ((r ^^^ ((r.toUInt64 >>> ((33 : Int32) &&& 0x3f).toInt64.toUInt64).toInt64)) * (-49064778989728563 : Int64))), .second, .val (.int i)] [(.int ((((r ^^^ ((r.toUInt64 >>> ((33 : Int32) &&& 0x3f).toInt64.toUInt64).toInt64)) * (-49064778989728563 : Int64)) ^^^ ((((r ^^^ ((r.toUInt64 >>> ((33 : Int32) &&& 0x3f).toInt64.toUInt64).toInt64)) * (-49064778989728563 : Int64)).toUInt64 >>> ((32 : Int32) &&& 0x3f).toInt64.toUInt64).toInt64)).toInt32))]))
      generalize hhv : ((((r ^^^ ((r.toUInt64 >>> ((33 : Int32) &&& 0x3f).toInt64.toUInt64).toInt64)) * (-49064778989728563 : Int64)) ^^^ ((((r ^^^ ((r.toUInt64 >>> ((33 : Int32) &&& 0x3f).toInt64.toUInt64).toInt64)) * (-49064778989728563 : Int64)).toUInt64 >>> ((32 : Int32) &&& 0x3f).toInt64.toUInt64).toInt64)).toInt32) = hv
      refine own_Fin.step (fun _ => XS.istore X0.here hx rfl (hb hby d4_53) rfl (l' := #[.val (.ref a1), .val (.int (0 : Int32)), .val (.int p3), .val (.long ((r ^^^ ((r.toUInt64 >>> ((33 : Int32) &&& 0x3f).toInt64.toUInt64).toInt64)) * (-49064778989728563 : Int64))), .second, .val (.int hv)]) rfl) ?_
      show own_Fin p e below s _ _ _ (s₁.setTop (mkF m 55 #[.val (.ref a1), .val (.int (0 : Int32)), .val (.int p3), .val (.long ((r ^^^ ((r.toUInt64 >>> ((33 : Int32) &&& 0x3f).toInt64.toUInt64).toInt64)) * (-49064778989728563 : Int64))), .second, .val (.int hv)] []))
      refine own_Fin.step (fun _ => XS.iload X0.here hx rfl (hb hby d4_55) rfl) ?_
      show own_Fin p e below s _ _ _ (s₁.setTop (mkF m 57 #[.val (.ref a1), .val (.int (0 : Int32)), .val (.int p3), .val (.long ((r ^^^ ((r.toUInt64 >>> ((33 : Int32) &&& 0x3f).toInt64.toUInt64).toInt64)) * (-49064778989728563 : Int64))), .second, .val (.int hv)] [(.int hv)]))
      by_cases hc57_1 : hv = (0 : Int32)
      ·
        refine own_Fin.step (fun _ => XS.ifNo X0.here hx rfl (hb hby d4_57) rfl (XT.i0_ne_f hc57_1)) ?_
        show own_Fin p e below s _ _ _ (s₁.setTop (mkF m 60 #[.val (.ref a1), .val (.int (0 : Int32)), .val (.int p3), .val (.long ((r ^^^ ((r.toUInt64 >>> ((33 : Int32) &&& 0x3f).toInt64.toUInt64).toInt64)) * (-49064778989728563 : Int64))), .second, .val (.int hv)] []))
        refine own_Fin.step (fun _ => XS.iconst X0.here hx rfl (hb hby d4_60)) ?_
        show own_Fin p e below s _ _ _ (s₁.setTop (mkF m 61 #[.val (.ref a1), .val (.int (0 : Int32)), .val (.int p3), .val (.long ((r ^^^ ((r.toUInt64 >>> ((33 : Int32) &&& 0x3f).toInt64.toUInt64).toInt64)) * (-49064778989728563 : Int64))), .second, .val (.int hv)] [(.int (1 : Int32))]))
        refine own_Fin.step (fun _ => XS.goto X0.here hx rfl (pc0 := 61) (pc' := 66) rfl (hb hby d4_61) (by decide) (by decide)) ?_
        show own_Fin p e below s _ _ _ (s₁.setTop (mkF m 66 #[.val (.ref a1), .val (.int (0 : Int32)), .val (.int p3), .val (.long ((r ^^^ ((r.toUInt64 >>> ((33 : Int32) &&& 0x3f).toInt64.toUInt64).toInt64)) * (-49064778989728563 : Int64))), .second, .val (.int hv)] [(.int (1 : Int32))]))
        exact own_retI X0 hx hlk hret (hb hby d4_66) ⟨_, rfl, N0, e0⟩ (by decide) (by decide)
      ·
        refine own_Fin.step (fun _ => XS.ifYes X0.here hx rfl (pc0 := 57) (pc' := 64) rfl (hb hby d4_57) rfl (XT.i0_ne_t hc57_1) (by decide) (by decide)) ?_
        show own_Fin p e below s _ _ _ (s₁.setTop (mkF m 64 #[.val (.ref a1), .val (.int (0 : Int32)), .val (.int p3), .val (.long ((r ^^^ ((r.toUInt64 >>> ((33 : Int32) &&& 0x3f).toInt64.toUInt64).toInt64)) * (-49064778989728563 : Int64))), .second, .val (.int hv)] []))
        refine own_Fin.step (fun _ => XS.iload X0.here hx rfl (hb hby d4_64) rfl) ?_
        show own_Fin p e below s _ _ _ (s₁.setTop (mkF m 66 #[.val (.ref a1), .val (.int (0 : Int32)), .val (.int p3), .val (.long ((r ^^^ ((r.toUInt64 >>> ((33 : Int32) &&& 0x3f).toInt64.toUInt64).toInt64)) * (-49064778989728563 : Int64))), .second, .val (.int hv)] [(.int hv)]))
        exact own_retI X0 hx hlk hret (hb hby d4_66) ⟨_, rfl, N0, e0⟩ (by decide) (by decide)
    | succ k ih =>
      intro i r hi hk
      show own_Fin p e below s _ _ _ (s₁.setTop (mkF m 7 #[.val (.ref a1), .val (.int (0 : Int32)), .val (.int p3), .val (.long r), .second, .val (.int i)] []))
      refine own_Fin.step (fun _ => XS.iload X0.here hx rfl (hb hby d4_7) rfl) ?_
      show own_Fin p e below s _ _ _ (s₁.setTop (mkF m 9 #[.val (.ref a1), .val (.int (0 : Int32)), .val (.int p3), .val (.long r), .second, .val (.int i)] [(.int i)]))
      refine own_Fin.step (fun _ => XS.iloadN X0.here hx rfl (hb hby d4_9) rfl) ?_
      show own_Fin p e below s _ _ _ (s₁.setTop (mkF m 10 #[.val (.ref a1), .val (.int (0 : Int32)), .val (.int p3), .val (.long r), .second, .val (.int i)] [(.int p3), (.int i)]))
      refine own_Fin.step (fun _ => XS.icmpNo X0.here hx rfl (hb hby d4_10) rfl (XT.ii_ge_f (own_next hi hk).1)) ?_
      show own_Fin p e below s _ _ _ (s₁.setTop (mkF m 13 #[.val (.ref a1), .val (.int (0 : Int32)), .val (.int p3), .val (.long r), .second, .val (.int i)] []))
      refine own_Fin.step (fun _ => XS.lloadN X0.here hx rfl (hb hby d4_13) rfl) ?_
      show own_Fin p e below s _ _ _ (s₁.setTop (mkF m 14 #[.val (.ref a1), .val (.int (0 : Int32)), .val (.int p3), .val (.long r), .second, .val (.int i)] [(.long r)]))
      refine own_Fin.step (fun _ => XS.aloadN X0.here hx rfl (hb hby d4_14) rfl rfl) ?_
      show own_Fin p e below s _ _ _ (s₁.setTop (mkF m 15 #[.val (.ref a1), .val (.int (0 : Int32)), .val (.int p3), .val (.long r), .second, .val (.int i)] [(.ref a1), (.long r)]))
      refine own_Fin.step (fun _ => XS.iload X0.here hx rfl (hb hby d4_15) rfl) ?_
      show own_Fin p e below s _ _ _ (s₁.setTop (mkF m 17 #[.val (.ref a1), .val (.int (0 : Int32)), .val (.int p3), .val (.long r), .second, .val (.int i)] [(.int i), (.ref a1), (.long r)]))
      refine own_Fin.step (own_ldFB X0 hx hZ e0 F (j := i) ⟨hi, Int32.lt_iff_toInt_lt.mpr (Int.lt_of_lt_of_le (Int32.lt_iff_toInt_lt.mp (own_next hi hk).1) (Int.not_lt.mp (fun q => HL (Int32.lt_iff_toInt_lt.mpr q))))⟩ (g := (mkF m 17 #[.val (.ref a1), .val (.int (0 : Int32)), .val (.int p3), .val (.long r), .second, .val (.int i)] [(.int i), (.ref a1), (.long r)])) rfl rfl (hb hby d4_17)) ?_
      show own_Fin p e below s _ _ _ (s₁.setTop (mkF m 18 #[.val (.ref a1), .val (.int (0 : Int32)), .val (.int p3), .val (.long r), .second, .val (.int i)] [(.int (f (i).toNatClampNeg)), (.long r)]))
      refine own_Fin.step (fun _ => XS.sipush X0.here hx rfl (hb hby d4_18)) ?_
      show own_Fin p e below s _ _ _ (s₁.setTop (mkF m 21 #[.val (.ref a1), .val (.int (0 : Int32)), .val (.int p3), .val (.long r), .second, .val (.int i)] [(.int (255 : Int32)), (.int (f (i).toNatClampNeg)), (.long r)]))
      refine own_Fin.step (fun _ => XS.iand X0.here hx rfl (hb hby d4_21) rfl) ?_
      show own_Fin p e below s _ _ _ (s₁.setTop (mkF m 22 #[.val (.ref a1), .val (.int (0 : Int32)), .val (.int p3), .val (.long r), .second, .val (.int i)] [(.int ((f (i).toNatClampNeg) &&& (255 : Int32))), (.long r)]))
      refine own_Fin.step (fun _ => XS.i2l X0.here hx rfl (hb hby d4_22) rfl) ?_
      show own_Fin p e below s _ _ _ (s₁.setTop (mkF m 23 #[.val (.ref a1), .val (.int (0 : Int32)), .val (.int p3), .val (.long r), .second, .val (.int i)] [(.long (((f (i).toNatClampNeg) &&& (255 : Int32)).toInt64)), (.long r)]))
      refine own_Fin.step (fun _ => XS.lxor X0.here hx rfl (hb hby d4_23) rfl) ?_
      show own_Fin p e below s _ _ _ (s₁.setTop (mkF m 24 #[.val (.ref a1), .val (.int (0 : Int32)), .val (.int p3), .val (.long r), .second, .val (.int i)] [(.long (r ^^^ (((f (i).toNatClampNeg) &&& (255 : Int32)).toInt64)))]))
      refine own_Fin.step (X0.ldc2Long hx hown (mvT hZ (own_w hw 36 rfl)) (g := (mkF m 24 #[.val (.ref a1), .val (.int (0 : Int32)), .val (.int p3), .val (.long r), .second, .val (.int i)] [(.long (r ^^^ (((f (i).toNatClampNeg) &&& (255 : Int32)).toInt64)))])) rfl (hb hby d4_24)) ?_
      show own_Fin p e below s _ _ _ (s₁.setTop (mkF m 27 #[.val (.ref a1), .val (.int (0 : Int32)), .val (.int p3), .val (.long r), .second, .val (.int i)] [(.long (1099511628211 : Int64)), (.long (r ^^^ (((f (i).toNatClampNeg) &&& (255 : Int32)).toInt64)))]))
      refine own_Fin.step (fun _ => XS.lmul X0.here hx rfl (hb hby d4_27) rfl) ?_
      show own_Fin p e below s _ _ _ (s₁.setTop (mkF m 28 #[.val (.ref a1), .val (.int (0 : Int32)), .val (.int p3), .val (.long r), .second, .val (.int i)] [(.long ((r ^^^ (((f (i).toNatClampNeg) &&& (255 : Int32)).toInt64)) * (1099511628211 : Int64)))]))
      refine own_Fin.step (fun _ => XS.lstoreN X0.here hx rfl (hb hby d4_28) rfl (l' := #[.val (.ref a1), .val (.int (0 : Int32)), .val (.int p3), .val (.long ((r ^^^ (((f (i).toNatClampNeg) &&& (255 : Int32)).toInt64)) * (1099511628211 : Int64))), .second, .val (.int i)]) rfl) ?_
      show own_Fin p e below s _ _ _ (s₁.setTop (mkF m 29 #[.val (.ref a1), .val (.int (0 : Int32)), .val (.int p3), .val (.long ((r ^^^ (((f (i).toNatClampNeg) &&& (255 : Int32)).toInt64)) * (1099511628211 : Int64))), .second, .val (.int i)] []))
      refine own_Fin.step (fun _ => XS.iinc X0.here hx rfl (hb hby d4_29) rfl (l' := #[.val (.ref a1), .val (.int (0 : Int32)), .val (.int p3), .val (.long ((r ^^^ (((f (i).toNatClampNeg) &&& (255 : Int32)).toInt64)) * (1099511628211 : Int64))), .second, .val (.int (i + (1 : Int32)))]) rfl) ?_
      show own_Fin p e below s _ _ _ (s₁.setTop (mkF m 32 #[.val (.ref a1), .val (.int (0 : Int32)), .val (.int p3), .val (.long ((r ^^^ (((f (i).toNatClampNeg) &&& (255 : Int32)).toInt64)) * (1099511628211 : Int64))), .second, .val (.int (i + (1 : Int32)))] []))
      refine own_Fin.step (fun _ => XS.goto X0.here hx rfl (pc0 := 32) (pc' := 7) rfl (hb hby d4_32) (by decide) (by decide)) ?_
      exact ih _ _ (own_next hi hk).2.1 (by rw [(own_next hi hk).2.2]; omega)
  show own_Fin p e below s _ _ _ (s₁.setTop (mkF m 0 #[.val (.ref a1), .val (.int (0 : Int32)), .val (.int p3), .unset, .unset, .unset] []))
  refine own_Fin.step (X0.ldc2Long hx hown (mvT hZ (own_w hw 35 rfl)) (g := (mkF m 0 #[.val (.ref a1), .val (.int (0 : Int32)), .val (.int p3), .unset, .unset, .unset] [])) rfl (hb hby d4_0)) ?_
  show own_Fin p e below s _ _ _ (s₁.setTop (mkF m 3 #[.val (.ref a1), .val (.int (0 : Int32)), .val (.int p3), .unset, .unset, .unset] [(.long (-3750763034362895579 : Int64))]))
  refine own_Fin.step (fun _ => XS.lstoreN X0.here hx rfl (hb hby d4_3) rfl (l' := #[.val (.ref a1), .val (.int (0 : Int32)), .val (.int p3), .val (.long (-3750763034362895579 : Int64)), .second, .unset]) rfl) ?_
  show own_Fin p e below s _ _ _ (s₁.setTop (mkF m 4 #[.val (.ref a1), .val (.int (0 : Int32)), .val (.int p3), .val (.long (-3750763034362895579 : Int64)), .second, .unset] []))
  refine own_Fin.step (fun _ => XS.iloadN X0.here hx rfl (hb hby d4_4) rfl) ?_
  show own_Fin p e below s _ _ _ (s₁.setTop (mkF m 5 #[.val (.ref a1), .val (.int (0 : Int32)), .val (.int p3), .val (.long (-3750763034362895579 : Int64)), .second, .unset] [(.int (0 : Int32))]))
  refine own_Fin.step (fun _ => XS.istore X0.here hx rfl (hb hby d4_5) rfl (l' := #[.val (.ref a1), .val (.int (0 : Int32)), .val (.int p3), .val (.long (-3750763034362895579 : Int64)), .second, .val (.int (0 : Int32))]) rfl) ?_
  exact loop p3.toNatClampNeg _ _ (by decide) (by show 0 + _ = _; omega)
theorem d5_0 : decode prog_84_method_5_code 0 = .ok (.aload_n 0, 1) := by decide +kernel
theorem d5_1 : decode prog_84_method_5_code 1 = .ok (.arraylength, 1) := by decide +kernel
theorem d5_2 : decode prog_84_method_5_code 2 = .ok (.iconst 1, 1) := by decide +kernel
theorem d5_3 : decode prog_84_method_5_code 3 = .ok (.isub, 1) := by decide +kernel
theorem d5_4 : decode prog_84_method_5_code 4 = .ok (.istore_n 2, 1) := by decide +kernel
theorem d5_5 : decode prog_84_method_5_code 5 = .ok (.iload_n 1, 1) := by decide +kernel
theorem d5_6 : decode prog_84_method_5_code 6 = .ok (.iload_n 2, 1) := by decide +kernel
theorem d5_7 : decode prog_84_method_5_code 7 = .ok (.iand, 1) := by decide +kernel
theorem d5_8 : decode prog_84_method_5_code 8 = .ok (.istore_n 3, 1) := by decide +kernel
theorem d5_9 : decode prog_84_method_5_code 9 = .ok (.aload_n 0, 1) := by decide +kernel
theorem d5_10 : decode prog_84_method_5_code 10 = .ok (.iload_n 3, 1) := by decide +kernel
theorem d5_11 : decode prog_84_method_5_code 11 = .ok (.iaload, 1) := by decide +kernel
theorem d5_12 : decode prog_84_method_5_code 12 = .ok (.ifCond .eq 19, 3) := by decide +kernel
theorem d5_15 : decode prog_84_method_5_code 15 = .ok (.aload_n 0, 1) := by decide +kernel
theorem d5_16 : decode prog_84_method_5_code 16 = .ok (.iload_n 3, 1) := by decide +kernel
theorem d5_17 : decode prog_84_method_5_code 17 = .ok (.iaload, 1) := by decide +kernel
theorem d5_18 : decode prog_84_method_5_code 18 = .ok (.iload_n 1, 1) := by decide +kernel
theorem d5_19 : decode prog_84_method_5_code 19 = .ok (.if_icmp .eq 12, 3) := by decide +kernel
theorem d5_22 : decode prog_84_method_5_code 22 = .ok (.iload_n 3, 1) := by decide +kernel
theorem d5_23 : decode prog_84_method_5_code 23 = .ok (.iconst 1, 1) := by decide +kernel
theorem d5_24 : decode prog_84_method_5_code 24 = .ok (.iadd, 1) := by decide +kernel
theorem d5_25 : decode prog_84_method_5_code 25 = .ok (.iload_n 2, 1) := by decide +kernel
theorem d5_26 : decode prog_84_method_5_code 26 = .ok (.iand, 1) := by decide +kernel
theorem d5_27 : decode prog_84_method_5_code 27 = .ok (.istore_n 3, 1) := by decide +kernel
theorem d5_28 : decode prog_84_method_5_code 28 = .ok (.goto (-19), 3) := by decide +kernel
theorem d5_31 : decode prog_84_method_5_code 31 = .ok (.aload_n 0, 1) := by decide +kernel
theorem d5_32 : decode prog_84_method_5_code 32 = .ok (.iload_n 3, 1) := by decide +kernel
theorem d5_33 : decode prog_84_method_5_code 33 = .ok (.iaload, 1) := by decide +kernel
theorem d5_34 : decode prog_84_method_5_code 34 = .ok (.ifCond .ne 7, 3) := by decide +kernel
theorem d5_37 : decode prog_84_method_5_code 37 = .ok (.iconst 1, 1) := by decide +kernel
theorem d5_38 : decode prog_84_method_5_code 38 = .ok (.goto 4, 3) := by decide +kernel
theorem d5_41 : decode prog_84_method_5_code 41 = .ok (.iconst 0, 1) := by decide +kernel
theorem d5_42 : decode prog_84_method_5_code 42 = .ok (.istore 4, 2) := by decide +kernel
theorem d5_44 : decode prog_84_method_5_code 44 = .ok (.aload_n 0, 1) := by decide +kernel
theorem d5_45 : decode prog_84_method_5_code 45 = .ok (.iload_n 3, 1) := by decide +kernel
theorem d5_46 : decode prog_84_method_5_code 46 = .ok (.iload_n 1, 1) := by decide +kernel
theorem d5_47 : decode prog_84_method_5_code 47 = .ok (.iastore, 1) := by decide +kernel
theorem d5_48 : decode prog_84_method_5_code 48 = .ok (.iload 4, 2) := by decide +kernel
theorem d5_50 : decode prog_84_method_5_code 50 = .ok (.ireturn, 1) := by decide +kernel
theorem pn_5 : plainFor (⟨"com/example/meterkeep/meterkeep/store/RecordedIds", "place", "([II)Z"⟩ : MethodName) = true := plainFor_of_name (by first | (simp [plainName, overriddenIn]; done) | decide +kernel)
theorem ef_5 (m : MethodId) (x0 : Addr) (x1 : Int32) : entryFrame m #[(.ref x0), (.int x1)] 5 = mkF m 0 #[.val (.ref x0), .val (.int x1), .unset, .unset, .unset] [] := by first | (simp [entryFrame, mkF, argsToLocals, Value.category]; done) | rfl
set_option maxRecDepth 65536 in
set_option maxHeartbeats 40000000 in
theorem rm5 (l : Launch) (Z : State) (a0 : Array Value) (hw : ∀ d ∈ tables_1, d.before a0 Z = true) (a1 : Addr) (p2 : Int32) (k : ClassId) (f : Nat → Int32) (fc : Nat) (h0 : Heap) (n0 : Nat) (Z0 : n0 ≤ h0.size) (g1 : n0 ≤ a1) (F : own_Arf Z h0 a1 k .int (65536 : Int32) f) (HF : own_few f fc) (HC : fc < 60000) :
    own_Met l Z [] (⟨"com/example/meterkeep/meterkeep/store/RecordedIds", "place", "([II)Z"⟩ : MethodName) prog_84_method_5_code 5 (some .boolean) ({ frames := 0, cells := 0, slots := 0, locals := 0 } : Room) #[(.ref a1), (.int p2)] h0 (own_QL Z a1 k fc h0 n0) := by
  refine own_enter pn_5 ?_
  intro p e s m below meth c s₁ X0 hx hby hml hown hret hlk hnm hZ e0
  have hml : c.maxLocals = 5 := hml
  have N0 := Fr.nil n0
  rw [ef_5 m a1 p2]
  have out : ∀ (i : Int32), (¬ i < 0 ∧ i < 65536) → own_Fin p e below s (own_QL Z a1 k fc h0 n0) ({ frames := 0, cells := 0, slots := 0, locals := 0 } : Room).cells ({ frames := 0, cells := 0, slots := 0, locals := 0 } : Room).slots (s₁.setTop (mkF m 31 #[.val (.ref a1), .val (.int p2), .val (.int (65535 : Int32)), .val (.int i), .unset] [])) := by
    intro i hi
    show own_Fin p e below s _ _ _ (s₁.setTop (mkF m 31 #[.val (.ref a1), .val (.int p2), .val (.int (65535 : Int32)), .val (.int i), .unset] []))
    refine own_Fin.step (fun _ => XS.aloadN X0.here hx rfl (hb hby d5_31) rfl rfl) ?_
    show own_Fin p e below s _ _ _ (s₁.setTop (mkF m 32 #[.val (.ref a1), .val (.int p2), .val (.int (65535 : Int32)), .val (.int i), .unset] [(.ref a1)]))
    refine own_Fin.step (fun _ => XS.iloadN X0.here hx rfl (hb hby d5_32) rfl) ?_
    show own_Fin p e below s _ _ _ (s₁.setTop (mkF m 33 #[.val (.ref a1), .val (.int p2), .val (.int (65535 : Int32)), .val (.int i), .unset] [(.int i), (.ref a1)]))
    refine own_Fin.step (own_ldFI X0 hx hZ e0 F (j := i) hi (g := (mkF m 33 #[.val (.ref a1), .val (.int p2), .val (.int (65535 : Int32)), .val (.int i), .unset] [(.int i), (.ref a1)])) rfl rfl (hb hby d5_33)) ?_
    show own_Fin p e below s _ _ _ (s₁.setTop (mkF m 34 #[.val (.ref a1), .val (.int p2), .val (.int (65535 : Int32)), .val (.int i), .unset] [(.int (f (i).toNatClampNeg))]))
    by_cases hc34_1 : (f (i).toNatClampNeg) = (0 : Int32)
    ·
      refine own_Fin.step (fun _ => XS.ifNo X0.here hx rfl (hb hby d5_34) rfl (XT.i0_ne_f hc34_1)) ?_
      show own_Fin p e below s _ _ _ (s₁.setTop (mkF m 37 #[.val (.ref a1), .val (.int p2), .val (.int (65535 : Int32)), .val (.int i), .unset] []))
      refine own_Fin.step (fun _ => XS.iconst X0.here hx rfl (hb hby d5_37)) ?_
      show own_Fin p e below s _ _ _ (s₁.setTop (mkF m 38 #[.val (.ref a1), .val (.int p2), .val (.int (65535 : Int32)), .val (.int i), .unset] [(.int (1 : Int32))]))
      refine own_Fin.step (fun _ => XS.goto X0.here hx rfl (pc0 := 38) (pc' := 42) rfl (hb hby d5_38) (by decide) (by decide)) ?_
      show own_Fin p e below s _ _ _ (s₁.setTop (mkF m 42 #[.val (.ref a1), .val (.int p2), .val (.int (65535 : Int32)), .val (.int i), .unset] [(.int (1 : Int32))]))
      refine own_Fin.step (fun _ => XS.istore X0.here hx rfl (hb hby d5_42) rfl (l' := #[.val (.ref a1), .val (.int p2), .val (.int (65535 : Int32)), .val (.int i), .val (.int (1 : Int32))]) rfl) ?_
      show own_Fin p e below s _ _ _ (s₁.setTop (mkF m 44 #[.val (.ref a1), .val (.int p2), .val (.int (65535 : Int32)), .val (.int i), .val (.int (1 : Int32))] []))
      refine own_Fin.step (fun _ => XS.aloadN X0.here hx rfl (hb hby d5_44) rfl rfl) ?_
      show own_Fin p e below s _ _ _ (s₁.setTop (mkF m 45 #[.val (.ref a1), .val (.int p2), .val (.int (65535 : Int32)), .val (.int i), .val (.int (1 : Int32))] [(.ref a1)]))
      refine own_Fin.step (fun _ => XS.iloadN X0.here hx rfl (hb hby d5_45) rfl) ?_
      show own_Fin p e below s _ _ _ (s₁.setTop (mkF m 46 #[.val (.ref a1), .val (.int p2), .val (.int (65535 : Int32)), .val (.int i), .val (.int (1 : Int32))] [(.int i), (.ref a1)]))
      refine own_Fin.step (fun _ => XS.iloadN X0.here hx rfl (hb hby d5_46) rfl) ?_
      show own_Fin p e below s _ _ _ (s₁.setTop (mkF m 47 #[.val (.ref a1), .val (.int p2), .val (.int (65535 : Int32)), .val (.int i), .val (.int (1 : Int32))] [(.int p2), (.int i), (.ref a1)]))
      obtain ⟨T2, h2, X2, e2, V2, W2, st2⟩ := own_stFI X0 hx hZ e0 F (j := i) hi (g := (mkF m 47 #[.val (.ref a1), .val (.int p2), .val (.int (65535 : Int32)), .val (.int i), .val (.int (1 : Int32))] [(.int p2), (.int i), (.ref a1)])) rfl rfl (hb hby d5_47)
      have N2 := Fr.snoc X2 N0 g1
      have Z2 : n0 ≤ h2.size := Nat.le_trans Z0 (Nat.le_of_eq W2.size.symm)
      have K4 : Keep h0 h2 [a1] := (Keep.refl h0 [a1]).wr W2 (Or.inl (List.mem_of_getElem? (i := 0) rfl))
      refine own_Fin.step st2 ?_
      show own_Fin p e below s _ _ _ (T2.setTop (mkF m 48 #[.val (.ref a1), .val (.int p2), .val (.int (65535 : Int32)), .val (.int i), .val (.int (1 : Int32))] []))
      refine own_Fin.step (fun _ => XS.iload X2.here hx rfl (hb hby d5_48) rfl) ?_
      show own_Fin p e below s _ _ _ (T2.setTop (mkF m 50 #[.val (.ref a1), .val (.int p2), .val (.int (65535 : Int32)), .val (.int i), .val (.int (1 : Int32))] [(.int (1 : Int32))]))
      exact own_retN X2 hx hlk (t := .boolean) hret (by simp) (hb hby d5_50) (by rw [e2]; exact ⟨_, _, rfl, N2, K4, by decide, HF.upd HC _ _, V2⟩) (by decide) (by decide)
    ·
      refine own_Fin.step (fun _ => XS.ifYes X0.here hx rfl (pc0 := 34) (pc' := 41) rfl (hb hby d5_34) rfl (XT.i0_ne_t hc34_1) (by decide) (by decide)) ?_
      show own_Fin p e below s _ _ _ (s₁.setTop (mkF m 41 #[.val (.ref a1), .val (.int p2), .val (.int (65535 : Int32)), .val (.int i), .unset] []))
      refine own_Fin.step (fun _ => XS.iconst X0.here hx rfl (hb hby d5_41)) ?_
      show own_Fin p e below s _ _ _ (s₁.setTop (mkF m 42 #[.val (.ref a1), .val (.int p2), .val (.int (65535 : Int32)), .val (.int i), .unset] [(.int (0 : Int32))]))
      refine own_Fin.step (fun _ => XS.istore X0.here hx rfl (hb hby d5_42) rfl (l' := #[.val (.ref a1), .val (.int p2), .val (.int (65535 : Int32)), .val (.int i), .val (.int (0 : Int32))]) rfl) ?_
      show own_Fin p e below s _ _ _ (s₁.setTop (mkF m 44 #[.val (.ref a1), .val (.int p2), .val (.int (65535 : Int32)), .val (.int i), .val (.int (0 : Int32))] []))
      refine own_Fin.step (fun _ => XS.aloadN X0.here hx rfl (hb hby d5_44) rfl rfl) ?_
      show own_Fin p e below s _ _ _ (s₁.setTop (mkF m 45 #[.val (.ref a1), .val (.int p2), .val (.int (65535 : Int32)), .val (.int i), .val (.int (0 : Int32))] [(.ref a1)]))
      refine own_Fin.step (fun _ => XS.iloadN X0.here hx rfl (hb hby d5_45) rfl) ?_
      show own_Fin p e below s _ _ _ (s₁.setTop (mkF m 46 #[.val (.ref a1), .val (.int p2), .val (.int (65535 : Int32)), .val (.int i), .val (.int (0 : Int32))] [(.int i), (.ref a1)]))
      refine own_Fin.step (fun _ => XS.iloadN X0.here hx rfl (hb hby d5_46) rfl) ?_
      show own_Fin p e below s _ _ _ (s₁.setTop (mkF m 47 #[.val (.ref a1), .val (.int p2), .val (.int (65535 : Int32)), .val (.int i), .val (.int (0 : Int32))] [(.int p2), (.int i), (.ref a1)]))
      obtain ⟨T5, h5, X5, e5, V5, W5, st5⟩ := own_stFI X0 hx hZ e0 F (j := i) hi (g := (mkF m 47 #[.val (.ref a1), .val (.int p2), .val (.int (65535 : Int32)), .val (.int i), .val (.int (0 : Int32))] [(.int p2), (.int i), (.ref a1)])) rfl rfl (hb hby d5_47)
      have N5 := Fr.snoc X5 N0 g1
      have Z5 : n0 ≤ h5.size := Nat.le_trans Z0 (Nat.le_of_eq W5.size.symm)
      have K7 : Keep h0 h5 [a1] := (Keep.refl h0 [a1]).wr W5 (Or.inl (List.mem_of_getElem? (i := 0) rfl))
      refine own_Fin.step st5 ?_
      show own_Fin p e below s _ _ _ (T5.setTop (mkF m 48 #[.val (.ref a1), .val (.int p2), .val (.int (65535 : Int32)), .val (.int i), .val (.int (0 : Int32))] []))
      refine own_Fin.step (fun _ => XS.iload X5.here hx rfl (hb hby d5_48) rfl) ?_
      show own_Fin p e below s _ _ _ (T5.setTop (mkF m 50 #[.val (.ref a1), .val (.int p2), .val (.int (65535 : Int32)), .val (.int i), .val (.int (0 : Int32))] [(.int (0 : Int32))]))
      exact own_retN X5 hx hlk (t := .boolean) hret (by simp) (hb hby d5_50) (by rw [e5]; exact ⟨_, _, rfl, N5, K7, by decide, HF.upd HC _ _, V5⟩) (by decide) (by decide)
  have loop : ∀ (t : Nat) (i : Int32), (¬ i < 0 ∧ i < 65536) → (∃ u, u ≤ t ∧ f ((i.toNatClampNeg + u) % 65536) = 0) → own_Fin p e below s (own_QL Z a1 k fc h0 n0) ({ frames := 0, cells := 0, slots := 0, locals := 0 } : Room).cells ({ frames := 0, cells := 0, slots := 0, locals := 0 } : Room).slots (s₁.setTop (mkF m 9 #[.val (.ref a1), .val (.int p2), .val (.int (65535 : Int32)), .val (.int i), .unset] [])) := by
    intro t
    induction t with
    | zero =>
      intro i hi hz
      show own_Fin p e below s _ _ _ (s₁.setTop (mkF m 9 #[.val (.ref a1), .val (.int p2), .val (.int (65535 : Int32)), .val (.int i), .unset] []))
      refine own_Fin.step (fun _ => XS.aloadN X0.here hx rfl (hb hby d5_9) rfl rfl) ?_
      show own_Fin p e below s _ _ _ (s₁.setTop (mkF m 10 #[.val (.ref a1), .val (.int p2), .val (.int (65535 : Int32)), .val (.int i), .unset] [(.ref a1)]))
      refine own_Fin.step (fun _ => XS.iloadN X0.here hx rfl (hb hby d5_10) rfl) ?_
      show own_Fin p e below s _ _ _ (s₁.setTop (mkF m 11 #[.val (.ref a1), .val (.int p2), .val (.int (65535 : Int32)), .val (.int i), .unset] [(.int i), (.ref a1)]))
      refine own_Fin.step (own_ldFI X0 hx hZ e0 F (j := i) hi (g := (mkF m 11 #[.val (.ref a1), .val (.int p2), .val (.int (65535 : Int32)), .val (.int i), .unset] [(.int i), (.ref a1)])) rfl rfl (hb hby d5_11)) ?_
      show own_Fin p e below s _ _ _ (s₁.setTop (mkF m 12 #[.val (.ref a1), .val (.int p2), .val (.int (65535 : Int32)), .val (.int i), .unset] [(.int (f (i).toNatClampNeg))]))
      refine own_Fin.step (fun _ => XS.ifYes X0.here hx rfl (pc0 := 12) (pc' := 31) rfl (hb hby d5_12) rfl (XT.i0_eq_t (own_zero hi hz)) (by decide) (by decide)) ?_
      exact out _ hi
    | succ t ih =>
      intro i hi hz
      show own_Fin p e below s _ _ _ (s₁.setTop (mkF m 9 #[.val (.ref a1), .val (.int p2), .val (.int (65535 : Int32)), .val (.int i), .unset] []))
      refine own_Fin.step (fun _ => XS.aloadN X0.here hx rfl (hb hby d5_9) rfl rfl) ?_
      show own_Fin p e below s _ _ _ (s₁.setTop (mkF m 10 #[.val (.ref a1), .val (.int p2), .val (.int (65535 : Int32)), .val (.int i), .unset] [(.ref a1)]))
      refine own_Fin.step (fun _ => XS.iloadN X0.here hx rfl (hb hby d5_10) rfl) ?_
      show own_Fin p e below s _ _ _ (s₁.setTop (mkF m 11 #[.val (.ref a1), .val (.int p2), .val (.int (65535 : Int32)), .val (.int i), .unset] [(.int i), (.ref a1)]))
      refine own_Fin.step (own_ldFI X0 hx hZ e0 F (j := i) hi (g := (mkF m 11 #[.val (.ref a1), .val (.int p2), .val (.int (65535 : Int32)), .val (.int i), .unset] [(.int i), (.ref a1)])) rfl rfl (hb hby d5_11)) ?_
      show own_Fin p e below s _ _ _ (s₁.setTop (mkF m 12 #[.val (.ref a1), .val (.int p2), .val (.int (65535 : Int32)), .val (.int i), .unset] [(.int (f (i).toNatClampNeg))]))
      by_cases hc12_8 : (f (i).toNatClampNeg) = (0 : Int32)
      ·
        refine own_Fin.step (fun _ => XS.ifYes X0.here hx rfl (pc0 := 12) (pc' := 31) rfl (hb hby d5_12) rfl (XT.i0_eq_t hc12_8) (by decide) (by decide)) ?_
        exact out _ hi
      ·
        refine own_Fin.step (fun _ => XS.ifNo X0.here hx rfl (hb hby d5_12) rfl (XT.i0_eq_f hc12_8)) ?_
        show own_Fin p e below s _ _ _ (s₁.setTop (mkF m 15 #[.val (.ref a1), .val (.int p2), .val (.int (65535 : Int32)), .val (.int i), .unset] []))
        refine own_Fin.step (fun _ => XS.aloadN X0.here hx rfl (hb hby d5_15) rfl rfl) ?_
        show own_Fin p e below s _ _ _ (s₁.setTop (mkF m 16 #[.val (.ref a1), .val (.int p2), .val (.int (65535 : Int32)), .val (.int i), .unset] [(.ref a1)]))
        refine own_Fin.step (fun _ => XS.iloadN X0.here hx rfl (hb hby d5_16) rfl) ?_
        show own_Fin p e below s _ _ _ (s₁.setTop (mkF m 17 #[.val (.ref a1), .val (.int p2), .val (.int (65535 : Int32)), .val (.int i), .unset] [(.int i), (.ref a1)]))
        refine own_Fin.step (own_ldFI X0 hx hZ e0 F (j := i) hi (g := (mkF m 17 #[.val (.ref a1), .val (.int p2), .val (.int (65535 : Int32)), .val (.int i), .unset] [(.int i), (.ref a1)])) rfl rfl (hb hby d5_17)) ?_
        show own_Fin p e below s _ _ _ (s₁.setTop (mkF m 18 #[.val (.ref a1), .val (.int p2), .val (.int (65535 : Int32)), .val (.int i), .unset] [(.int (f (i).toNatClampNeg))]))
        refine own_Fin.step (fun _ => XS.iloadN X0.here hx rfl (hb hby d5_18) rfl) ?_
        show own_Fin p e below s _ _ _ (s₁.setTop (mkF m 19 #[.val (.ref a1), .val (.int p2), .val (.int (65535 : Int32)), .val (.int i), .unset] [(.int p2), (.int (f (i).toNatClampNeg))]))
        by_cases hc19_9 : (f (i).toNatClampNeg) = p2
        ·
          refine own_Fin.step (fun _ => XS.icmpYes X0.here hx rfl (pc0 := 19) (pc' := 31) rfl (hb hby d5_19) rfl (XT.ii_eq_t hc19_9) (by decide) (by decide)) ?_
          exact out _ hi
        ·
          refine own_Fin.step (fun _ => XS.icmpNo X0.here hx rfl (hb hby d5_19) rfl (XT.ii_eq_f hc19_9)) ?_
          show own_Fin p e below s _ _ _ (s₁.setTop (mkF m 22 #[.val (.ref a1), .val (.int p2), .val (.int (65535 : Int32)), .val (.int i), .unset] []))
          refine own_Fin.step (fun _ => XS.iloadN X0.here hx rfl (hb hby d5_22) rfl) ?_
          show own_Fin p e below s _ _ _ (s₁.setTop (mkF m 23 #[.val (.ref a1), .val (.int p2), .val (.int (65535 : Int32)), .val (.int i), .unset] [(.int i)]))
          refine own_Fin.step (fun _ => XS.iconst X0.here hx rfl (hb hby d5_23)) ?_
          show own_Fin p e below s _ _ _ (s₁.setTop (mkF m 24 #[.val (.ref a1), .val (.int p2), .val (.int (65535 : Int32)), .val (.int i), .unset] [(.int (1 : Int32)), (.int i)]))
          refine own_Fin.step (fun _ => XS.iadd X0.here hx rfl (hb hby d5_24) rfl) ?_
          show own_Fin p e below s _ _ _ (s₁.setTop (mkF m 25 #[.val (.ref a1), .val (.int p2), .val (.int (65535 : Int32)), .val (.int i), .unset] [(.int (i + (1 : Int32)))]))
          refine own_Fin.step (fun _ => XS.iloadN X0.here hx rfl (hb hby d5_25) rfl) ?_
          show own_Fin p e below s _ _ _ (s₁.setTop (mkF m 26 #[.val (.ref a1), .val (.int p2), .val (.int (65535 : Int32)), .val (.int i), .unset] [(.int (65535 : Int32)), (.int (i + (1 : Int32)))]))
          refine own_Fin.step (fun _ => XS.iand X0.here hx rfl (hb hby d5_26) rfl) ?_
          show own_Fin p e below s _ _ _ (s₁.setTop (mkF m 27 #[.val (.ref a1), .val (.int p2), .val (.int (65535 : Int32)), .val (.int i), .unset] [(.int ((i + (1 : Int32)) &&& (65535 : Int32)))]))
          refine own_Fin.step (fun _ => XS.istoreN X0.here hx rfl (hb hby d5_27) rfl (l' := #[.val (.ref a1), .val (.int p2), .val (.int (65535 : Int32)), .val (.int ((i + (1 : Int32)) &&& (65535 : Int32))), .unset]) rfl) ?_
          show own_Fin p e below s _ _ _ (s₁.setTop (mkF m 28 #[.val (.ref a1), .val (.int p2), .val (.int (65535 : Int32)), .val (.int ((i + (1 : Int32)) &&& (65535 : Int32))), .unset] []))
          refine own_Fin.step (fun _ => XS.goto X0.here hx rfl (pc0 := 28) (pc' := 9) rfl (hb hby d5_28) (by decide) (by decide)) ?_
          exact ih _ (own_ring _) (own_turn hi hz hc12_8)
  show own_Fin p e below s _ _ _ (s₁.setTop (mkF m 0 #[.val (.ref a1), .val (.int p2), .unset, .unset, .unset] []))
  refine own_Fin.step (fun _ => XS.aloadN X0.here hx rfl (hb hby d5_0) rfl rfl) ?_
  show own_Fin p e below s _ _ _ (s₁.setTop (mkF m 1 #[.val (.ref a1), .val (.int p2), .unset, .unset, .unset] [(.ref a1)]))
  refine own_Fin.step (own_lenF X0 hx hZ e0 F (g := (mkF m 1 #[.val (.ref a1), .val (.int p2), .unset, .unset, .unset] [(.ref a1)])) rfl rfl (hb hby d5_1)) ?_
  show own_Fin p e below s _ _ _ (s₁.setTop (mkF m 2 #[.val (.ref a1), .val (.int p2), .unset, .unset, .unset] [(.int (65536 : Int32))]))
  refine own_Fin.step (fun _ => XS.iconst X0.here hx rfl (hb hby d5_2)) ?_
  show own_Fin p e below s _ _ _ (s₁.setTop (mkF m 3 #[.val (.ref a1), .val (.int p2), .unset, .unset, .unset] [(.int (1 : Int32)), (.int (65536 : Int32))]))
  refine own_Fin.step (fun _ => XS.isub X0.here hx rfl (hb hby d5_3) rfl) ?_
  show own_Fin p e below s _ _ _ (s₁.setTop (mkF m 4 #[.val (.ref a1), .val (.int p2), .unset, .unset, .unset] [(.int (65535 : Int32))]))
  refine own_Fin.step (fun _ => XS.istoreN X0.here hx rfl (hb hby d5_4) rfl (l' := #[.val (.ref a1), .val (.int p2), .val (.int (65535 : Int32)), .unset, .unset]) rfl) ?_
  show own_Fin p e below s _ _ _ (s₁.setTop (mkF m 5 #[.val (.ref a1), .val (.int p2), .val (.int (65535 : Int32)), .unset, .unset] []))
  refine own_Fin.step (fun _ => XS.iloadN X0.here hx rfl (hb hby d5_5) rfl) ?_
  show own_Fin p e below s _ _ _ (s₁.setTop (mkF m 6 #[.val (.ref a1), .val (.int p2), .val (.int (65535 : Int32)), .unset, .unset] [(.int p2)]))
  refine own_Fin.step (fun _ => XS.iloadN X0.here hx rfl (hb hby d5_6) rfl) ?_
  show own_Fin p e below s _ _ _ (s₁.setTop (mkF m 7 #[.val (.ref a1), .val (.int p2), .val (.int (65535 : Int32)), .unset, .unset] [(.int (65535 : Int32)), (.int p2)]))
  refine own_Fin.step (fun _ => XS.iand X0.here hx rfl (hb hby d5_7) rfl) ?_
  show own_Fin p e below s _ _ _ (s₁.setTop (mkF m 8 #[.val (.ref a1), .val (.int p2), .val (.int (65535 : Int32)), .unset, .unset] [(.int (p2 &&& (65535 : Int32)))]))
  refine own_Fin.step (fun _ => XS.istoreN X0.here hx rfl (hb hby d5_8) rfl (l' := #[.val (.ref a1), .val (.int p2), .val (.int (65535 : Int32)), .val (.int (p2 &&& (65535 : Int32))), .unset]) rfl) ?_
  exact loop fc _ (own_ring p2) (HF _)
theorem d6_0 : decode prog_84_method_2_code 0 = .ok (.iconst 0, 1) := by decide +kernel
theorem d6_1 : decode prog_84_method_2_code 1 = .ok (.istore 4, 2) := by decide +kernel
theorem d6_3 : decode prog_84_method_2_code 3 = .ok (.aload_n 0, 1) := by decide +kernel
theorem d6_4 : decode prog_84_method_2_code 4 = .ok (.getfield 18, 3) := by decide +kernel
theorem d6_7 : decode prog_84_method_2_code 7 = .ok (.aload_n 0, 1) := by decide +kernel
theorem d6_8 : decode prog_84_method_2_code 8 = .ok (.getfield 14, 3) := by decide +kernel
theorem d6_11 : decode prog_84_method_2_code 11 = .ok (.if_icmp .ge 53, 3) := by decide +kernel
theorem d6_14 : decode prog_84_method_2_code 14 = .ok (.iconst 2, 1) := by decide +kernel
theorem d6_15 : decode prog_84_method_2_code 15 = .ok (.aload_n 0, 1) := by decide +kernel
theorem d6_16 : decode prog_84_method_2_code 16 = .ok (.getfield 18, 3) := by decide +kernel
theorem d6_19 : decode prog_84_method_2_code 19 = .ok (.iconst 1, 1) := by decide +kernel
theorem d6_20 : decode prog_84_method_2_code 20 = .ok (.iadd, 1) := by decide +kernel
theorem d6_21 : decode prog_84_method_2_code 21 = .ok (.imul, 1) := by decide +kernel
theorem d6_22 : decode prog_84_method_2_code 22 = .ok (.aload_n 0, 1) := by decide +kernel
theorem d6_23 : decode prog_84_method_2_code 23 = .ok (.getfield 10, 3) := by decide +kernel
theorem d6_26 : decode prog_84_method_2_code 26 = .ok (.arraylength, 1) := by decide +kernel
theorem d6_27 : decode prog_84_method_2_code 27 = .ok (.if_icmp .le 7, 3) := by decide +kernel
theorem d6_30 : decode prog_84_method_2_code 30 = .ok (.aload_n 0, 1) := by decide +kernel
theorem d6_31 : decode prog_84_method_2_code 31 = .ok (.invokevirtual 21, 3) := by decide +kernel
theorem d6_34 : decode prog_84_method_2_code 34 = .ok (.aload_n 0, 1) := by decide +kernel
theorem d6_35 : decode prog_84_method_2_code 35 = .ok (.getfield 10, 3) := by decide +kernel
theorem d6_38 : decode prog_84_method_2_code 38 = .ok (.aload_n 1, 1) := by decide +kernel
theorem d6_39 : decode prog_84_method_2_code 39 = .ok (.iload_n 2, 1) := by decide +kernel
theorem d6_40 : decode prog_84_method_2_code 40 = .ok (.iload_n 3, 1) := by decide +kernel
theorem d6_41 : decode prog_84_method_2_code 41 = .ok (.invokestatic 24, 3) := by decide +kernel
theorem d6_44 : decode prog_84_method_2_code 44 = .ok (.invokestatic 28, 3) := by decide +kernel
theorem d6_47 : decode prog_84_method_2_code 47 = .ok (.istore 4, 2) := by decide +kernel
theorem d6_49 : decode prog_84_method_2_code 49 = .ok (.iload 4, 2) := by decide +kernel
theorem d6_51 : decode prog_84_method_2_code 51 = .ok (.ifCond .eq 13, 3) := by decide +kernel
theorem d6_54 : decode prog_84_method_2_code 54 = .ok (.aload_n 0, 1) := by decide +kernel
theorem d6_55 : decode prog_84_method_2_code 55 = .ok (.dup, 1) := by decide +kernel
theorem d6_56 : decode prog_84_method_2_code 56 = .ok (.getfield 18, 3) := by decide +kernel
theorem d6_59 : decode prog_84_method_2_code 59 = .ok (.iconst 1, 1) := by decide +kernel
theorem d6_60 : decode prog_84_method_2_code 60 = .ok (.iadd, 1) := by decide +kernel
theorem d6_61 : decode prog_84_method_2_code 61 = .ok (.putfield 18, 3) := by decide +kernel
theorem d6_64 : decode prog_84_method_2_code 64 = .ok (.iload 4, 2) := by decide +kernel
theorem d6_66 : decode prog_84_method_2_code 66 = .ok (.ireturn, 1) := by decide +kernel
theorem pn_6 : plainFor (⟨"com/example/meterkeep/meterkeep/store/RecordedIds", "addNew", "([BII)Z"⟩ : MethodName) = true := plainFor_of_name (by first | (simp [plainName, overriddenIn]; done) | decide +kernel)
theorem ef_6 (m : MethodId) (x0 : Addr) (x1 : Addr) (x2 : Int32) (x3 : Int32) : entryFrame m #[(.ref x0), (.ref x1), (.int x2), (.int x3)] 5 = mkF m 0 #[.val (.ref x0), .val (.ref x1), .val (.int x2), .val (.int x3), .unset] [] := by first | (simp [entryFrame, mkF, argsToLocals, Value.category]; done) | rfl
theorem pd_0 : parseMethodDescriptor "([BII)I" = some ⟨[(.array .byte), .int, .int], some .int⟩ := by decide +kernel
theorem pd_1 : parseMethodDescriptor "([II)Z" = some ⟨[(.array .int), .int], some .boolean⟩ := by decide +kernel
set_option maxRecDepth 65536 in
set_option maxHeartbeats 40000000 in
theorem rm6 (l : Launch) (Z : State) (a0 : Array Value) (hw : ∀ d ∈ tables_1, d.before a0 Z = true) (a1 : Addr) (a2 : Addr) (p4 : Int32) (bb : Addr) (kb k2 : ClassId) (mo he n2 : Int32) (f f2 : Nat → Int32) (fc : Nat) (h0 : Heap) (n0 : Nat) (Z0 : n0 ≤ h0.size) (g1 : n0 ≤ a1) (gb : n0 ≤ bb) (nab : a1 ≠ bb) (n2b : a2 ≠ bb) (na2 : a1 ≠ a2) (E1 : Exa Z h0 a1 "com/example/meterkeep/meterkeep/store/RecordedIds") (Fs : Fld Z h0 a1 "com/example/meterkeep/meterkeep/store/RecordedIds" "slots" "[I" (.ref bb)) (Fm : Fld Z h0 a1 "com/example/meterkeep/meterkeep/store/RecordedIds" "most" "I" (.int mo)) (Fh : Fld Z h0 a1 "com/example/meterkeep/meterkeep/store/RecordedIds" "held" "I" (.int he)) (V : own_Arf Z h0 bb kb .int (65536 : Int32) f) (V2 : own_Arf Z h0 a2 k2 .byte n2 f2) (HL : ¬ n2 < p4) (HF : own_few f fc) (HC : fc < 60000) (Hh : ¬ (65536 : Int32) < ((2 : Int32) * (he + (1 : Int32)))) :
    own_Met l Z [] (⟨"com/example/meterkeep/meterkeep/store/RecordedIds", "addNew", "([BII)Z"⟩ : MethodName) prog_84_method_2_code 5 (some .boolean) ({ frames := 1, cells := 0, slots := 0, locals := 18 } : Room) #[(.ref a1), (.ref a2), (.int (0 : Int32)), (.int p4)] h0 (own_QA Z a1 bb kb mo he fc h0 n0) := by
  refine own_enter pn_6 ?_
  intro p e s m below meth c s₁ X0 hx hby hml hown hret hlk hnm hZ e0
  have hml : c.maxLocals = 5 := hml
  have N0 := Fr.nil n0
  rw [ef_6 m a1 a2 (0 : Int32) p4]
  show own_Fin p e below s _ _ _ (s₁.setTop (mkF m 0 #[.val (.ref a1), .val (.ref a2), .val (.int (0 : Int32)), .val (.int p4), .unset] []))
  refine own_Fin.step (fun _ => XS.iconst X0.here hx rfl (hb hby d6_0)) ?_
  show own_Fin p e below s _ _ _ (s₁.setTop (mkF m 1 #[.val (.ref a1), .val (.ref a2), .val (.int (0 : Int32)), .val (.int p4), .unset] [(.int (0 : Int32))]))
  refine own_Fin.step (fun _ => XS.istore X0.here hx rfl (hb hby d6_1) rfl (l' := #[.val (.ref a1), .val (.ref a2), .val (.int (0 : Int32)), .val (.int p4), .val (.int (0 : Int32))]) rfl) ?_
  show own_Fin p e below s _ _ _ (s₁.setTop (mkF m 3 #[.val (.ref a1), .val (.ref a2), .val (.int (0 : Int32)), .val (.int p4), .val (.int (0 : Int32))] []))
  refine own_Fin.step (fun _ => XS.aloadN X0.here hx rfl (hb hby d6_3) rfl rfl) ?_
  show own_Fin p e below s _ _ _ (s₁.setTop (mkF m 4 #[.val (.ref a1), .val (.ref a2), .val (.int (0 : Int32)), .val (.int p4), .val (.int (0 : Int32))] [(.ref a1)]))
  obtain ⟨T1, X1, e1, st1⟩ := getF X0 hx hZ hown (host := "") (Or.inl (own_w hw 21 rfl)) Via.refl e0 Fh (g := (mkF m 4 #[.val (.ref a1), .val (.ref a2), .val (.int (0 : Int32)), .val (.int p4), .val (.int (0 : Int32))] [(.ref a1)])) rfl rfl (hb hby d6_4)
  refine own_Fin.step st1 ?_
  show own_Fin p e below s _ _ _ (T1.setTop (mkF m 7 #[.val (.ref a1), .val (.ref a2), .val (.int (0 : Int32)), .val (.int p4), .val (.int (0 : Int32))] [(.int he)]))
  refine own_Fin.step (fun _ => XS.aloadN X1.here hx rfl (hb hby d6_7) rfl rfl) ?_
  show own_Fin p e below s _ _ _ (T1.setTop (mkF m 8 #[.val (.ref a1), .val (.ref a2), .val (.int (0 : Int32)), .val (.int p4), .val (.int (0 : Int32))] [(.ref a1), (.int he)]))
  obtain ⟨T2, X2, e2, st2⟩ := getF X1 hx hZ hown (host := "") (Or.inl (own_w hw 14 rfl)) Via.refl e1 Fm (g := (mkF m 8 #[.val (.ref a1), .val (.ref a2), .val (.int (0 : Int32)), .val (.int p4), .val (.int (0 : Int32))] [(.ref a1), (.int he)])) rfl rfl (hb hby d6_8)
  refine own_Fin.step st2 ?_
  show own_Fin p e below s _ _ _ (T2.setTop (mkF m 11 #[.val (.ref a1), .val (.ref a2), .val (.int (0 : Int32)), .val (.int p4), .val (.int (0 : Int32))] [(.int mo), (.int he)]))
  by_cases hc11_3 : he < mo
  ·
    refine own_Fin.step (fun _ => XS.icmpNo X2.here hx rfl (hb hby d6_11) rfl (XT.ii_ge_f hc11_3)) ?_
    show own_Fin p e below s _ _ _ (T2.setTop (mkF m 14 #[.val (.ref a1), .val (.ref a2), .val (.int (0 : Int32)), .val (.int p4), .val (.int (0 : Int32))] []))
    refine own_Fin.step (fun _ => XS.iconst X2.here hx rfl (hb hby d6_14)) ?_
    show own_Fin p e below s _ _ _ (T2.setTop (mkF m 15 #[.val (.ref a1), .val (.ref a2), .val (.int (0 : Int32)), .val (.int p4), .val (.int (0 : Int32))] [(.int (2 : Int32))]))
    refine own_Fin.step (fun _ => XS.aloadN X2.here hx rfl (hb hby d6_15) rfl rfl) ?_
    show own_Fin p e below s _ _ _ (T2.setTop (mkF m 16 #[.val (.ref a1), .val (.ref a2), .val (.int (0 : Int32)), .val (.int p4), .val (.int (0 : Int32))] [(.ref a1), (.int (2 : Int32))]))
    obtain ⟨T4, X4, e4, st4⟩ := getF X2 hx hZ hown (host := "") (Or.inl (own_w hw 21 rfl)) Via.refl e2 Fh (g := (mkF m 16 #[.val (.ref a1), .val (.ref a2), .val (.int (0 : Int32)), .val (.int p4), .val (.int (0 : Int32))] [(.ref a1), (.int (2 : Int32))])) rfl rfl (hb hby d6_16)
    refine own_Fin.step st4 ?_
    show own_Fin p e below s _ _ _ (T4.setTop (mkF m 19 #[.val (.ref a1), .val (.ref a2), .val (.int (0 : Int32)), .val (.int p4), .val (.int (0 : Int32))] [(.int he), (.int (2 : Int32))]))
    refine own_Fin.step (fun _ => XS.iconst X4.here hx rfl (hb hby d6_19)) ?_
    show own_Fin p e below s _ _ _ (T4.setTop (mkF m 20 #[.val (.ref a1), .val (.ref a2), .val (.int (0 : Int32)), .val (.int p4), .val (.int (0 : Int32))] [(.int (1 : Int32)), (.int he), (.int (2 : Int32))]))
    refine own_Fin.step (fun _ => XS.iadd X4.here hx rfl (hb hby d6_20) rfl) ?_
    show own_Fin p e below s _ _ _ (T4.setTop (mkF m 21 #[.val (.ref a1), .val (.ref a2), .val (.int (0 : Int32)), .val (.int p4), .val (.int (0 : Int32))] [(.int (he + (1 : Int32))), (.int (2 : Int32))]))
    refine own_Fin.step (fun _ => XS.imul X4.here hx rfl (hb hby d6_21) rfl) ?_
    show own_Fin p e below s _ _ _ (T4.setTop (mkF m 22 #[.val (.ref a1), .val (.ref a2), .val (.int (0 : Int32)), .val (.int p4), .val (.int (0 : Int32))] [(.int ((2 : Int32) * (he + (1 : Int32))))]))
    refine own_Fin.step (fun _ => XS.aloadN X4.here hx rfl (hb hby d6_22) rfl rfl) ?_
    show own_Fin p e below s _ _ _ (T4.setTop (mkF m 23 #[.val (.ref a1), .val (.ref a2), .val (.int (0 : Int32)), .val (.int p4), .val (.int (0 : Int32))] [(.ref a1), (.int ((2 : Int32) * (he + (1 : Int32))))]))
    obtain ⟨T5, X5, e5, st5⟩ := getF X4 hx hZ hown (host := "") (Or.inl (own_w hw 12 rfl)) Via.refl e4 Fs (g := (mkF m 23 #[.val (.ref a1), .val (.ref a2), .val (.int (0 : Int32)), .val (.int p4), .val (.int (0 : Int32))] [(.ref a1), (.int ((2 : Int32) * (he + (1 : Int32))))])) rfl rfl (hb hby d6_23)
    refine own_Fin.step st5 ?_
    show own_Fin p e below s _ _ _ (T5.setTop (mkF m 26 #[.val (.ref a1), .val (.ref a2), .val (.int (0 : Int32)), .val (.int p4), .val (.int (0 : Int32))] [(.ref bb), (.int ((2 : Int32) * (he + (1 : Int32))))]))
    refine own_Fin.step (own_lenF X5 hx hZ e5 V (g := (mkF m 26 #[.val (.ref a1), .val (.ref a2), .val (.int (0 : Int32)), .val (.int p4), .val (.int (0 : Int32))] [(.ref bb), (.int ((2 : Int32) * (he + (1 : Int32))))])) rfl rfl (hb hby d6_26)) ?_
    show own_Fin p e below s _ _ _ (T5.setTop (mkF m 27 #[.val (.ref a1), .val (.ref a2), .val (.int (0 : Int32)), .val (.int p4), .val (.int (0 : Int32))] [(.int (65536 : Int32)), (.int ((2 : Int32) * (he + (1 : Int32))))]))
    refine own_Fin.step (fun _ => XS.icmpYes X5.here hx rfl (pc0 := 27) (pc' := 34) rfl (hb hby d6_27) rfl (XT.ii_le_t Hh) (by decide) (by decide)) ?_
    show own_Fin p e below s _ _ _ (T5.setTop (mkF m 34 #[.val (.ref a1), .val (.ref a2), .val (.int (0 : Int32)), .val (.int p4), .val (.int (0 : Int32))] []))
    refine own_Fin.step (fun _ => XS.aloadN X5.here hx rfl (hb hby d6_34) rfl rfl) ?_
    show own_Fin p e below s _ _ _ (T5.setTop (mkF m 35 #[.val (.ref a1), .val (.ref a2), .val (.int (0 : Int32)), .val (.int p4), .val (.int (0 : Int32))] [(.ref a1)]))
    obtain ⟨T6, X6, e6, st6⟩ := getF X5 hx hZ hown (host := "") (Or.inl (own_w hw 12 rfl)) Via.refl e5 Fs (g := (mkF m 35 #[.val (.ref a1), .val (.ref a2), .val (.int (0 : Int32)), .val (.int p4), .val (.int (0 : Int32))] [(.ref a1)])) rfl rfl (hb hby d6_35)
    refine own_Fin.step st6 ?_
    show own_Fin p e below s _ _ _ (T6.setTop (mkF m 38 #[.val (.ref a1), .val (.ref a2), .val (.int (0 : Int32)), .val (.int p4), .val (.int (0 : Int32))] [(.ref bb)]))
    refine own_Fin.step (fun _ => XS.aloadN X6.here hx rfl (hb hby d6_38) rfl rfl) ?_
    show own_Fin p e below s _ _ _ (T6.setTop (mkF m 39 #[.val (.ref a1), .val (.ref a2), .val (.int (0 : Int32)), .val (.int p4), .val (.int (0 : Int32))] [(.ref a2), (.ref bb)]))
    refine own_Fin.step (fun _ => XS.iloadN X6.here hx rfl (hb hby d6_39) rfl) ?_
    show own_Fin p e below s _ _ _ (T6.setTop (mkF m 40 #[.val (.ref a1), .val (.ref a2), .val (.int (0 : Int32)), .val (.int p4), .val (.int (0 : Int32))] [(.int (0 : Int32)), (.ref a2), (.ref bb)]))
    refine own_Fin.step (fun _ => XS.iloadN X6.here hx rfl (hb hby d6_40) rfl) ?_
    show own_Fin p e below s _ _ _ (T6.setTop (mkF m 41 #[.val (.ref a1), .val (.ref a2), .val (.int (0 : Int32)), .val (.int p4), .val (.int (0 : Int32))] [(.int p4), (.int (0 : Int32)), (.ref a2), (.ref bb)]))
    obtain ⟨_, T7, L7, X7, ⟨z7, rfl, N7q, e7⟩, st7⟩ := own_callS X6 hx hZ hown (own_w hw 32 rfl) (own_w hw 33 rfl) (own_w hw 3 rfl) (own_w hw 34 rfl) (by decide) (rm4 l Z a0 hw a2 p4 k2 n2 f2 h0 n0 Z0 V2 HL) (by decide) (by decide) e6 (W := 1) (g := (mkF m 41 #[.val (.ref a1), .val (.ref a2), .val (.int (0 : Int32)), .val (.int p4), .val (.int (0 : Int32))] [(.int p4), (.int (0 : Int32)), (.ref a2), (.ref bb)])) rfl (by rw [hml]; rfl) (argsL := [(.ref a2), (.int (0 : Int32)), (.int p4)]) (rest := [(.ref bb)]) (lenOf pd_0 rfl) rfl rfl (by show 2 * 0 + _ ≤ _; exact Nat.le_of_eq rfl) (hb hby d6_41) (by decide) (by decide)
    have N7 := Fr.app N0 N7q
    refine own_Fin.step st7 ?_
    show own_Fin p e below s _ _ _ (T7.setTop (mkF m 44 #[.val (.ref a1), .val (.ref a2), .val (.int (0 : Int32)), .val (.int p4), .val (.int (0 : Int32))] [(.int z7), (.ref bb)]))
    obtain ⟨_, T8, L8, X8, ⟨bz8, f8', rfl, N8q, K8, hb8, few8, V8⟩, st8⟩ := own_callS X7 hx hZ hown (own_w hw 38 rfl) (own_w hw 39 rfl) (own_w hw 3 rfl) (own_w hw 40 rfl) (by decide) (rm5 l Z a0 hw bb z7 kb f fc h0 n0 Z0 gb V HF HC) (by decide) (by decide) e7 (W := 0) (g := (mkF m 44 #[.val (.ref a1), .val (.ref a2), .val (.int (0 : Int32)), .val (.int p4), .val (.int (0 : Int32))] [(.int z7), (.ref bb)])) rfl (by rw [hml]; rfl) (argsL := [(.ref bb), (.int z7)]) (rest := []) (lenOf pd_1 rfl) rfl rfl (by show 2 * 0 + _ ≤ _; exact Nat.le_of_eq rfl) (hb hby d6_44) (by decide) (by decide)
    have N8 := Fr.app N7 N8q
    have f9 := E1.keep K8
    have f10 := Fs.keep K8 (ninS nab nin0)
    have f11 := Fm.keep K8 (ninS nab nin0)
    have f12 := Fh.keep K8 (ninS nab nin0)
    have f14 := V2.keep K8 (ninS n2b nin0)
    have Z8 : n0 ≤ T8.heap.size := Nat.le_trans Z0 K8.1
    have KK8 : Keep h0 T8.heap [a1, bb] := (Keep.refl h0 [a1, bb]).trans K8 (allS (Or.inl (List.mem_of_getElem? (i := 1) rfl)) all0)
    refine own_Fin.step st8 ?_
    show own_Fin p e below s _ _ _ (T8.setTop (mkF m 47 #[.val (.ref a1), .val (.ref a2), .val (.int (0 : Int32)), .val (.int p4), .val (.int (0 : Int32))] [(.int bz8)]))
    rcases hb8 with rfl | rfl
    ·
      show own_Fin p e below s _ _ _ (T8.setTop (mkF m 47 #[.val (.ref a1), .val (.ref a2), .val (.int (0 : Int32)), .val (.int p4), .val (.int (0 : Int32))] [(.int (0 : Int32))]))
      refine own_Fin.step (fun _ => XS.istore X8.here hx rfl (hb hby d6_47) rfl (l' := #[.val (.ref a1), .val (.ref a2), .val (.int (0 : Int32)), .val (.int p4), .val (.int (0 : Int32))]) rfl) ?_
      show own_Fin p e below s _ _ _ (T8.setTop (mkF m 49 #[.val (.ref a1), .val (.ref a2), .val (.int (0 : Int32)), .val (.int p4), .val (.int (0 : Int32))] []))
      refine own_Fin.step (fun _ => XS.iload X8.here hx rfl (hb hby d6_49) rfl) ?_
      show own_Fin p e below s _ _ _ (T8.setTop (mkF m 51 #[.val (.ref a1), .val (.ref a2), .val (.int (0 : Int32)), .val (.int p4), .val (.int (0 : Int32))] [(.int (0 : Int32))]))
      refine own_Fin.step (fun _ => XS.ifYes X8.here hx rfl (pc0 := 51) (pc' := 64) rfl (hb hby d6_51) rfl (XT.i0_eq_t (by decide : (0 : Int32) = (0 : Int32))) (by decide) (by decide)) ?_
      show own_Fin p e below s _ _ _ (T8.setTop (mkF m 64 #[.val (.ref a1), .val (.ref a2), .val (.int (0 : Int32)), .val (.int p4), .val (.int (0 : Int32))] []))
      refine own_Fin.step (fun _ => XS.iload X8.here hx rfl (hb hby d6_64) rfl) ?_
      show own_Fin p e below s _ _ _ (T8.setTop (mkF m 66 #[.val (.ref a1), .val (.ref a2), .val (.int (0 : Int32)), .val (.int p4), .val (.int (0 : Int32))] [(.int (0 : Int32))]))
      exact own_retN X8 hx hlk (t := .boolean) hret (by simp) (hb hby d6_66) (by skip; exact ⟨_, _, rfl, N8, KK8, (Or.inl rfl), f9, f10, f11, (own_add0 f12), V8, few8⟩) (by decide) (by decide)
    ·
      show own_Fin p e below s _ _ _ (T8.setTop (mkF m 47 #[.val (.ref a1), .val (.ref a2), .val (.int (0 : Int32)), .val (.int p4), .val (.int (0 : Int32))] [(.int (1 : Int32))]))
      refine own_Fin.step (fun _ => XS.istore X8.here hx rfl (hb hby d6_47) rfl (l' := #[.val (.ref a1), .val (.ref a2), .val (.int (0 : Int32)), .val (.int p4), .val (.int (1 : Int32))]) rfl) ?_
      show own_Fin p e below s _ _ _ (T8.setTop (mkF m 49 #[.val (.ref a1), .val (.ref a2), .val (.int (0 : Int32)), .val (.int p4), .val (.int (1 : Int32))] []))
      refine own_Fin.step (fun _ => XS.iload X8.here hx rfl (hb hby d6_49) rfl) ?_
      show own_Fin p e below s _ _ _ (T8.setTop (mkF m 51 #[.val (.ref a1), .val (.ref a2), .val (.int (0 : Int32)), .val (.int p4), .val (.int (1 : Int32))] [(.int (1 : Int32))]))
      refine own_Fin.step (fun _ => XS.ifNo X8.here hx rfl (hb hby d6_51) rfl (XT.i0_eq_f (by decide : ¬ ((1 : Int32) = (0 : Int32))))) ?_
      show own_Fin p e below s _ _ _ (T8.setTop (mkF m 54 #[.val (.ref a1), .val (.ref a2), .val (.int (0 : Int32)), .val (.int p4), .val (.int (1 : Int32))] []))
      refine own_Fin.step (fun _ => XS.aloadN X8.here hx rfl (hb hby d6_54) rfl rfl) ?_
      show own_Fin p e below s _ _ _ (T8.setTop (mkF m 55 #[.val (.ref a1), .val (.ref a2), .val (.int (0 : Int32)), .val (.int p4), .val (.int (1 : Int32))] [(.ref a1)]))
      refine own_Fin.step (fun _ => XS.dup X8.here hx rfl (hb hby d6_55) rfl rfl) ?_
      show own_Fin p e below s _ _ _ (T8.setTop (mkF m 56 #[.val (.ref a1), .val (.ref a2), .val (.int (0 : Int32)), .val (.int p4), .val (.int (1 : Int32))] [(.ref a1), (.ref a1)]))
      obtain ⟨T15, X15, e15, st15⟩ := getF X8 hx hZ hown (host := "") (Or.inl (own_w hw 21 rfl)) Via.refl rfl f12 (g := (mkF m 56 #[.val (.ref a1), .val (.ref a2), .val (.int (0 : Int32)), .val (.int p4), .val (.int (1 : Int32))] [(.ref a1), (.ref a1)])) rfl rfl (hb hby d6_56)
      refine own_Fin.step st15 ?_
      show own_Fin p e below s _ _ _ (T15.setTop (mkF m 59 #[.val (.ref a1), .val (.ref a2), .val (.int (0 : Int32)), .val (.int p4), .val (.int (1 : Int32))] [(.int he), (.ref a1)]))
      refine own_Fin.step (fun _ => XS.iconst X15.here hx rfl (hb hby d6_59)) ?_
      show own_Fin p e below s _ _ _ (T15.setTop (mkF m 60 #[.val (.ref a1), .val (.ref a2), .val (.int (0 : Int32)), .val (.int p4), .val (.int (1 : Int32))] [(.int (1 : Int32)), (.int he), (.ref a1)]))
      refine own_Fin.step (fun _ => XS.iadd X15.here hx rfl (hb hby d6_60) rfl) ?_
      show own_Fin p e below s _ _ _ (T15.setTop (mkF m 61 #[.val (.ref a1), .val (.ref a2), .val (.int (0 : Int32)), .val (.int p4), .val (.int (1 : Int32))] [(.int (he + (1 : Int32))), (.ref a1)]))
      obtain ⟨T16, h16, X16, e16, W16, st16⟩ := putF X15 hx hZ hown (host := "") (Or.inl (own_w hw 21 rfl)) Via.refl e15 f12 f9 (Or.inl (own_w hw 22 rfl)) (own_w hw 2 rfl) (ty := .int) (by decide) rfl rfl (g := (mkF m 61 #[.val (.ref a1), .val (.ref a2), .val (.int (0 : Int32)), .val (.int p4), .val (.int (1 : Int32))] [(.int (he + (1 : Int32))), (.ref a1)])) rfl rfl (hb hby d6_61)
      have Fw16 := f12.same W16
      have f17 := f9.wr W16
      have f18 := f10.other W16 (Or.inr (slot_ne (Or.inl (own_w hw 13 rfl)) (Or.inl (own_w hw 22 rfl)) (by decide) (t := (.array .int)) (t' := .int) (by decide) (by decide)))
      have f19 := f11.other W16 (Or.inr (slot_ne (Or.inr (own_w hw 15 rfl)) (Or.inl (own_w hw 22 rfl)) (by decide) (t := .int) (t' := .int) (by decide) (by decide)))
      have f21 := f14.other W16 (Ne.symm na2)
      have f22 := V8.other W16 (Ne.symm nab)
      have N16 := Fr.snoc X16 N8 g1
      have Z16 : n0 ≤ h16.size := Nat.le_trans Z8 (Nat.le_of_eq W16.size.symm)
      have K23 : Keep h0 h16 [a1, bb] := KK8.wr W16 (Or.inl (List.mem_of_getElem? (i := 0) rfl))
      refine own_Fin.step st16 ?_
      show own_Fin p e below s _ _ _ (T16.setTop (mkF m 64 #[.val (.ref a1), .val (.ref a2), .val (.int (0 : Int32)), .val (.int p4), .val (.int (1 : Int32))] []))
      refine own_Fin.step (fun _ => XS.iload X16.here hx rfl (hb hby d6_64) rfl) ?_
      show own_Fin p e below s _ _ _ (T16.setTop (mkF m 66 #[.val (.ref a1), .val (.ref a2), .val (.int (0 : Int32)), .val (.int p4), .val (.int (1 : Int32))] [(.int (1 : Int32))]))
      exact own_retN X16 hx hlk (t := .boolean) hret (by simp) (hb hby d6_66) (by rw [e16]; exact ⟨_, _, rfl, N16, K23, (Or.inr ⟨rfl, hc11_3⟩), f17, f18, f19, Fw16, f22, few8⟩) (by decide) (by decide)
  ·
    refine own_Fin.step (fun _ => XS.icmpYes X2.here hx rfl (pc0 := 11) (pc' := 64) rfl (hb hby d6_11) rfl (XT.ii_ge_t hc11_3) (by decide) (by decide)) ?_
    show own_Fin p e below s _ _ _ (T2.setTop (mkF m 64 #[.val (.ref a1), .val (.ref a2), .val (.int (0 : Int32)), .val (.int p4), .val (.int (0 : Int32))] []))
    refine own_Fin.step (fun _ => XS.iload X2.here hx rfl (hb hby d6_64) rfl) ?_
    show own_Fin p e below s _ _ _ (T2.setTop (mkF m 66 #[.val (.ref a1), .val (.ref a2), .val (.int (0 : Int32)), .val (.int p4), .val (.int (0 : Int32))] [(.int (0 : Int32))]))
    exact own_retN X2 hx hlk (t := .boolean) hret (by simp) (hb hby d6_66) (by rw [e2]; exact ⟨_, _, rfl, N0, (Keep.refl h0 [a1, bb]), (Or.inl rfl), E1, Fs, Fm, (own_add0 Fh), V, (HF.mono (by omega))⟩) (by decide) (by decide)
theorem pn_0 : plainFor (⟨"com/example/meterkeep/meterkeep/store/RecordedIdsFullPinLaw", "law", "(IIIIII)Z"⟩ : MethodName) = true := plainFor_of_name (by first | (simp [plainName, overriddenIn]; done) | decide +kernel)
theorem ef_0 (m : MethodId) (x0 : Int32) (x1 : Int32) (x2 : Int32) (x3 : Int32) (x4 : Int32) (x5 : Int32) : entryFrame m #[(.int x0), (.int x1), (.int x2), (.int x3), (.int x4), (.int x5)] maxLocals = mkF m 0 #[.val (.int x0), .val (.int x1), .val (.int x2), .val (.int x3), .val (.int x4), .val (.int x5), .unset, .unset, .unset, .unset, .unset, .unset, .unset, .unset, .unset, .unset] [] := by first | (simp [entryFrame, mkF, argsToLocals, Value.category, maxLocals]; done) | rfl
theorem pd_2 : parseMethodDescriptor "(I)V" = some ⟨[.int], none⟩ := by decide +kernel
theorem pd_3 : parseMethodDescriptor "(II)I" = some ⟨[.int, .int], some .int⟩ := by decide +kernel
theorem pd_4 : parseMethodDescriptor "([BII)Z" = some ⟨[(.array .byte), .int, .int], some .boolean⟩ := by decide +kernel
theorem pd_5 : parseMethodDescriptor "()Z" = some ⟨[], some .boolean⟩ := by decide +kernel
set_option maxRecDepth 65536 in
set_option maxHeartbeats 40000000 in
theorem rm0 (l : Launch) (Z : State) (a0 : Array Value) (hw : ∀ d ∈ tables_1, d.before a0 Z = true) (p1 : Int32) (p2 : Int32) (p3 : Int32) (p4 : Int32) (p5 : Int32) (p6 : Int32)  (h0 : Heap) (n0 : Nat) (Z0 : n0 ≤ h0.size)  :
    own_Met l Z tables_1 x code maxLocals ret room_1 #[(.int p1), (.int p2), (.int p3), (.int p4), (.int p5), (.int p6)] h0 (own_Q0 n0) := by
  refine own_enter pn_0 ?_
  intro p e s m below meth c s₁ X0 hx hby hml hown hret hlk hnm hZ e0
  have hml : c.maxLocals = 16 := hml
  have N0 := Fr.nil n0
  rw [ef_0 m p1 p2 p3 p4 p5 p6]
  show own_Fin p e below s _ _ _ (s₁.setTop (mkF m 0 #[.val (.int p1), .val (.int p2), .val (.int p3), .val (.int p4), .val (.int p5), .val (.int p6), .unset, .unset, .unset, .unset, .unset, .unset, .unset, .unset, .unset, .unset] []))
  refine own_Fin.step (fun _ => XS.iloadN X0.here hx rfl (hb hby at_0) rfl) ?_
  show own_Fin p e below s _ _ _ (s₁.setTop (mkF m 1 #[.val (.int p1), .val (.int p2), .val (.int p3), .val (.int p4), .val (.int p5), .val (.int p6), .unset, .unset, .unset, .unset, .unset, .unset, .unset, .unset, .unset, .unset] [(.int p2)]))
  refine own_Fin.step (fun _ => XS.iconst X0.here hx rfl (hb hby at_1)) ?_
  show own_Fin p e below s _ _ _ (s₁.setTop (mkF m 2 #[.val (.int p1), .val (.int p2), .val (.int p3), .val (.int p4), .val (.int p5), .val (.int p6), .unset, .unset, .unset, .unset, .unset, .unset, .unset, .unset, .unset, .unset] [(.int (1 : Int32)), (.int p2)]))
  refine own_Fin.step (fun _ => XS.iand X0.here hx rfl (hb hby at_2) rfl) ?_
  show own_Fin p e below s _ _ _ (s₁.setTop (mkF m 3 #[.val (.int p1), .val (.int p2), .val (.int p3), .val (.int p4), .val (.int p5), .val (.int p6), .unset, .unset, .unset, .unset, .unset, .unset, .unset, .unset, .unset, .unset] [(.int (p2 &&& (1 : Int32)))]))
  have st2 : ∀ t, Steps p.tables e below (s₁.setTop (mkF m 16 #[.val (.int p1), .val (.int p2), .val (.int p3), .val (.int p4), .val (.int p5), .val (.int p6), .unset, .unset, .unset, .unset, .unset, .unset, .unset, .unset, .unset, .unset] [(.int (if (p2 &&& (1 : Int32)) = (0 : Int32) then ((p1 &&& (7 : Int32)) - (3 : Int32)) else p1))])) t → Steps p.tables e below (s₁.setTop (mkF m 3 #[.val (.int p1), .val (.int p2), .val (.int p3), .val (.int p4), .val (.int p5), .val (.int p6), .unset, .unset, .unset, .unset, .unset, .unset, .unset, .unset, .unset, .unset] [(.int (p2 &&& (1 : Int32)))])) t := by
    intro t kt
    by_cases hc3_1 : (p2 &&& (1 : Int32)) = (0 : Int32)
    · simp only [if_pos hc3_1] at kt
      refine XS.ifYes X0.here hx rfl (pc0 := 3) (pc' := 10) rfl (hb hby at_3) rfl (XT.i0_eq_t hc3_1) (by decide) (by decide) ?_
      show Steps p.tables e below (s₁.setTop (mkF m 10 #[.val (.int p1), .val (.int p2), .val (.int p3), .val (.int p4), .val (.int p5), .val (.int p6), .unset, .unset, .unset, .unset, .unset, .unset, .unset, .unset, .unset, .unset] [])) _
      refine XS.iloadN X0.here hx rfl (hb hby at_10) rfl ?_
      show Steps p.tables e below (s₁.setTop (mkF m 11 #[.val (.int p1), .val (.int p2), .val (.int p3), .val (.int p4), .val (.int p5), .val (.int p6), .unset, .unset, .unset, .unset, .unset, .unset, .unset, .unset, .unset, .unset] [(.int p1)])) _
      refine XS.bipush X0.here hx rfl (hb hby at_11) ?_
      show Steps p.tables e below (s₁.setTop (mkF m 13 #[.val (.int p1), .val (.int p2), .val (.int p3), .val (.int p4), .val (.int p5), .val (.int p6), .unset, .unset, .unset, .unset, .unset, .unset, .unset, .unset, .unset, .unset] [(.int (7 : Int32)), (.int p1)])) _
      refine XS.iand X0.here hx rfl (hb hby at_13) rfl ?_
      show Steps p.tables e below (s₁.setTop (mkF m 14 #[.val (.int p1), .val (.int p2), .val (.int p3), .val (.int p4), .val (.int p5), .val (.int p6), .unset, .unset, .unset, .unset, .unset, .unset, .unset, .unset, .unset, .unset] [(.int (p1 &&& (7 : Int32)))])) _
      refine XS.iconst X0.here hx rfl (hb hby at_14) ?_
      show Steps p.tables e below (s₁.setTop (mkF m 15 #[.val (.int p1), .val (.int p2), .val (.int p3), .val (.int p4), .val (.int p5), .val (.int p6), .unset, .unset, .unset, .unset, .unset, .unset, .unset, .unset, .unset, .unset] [(.int (3 : Int32)), (.int (p1 &&& (7 : Int32)))])) _
      refine XS.isub X0.here hx rfl (hb hby at_15) rfl ?_
      exact kt
    · simp only [if_neg hc3_1] at kt
      refine XS.ifNo X0.here hx rfl (hb hby at_3) rfl (XT.i0_eq_f hc3_1) ?_
      show Steps p.tables e below (s₁.setTop (mkF m 6 #[.val (.int p1), .val (.int p2), .val (.int p3), .val (.int p4), .val (.int p5), .val (.int p6), .unset, .unset, .unset, .unset, .unset, .unset, .unset, .unset, .unset, .unset] [])) _
      refine XS.iloadN X0.here hx rfl (hb hby at_6) rfl ?_
      show Steps p.tables e below (s₁.setTop (mkF m 7 #[.val (.int p1), .val (.int p2), .val (.int p3), .val (.int p4), .val (.int p5), .val (.int p6), .unset, .unset, .unset, .unset, .unset, .unset, .unset, .unset, .unset, .unset] [(.int p1)])) _
      refine XS.goto X0.here hx rfl (pc0 := 7) (pc' := 16) rfl (hb hby at_7) (by decide) (by decide) ?_
      exact kt
  refine own_Fin.step st2 ?_
  show own_Fin p e below s _ _ _ (s₁.setTop (mkF m 16 #[.val (.int p1), .val (.int p2), .val (.int p3), .val (.int p4), .val (.int p5), .val (.int p6), .unset, .unset, .unset, .unset, .unset, .unset, .unset, .unset, .unset, .unset] [(.int (if (p2 &&& (1 : Int32)) = (0 : Int32) then ((p1 &&& (7 : Int32)) - (3 : Int32)) else p1))]))
  generalize hmo : (if (p2 &&& (1 : Int32)) = (0 : Int32) then ((p1 &&& (7 : Int32)) - (3 : Int32)) else p1) = mo
  refine own_Fin.step (fun _ => XS.istore X0.here hx rfl (hb hby at_16) rfl (l' := #[.val (.int p1), .val (.int p2), .val (.int p3), .val (.int p4), .val (.int p5), .val (.int p6), .val (.int mo), .unset, .unset, .unset, .unset, .unset, .unset, .unset, .unset, .unset]) rfl) ?_
  show own_Fin p e below s _ _ _ (s₁.setTop (mkF m 18 #[.val (.int p1), .val (.int p2), .val (.int p3), .val (.int p4), .val (.int p5), .val (.int p6), .val (.int mo), .unset, .unset, .unset, .unset, .unset, .unset, .unset, .unset, .unset] []))
  refine own_Fin.step (fun _ => XS.iconst X0.here hx rfl (hb hby at_18)) ?_
  show own_Fin p e below s _ _ _ (s₁.setTop (mkF m 19 #[.val (.int p1), .val (.int p2), .val (.int p3), .val (.int p4), .val (.int p5), .val (.int p6), .val (.int mo), .unset, .unset, .unset, .unset, .unset, .unset, .unset, .unset, .unset] [(.int (1 : Int32))]))
  obtain ⟨T3, h3, k3, b3, X3, e3, E3, g3, V3, st3⟩ := own_newA X0 hx hZ (own_w hw 0 rfl) e0 (ty := .byte) (dv := (.int (0 : Int32))) rfl rfl (g := (mkF m 19 #[.val (.int p1), .val (.int p2), .val (.int p3), .val (.int p4), .val (.int p5), .val (.int p6), .val (.int mo), .unset, .unset, .unset, .unset, .unset, .unset, .unset, .unset, .unset] [(.int (1 : Int32))])) rfl (hb hby at_19) rfl (by decide) (cap := 1) (by decide) (by decide) (by decide) (by decide) (1)
  have ge4 : n0 ≤ b3 := Nat.le_trans Z0 (Nat.le_of_eq g3.symm)
  have Z3 : n0 ≤ h3.size := Nat.le_trans Z0 E3.1
  have V3' : Arv Z h3 b3 k3 .byte (1 : Int32) [(.int (0 : Int32))] (.int (0 : Int32)) := V3
  refine own_Fin.step st3 ?_
  show own_Fin p e below s _ _ _ (T3.setTop (mkF m 21 #[.val (.int p1), .val (.int p2), .val (.int p3), .val (.int p4), .val (.int p5), .val (.int p6), .val (.int mo), .unset, .unset, .unset, .unset, .unset, .unset, .unset, .unset, .unset] [(.ref b3)]))
  refine own_Fin.step (fun _ => XS.dup X3.here hx rfl (hb hby at_21) rfl rfl) ?_
  show own_Fin p e below s _ _ _ (T3.setTop (mkF m 22 #[.val (.int p1), .val (.int p2), .val (.int p3), .val (.int p4), .val (.int p5), .val (.int p6), .val (.int mo), .unset, .unset, .unset, .unset, .unset, .unset, .unset, .unset, .unset] [(.ref b3), (.ref b3)]))
  refine own_Fin.step (fun _ => XS.iconst X3.here hx rfl (hb hby at_22)) ?_
  show own_Fin p e below s _ _ _ (T3.setTop (mkF m 23 #[.val (.int p1), .val (.int p2), .val (.int p3), .val (.int p4), .val (.int p5), .val (.int p6), .val (.int mo), .unset, .unset, .unset, .unset, .unset, .unset, .unset, .unset, .unset] [(.int (0 : Int32)), (.ref b3), (.ref b3)]))
  refine own_Fin.step (fun _ => XS.iloadN X3.here hx rfl (hb hby at_23) rfl) ?_
  show own_Fin p e below s _ _ _ (T3.setTop (mkF m 24 #[.val (.int p1), .val (.int p2), .val (.int p3), .val (.int p4), .val (.int p5), .val (.int p6), .val (.int mo), .unset, .unset, .unset, .unset, .unset, .unset, .unset, .unset, .unset] [(.int p3), (.int (0 : Int32)), (.ref b3), (.ref b3)]))
  refine own_Fin.step (fun _ => XS.i2b X3.here hx rfl (hb hby at_24) rfl) ?_
  show own_Fin p e below s _ _ _ (T3.setTop (mkF m 25 #[.val (.int p1), .val (.int p2), .val (.int p3), .val (.int p4), .val (.int p5), .val (.int p6), .val (.int mo), .unset, .unset, .unset, .unset, .unset, .unset, .unset, .unset, .unset] [(.int (p3.toInt8.toInt32)), (.int (0 : Int32)), (.ref b3), (.ref b3)]))
  obtain ⟨T5, h5, X5, e5, V5, W5, st5⟩ := own_stBn X3 hx hZ e3 V3' (j := (0 : Int32)) ⟨by decide, by decide⟩ (0) rfl (Nat.le_of_ble_eq_true rfl) (g := (mkF m 25 #[.val (.int p1), .val (.int p2), .val (.int p3), .val (.int p4), .val (.int p5), .val (.int p6), .val (.int mo), .unset, .unset, .unset, .unset, .unset, .unset, .unset, .unset, .unset] [(.int (p3.toInt8.toInt32)), (.int (0 : Int32)), (.ref b3), (.ref b3)])) rfl rfl (hb hby at_25)
  have V5' : Arv Z h5 b3 k3 .byte (1 : Int32) [(.int (p3.toInt8.toInt32))] (.int (0 : Int32)) := V5
  have N5 := Fr.snoc X5 N0 ge4
  have Z5 : n0 ≤ h5.size := Nat.le_trans Z3 (Nat.le_of_eq W5.size.symm)
  refine own_Fin.step st5 ?_
  show own_Fin p e below s _ _ _ (T5.setTop (mkF m 26 #[.val (.int p1), .val (.int p2), .val (.int p3), .val (.int p4), .val (.int p5), .val (.int p6), .val (.int mo), .unset, .unset, .unset, .unset, .unset, .unset, .unset, .unset, .unset] [(.ref b3)]))
  refine own_Fin.step (fun _ => XS.astore X5.here hx rfl (hb hby at_26) rfl rfl (l' := #[.val (.int p1), .val (.int p2), .val (.int p3), .val (.int p4), .val (.int p5), .val (.int p6), .val (.int mo), .val (.ref b3), .unset, .unset, .unset, .unset, .unset, .unset, .unset, .unset]) rfl) ?_
  show own_Fin p e below s _ _ _ (T5.setTop (mkF m 28 #[.val (.int p1), .val (.int p2), .val (.int p3), .val (.int p4), .val (.int p5), .val (.int p6), .val (.int mo), .val (.ref b3), .unset, .unset, .unset, .unset, .unset, .unset, .unset, .unset] []))
  refine own_Fin.step (fun _ => XS.iconst X5.here hx rfl (hb hby at_28)) ?_
  show own_Fin p e below s _ _ _ (T5.setTop (mkF m 29 #[.val (.int p1), .val (.int p2), .val (.int p3), .val (.int p4), .val (.int p5), .val (.int p6), .val (.int mo), .val (.ref b3), .unset, .unset, .unset, .unset, .unset, .unset, .unset, .unset] [(.int (2 : Int32))]))
  obtain ⟨T7, h7, k7, b7, X7, e7, E7, g7, V7, st7⟩ := own_newA X5 hx hZ (own_w hw 0 rfl) e5 (ty := .byte) (dv := (.int (0 : Int32))) rfl rfl (g := (mkF m 29 #[.val (.int p1), .val (.int p2), .val (.int p3), .val (.int p4), .val (.int p5), .val (.int p6), .val (.int mo), .val (.ref b3), .unset, .unset, .unset, .unset, .unset, .unset, .unset, .unset] [(.int (2 : Int32))])) rfl (hb hby at_29) rfl (by decide) (cap := 2) (by decide) (by decide) (by decide) (by decide) (2)
  have ne8 : b3 ≠ b7 := Nat.ne_of_lt (Nat.lt_of_lt_of_eq V5'.lt g7.symm)
  have ge9 : n0 ≤ b7 := Nat.le_trans Z5 (Nat.le_of_eq g7.symm)
  have f10 := V5'.ext E7
  have Z7 : n0 ≤ h7.size := Nat.le_trans Z5 E7.1
  have V7' : Arv Z h7 b7 k7 .byte (2 : Int32) [(.int (0 : Int32)), (.int (0 : Int32))] (.int (0 : Int32)) := V7
  refine own_Fin.step st7 ?_
  show own_Fin p e below s _ _ _ (T7.setTop (mkF m 31 #[.val (.int p1), .val (.int p2), .val (.int p3), .val (.int p4), .val (.int p5), .val (.int p6), .val (.int mo), .val (.ref b3), .unset, .unset, .unset, .unset, .unset, .unset, .unset, .unset] [(.ref b7)]))
  refine own_Fin.step (fun _ => XS.dup X7.here hx rfl (hb hby at_31) rfl rfl) ?_
  show own_Fin p e below s _ _ _ (T7.setTop (mkF m 32 #[.val (.int p1), .val (.int p2), .val (.int p3), .val (.int p4), .val (.int p5), .val (.int p6), .val (.int mo), .val (.ref b3), .unset, .unset, .unset, .unset, .unset, .unset, .unset, .unset] [(.ref b7), (.ref b7)]))
  refine own_Fin.step (fun _ => XS.iconst X7.here hx rfl (hb hby at_32)) ?_
  show own_Fin p e below s _ _ _ (T7.setTop (mkF m 33 #[.val (.int p1), .val (.int p2), .val (.int p3), .val (.int p4), .val (.int p5), .val (.int p6), .val (.int mo), .val (.ref b3), .unset, .unset, .unset, .unset, .unset, .unset, .unset, .unset] [(.int (0 : Int32)), (.ref b7), (.ref b7)]))
  refine own_Fin.step (fun _ => XS.iloadN X7.here hx rfl (hb hby at_33) rfl) ?_
  show own_Fin p e below s _ _ _ (T7.setTop (mkF m 34 #[.val (.int p1), .val (.int p2), .val (.int p3), .val (.int p4), .val (.int p5), .val (.int p6), .val (.int mo), .val (.ref b3), .unset, .unset, .unset, .unset, .unset, .unset, .unset, .unset] [(.int p4), (.int (0 : Int32)), (.ref b7), (.ref b7)]))
  refine own_Fin.step (fun _ => XS.i2b X7.here hx rfl (hb hby at_34) rfl) ?_
  show own_Fin p e below s _ _ _ (T7.setTop (mkF m 35 #[.val (.int p1), .val (.int p2), .val (.int p3), .val (.int p4), .val (.int p5), .val (.int p6), .val (.int mo), .val (.ref b3), .unset, .unset, .unset, .unset, .unset, .unset, .unset, .unset] [(.int (p4.toInt8.toInt32)), (.int (0 : Int32)), (.ref b7), (.ref b7)]))
  obtain ⟨T11, h11, X11, e11, V11, W11, st11⟩ := own_stBn X7 hx hZ e7 V7' (j := (0 : Int32)) ⟨by decide, by decide⟩ (0) rfl (Nat.le_of_ble_eq_true rfl) (g := (mkF m 35 #[.val (.int p1), .val (.int p2), .val (.int p3), .val (.int p4), .val (.int p5), .val (.int p6), .val (.int mo), .val (.ref b3), .unset, .unset, .unset, .unset, .unset, .unset, .unset, .unset] [(.int (p4.toInt8.toInt32)), (.int (0 : Int32)), (.ref b7), (.ref b7)])) rfl rfl (hb hby at_35)
  have V11' : Arv Z h11 b7 k7 .byte (2 : Int32) [(.int (p4.toInt8.toInt32)), (.int (0 : Int32))] (.int (0 : Int32)) := V11
  have f12 := f10.other W11 ne8
  have N11 := Fr.snoc X11 N5 ge9
  have Z11 : n0 ≤ h11.size := Nat.le_trans Z7 (Nat.le_of_eq W11.size.symm)
  refine own_Fin.step st11 ?_
  show own_Fin p e below s _ _ _ (T11.setTop (mkF m 36 #[.val (.int p1), .val (.int p2), .val (.int p3), .val (.int p4), .val (.int p5), .val (.int p6), .val (.int mo), .val (.ref b3), .unset, .unset, .unset, .unset, .unset, .unset, .unset, .unset] [(.ref b7)]))
  refine own_Fin.step (fun _ => XS.dup X11.here hx rfl (hb hby at_36) rfl rfl) ?_
  show own_Fin p e below s _ _ _ (T11.setTop (mkF m 37 #[.val (.int p1), .val (.int p2), .val (.int p3), .val (.int p4), .val (.int p5), .val (.int p6), .val (.int mo), .val (.ref b3), .unset, .unset, .unset, .unset, .unset, .unset, .unset, .unset] [(.ref b7), (.ref b7)]))
  refine own_Fin.step (fun _ => XS.iconst X11.here hx rfl (hb hby at_37)) ?_
  show own_Fin p e below s _ _ _ (T11.setTop (mkF m 38 #[.val (.int p1), .val (.int p2), .val (.int p3), .val (.int p4), .val (.int p5), .val (.int p6), .val (.int mo), .val (.ref b3), .unset, .unset, .unset, .unset, .unset, .unset, .unset, .unset] [(.int (1 : Int32)), (.ref b7), (.ref b7)]))
  refine own_Fin.step (fun _ => XS.iloadN X11.here hx rfl (hb hby at_38) rfl) ?_
  show own_Fin p e below s _ _ _ (T11.setTop (mkF m 39 #[.val (.int p1), .val (.int p2), .val (.int p3), .val (.int p4), .val (.int p5), .val (.int p6), .val (.int mo), .val (.ref b3), .unset, .unset, .unset, .unset, .unset, .unset, .unset, .unset] [(.int p4), (.int (1 : Int32)), (.ref b7), (.ref b7)]))
  refine own_Fin.step (fun _ => XS.bipush X11.here hx rfl (hb hby at_39)) ?_
  show own_Fin p e below s _ _ _ (T11.setTop (mkF m 41 #[.val (.int p1), .val (.int p2), .val (.int p3), .val (.int p4), .val (.int p5), .val (.int p6), .val (.int mo), .val (.ref b3), .unset, .unset, .unset, .unset, .unset, .unset, .unset, .unset] [(.int (8 : Int32)), (.int p4), (.int (1 : Int32)), (.ref b7), (.ref b7)]))
  refine own_Fin.step (fun _ => XS.iushr X11.here hx rfl (hb hby at_41) rfl) ?_
  show own_Fin p e below s _ _ _ (T11.setTop (mkF m 42 #[.val (.int p1), .val (.int p2), .val (.int p3), .val (.int p4), .val (.int p5), .val (.int p6), .val (.int mo), .val (.ref b3), .unset, .unset, .unset, .unset, .unset, .unset, .unset, .unset] [(.int ((p4.toUInt32 >>> ((8 : Int32) &&& 31).toUInt32).toInt32)), (.int (1 : Int32)), (.ref b7), (.ref b7)]))
  refine own_Fin.step (fun _ => XS.i2b X11.here hx rfl (hb hby at_42) rfl) ?_
  show own_Fin p e below s _ _ _ (T11.setTop (mkF m 43 #[.val (.int p1), .val (.int p2), .val (.int p3), .val (.int p4), .val (.int p5), .val (.int p6), .val (.int mo), .val (.ref b3), .unset, .unset, .unset, .unset, .unset, .unset, .unset, .unset] [(.int (((p4.toUInt32 >>> ((8 : Int32) &&& 31).toUInt32).toInt32).toInt8.toInt32)), (.int (1 : Int32)), (.ref b7), (.ref b7)]))
  obtain ⟨T14, h14, X14, e14, V14, W14, st14⟩ := own_stBn X11 hx hZ e11 V11' (j := (1 : Int32)) ⟨by decide, by decide⟩ (1) rfl (Nat.le_of_ble_eq_true rfl) (g := (mkF m 43 #[.val (.int p1), .val (.int p2), .val (.int p3), .val (.int p4), .val (.int p5), .val (.int p6), .val (.int mo), .val (.ref b3), .unset, .unset, .unset, .unset, .unset, .unset, .unset, .unset] [(.int (((p4.toUInt32 >>> ((8 : Int32) &&& 31).toUInt32).toInt32).toInt8.toInt32)), (.int (1 : Int32)), (.ref b7), (.ref b7)])) rfl rfl (hb hby at_43)
  have V14' : Arv Z h14 b7 k7 .byte (2 : Int32) [(.int (p4.toInt8.toInt32)), (.int (((p4.toUInt32 >>> ((8 : Int32) &&& 31).toUInt32).toInt32).toInt8.toInt32))] (.int (0 : Int32)) := V14
  have f15 := f12.other W14 ne8
  have N14 := Fr.snoc X14 N11 ge9
  have Z14 : n0 ≤ h14.size := Nat.le_trans Z11 (Nat.le_of_eq W14.size.symm)
  refine own_Fin.step st14 ?_
  show own_Fin p e below s _ _ _ (T14.setTop (mkF m 44 #[.val (.int p1), .val (.int p2), .val (.int p3), .val (.int p4), .val (.int p5), .val (.int p6), .val (.int mo), .val (.ref b3), .unset, .unset, .unset, .unset, .unset, .unset, .unset, .unset] [(.ref b7)]))
  refine own_Fin.step (fun _ => XS.astore X14.here hx rfl (hb hby at_44) rfl rfl (l' := #[.val (.int p1), .val (.int p2), .val (.int p3), .val (.int p4), .val (.int p5), .val (.int p6), .val (.int mo), .val (.ref b3), .val (.ref b7), .unset, .unset, .unset, .unset, .unset, .unset, .unset]) rfl) ?_
  show own_Fin p e below s _ _ _ (T14.setTop (mkF m 46 #[.val (.int p1), .val (.int p2), .val (.int p3), .val (.int p4), .val (.int p5), .val (.int p6), .val (.int mo), .val (.ref b3), .val (.ref b7), .unset, .unset, .unset, .unset, .unset, .unset, .unset] []))
  refine own_Fin.step (fun _ => XS.iconst X14.here hx rfl (hb hby at_46)) ?_
  show own_Fin p e below s _ _ _ (T14.setTop (mkF m 47 #[.val (.int p1), .val (.int p2), .val (.int p3), .val (.int p4), .val (.int p5), .val (.int p6), .val (.int mo), .val (.ref b3), .val (.ref b7), .unset, .unset, .unset, .unset, .unset, .unset, .unset] [(.int (1 : Int32))]))
  obtain ⟨T17, h17, k17, b17, X17, e17, E17, g17, V17, st17⟩ := own_newA X14 hx hZ (own_w hw 0 rfl) e14 (ty := .byte) (dv := (.int (0 : Int32))) rfl rfl (g := (mkF m 47 #[.val (.int p1), .val (.int p2), .val (.int p3), .val (.int p4), .val (.int p5), .val (.int p6), .val (.int mo), .val (.ref b3), .val (.ref b7), .unset, .unset, .unset, .unset, .unset, .unset, .unset] [(.int (1 : Int32))])) rfl (hb hby at_47) rfl (by decide) (cap := 1) (by decide) (by decide) (by decide) (by decide) (1)
  have ne18 : b3 ≠ b17 := Nat.ne_of_lt (Nat.lt_of_lt_of_eq f15.lt g17.symm)
  have ne19 : b7 ≠ b17 := Nat.ne_of_lt (Nat.lt_of_lt_of_eq V14'.lt g17.symm)
  have ge20 : n0 ≤ b17 := Nat.le_trans Z14 (Nat.le_of_eq g17.symm)
  have f21 := f15.ext E17
  have f22 := V14'.ext E17
  have Z17 : n0 ≤ h17.size := Nat.le_trans Z14 E17.1
  have V17' : Arv Z h17 b17 k17 .byte (1 : Int32) [(.int (0 : Int32))] (.int (0 : Int32)) := V17
  refine own_Fin.step st17 ?_
  show own_Fin p e below s _ _ _ (T17.setTop (mkF m 49 #[.val (.int p1), .val (.int p2), .val (.int p3), .val (.int p4), .val (.int p5), .val (.int p6), .val (.int mo), .val (.ref b3), .val (.ref b7), .unset, .unset, .unset, .unset, .unset, .unset, .unset] [(.ref b17)]))
  refine own_Fin.step (fun _ => XS.dup X17.here hx rfl (hb hby at_49) rfl rfl) ?_
  show own_Fin p e below s _ _ _ (T17.setTop (mkF m 50 #[.val (.int p1), .val (.int p2), .val (.int p3), .val (.int p4), .val (.int p5), .val (.int p6), .val (.int mo), .val (.ref b3), .val (.ref b7), .unset, .unset, .unset, .unset, .unset, .unset, .unset] [(.ref b17), (.ref b17)]))
  refine own_Fin.step (fun _ => XS.iconst X17.here hx rfl (hb hby at_50)) ?_
  show own_Fin p e below s _ _ _ (T17.setTop (mkF m 51 #[.val (.int p1), .val (.int p2), .val (.int p3), .val (.int p4), .val (.int p5), .val (.int p6), .val (.int mo), .val (.ref b3), .val (.ref b7), .unset, .unset, .unset, .unset, .unset, .unset, .unset] [(.int (0 : Int32)), (.ref b17), (.ref b17)]))
  refine own_Fin.step (fun _ => XS.iload X17.here hx rfl (hb hby at_51) rfl) ?_
  show own_Fin p e below s _ _ _ (T17.setTop (mkF m 53 #[.val (.int p1), .val (.int p2), .val (.int p3), .val (.int p4), .val (.int p5), .val (.int p6), .val (.int mo), .val (.ref b3), .val (.ref b7), .unset, .unset, .unset, .unset, .unset, .unset, .unset] [(.int p5), (.int (0 : Int32)), (.ref b17), (.ref b17)]))
  refine own_Fin.step (fun _ => XS.i2b X17.here hx rfl (hb hby at_53) rfl) ?_
  show own_Fin p e below s _ _ _ (T17.setTop (mkF m 54 #[.val (.int p1), .val (.int p2), .val (.int p3), .val (.int p4), .val (.int p5), .val (.int p6), .val (.int mo), .val (.ref b3), .val (.ref b7), .unset, .unset, .unset, .unset, .unset, .unset, .unset] [(.int (p5.toInt8.toInt32)), (.int (0 : Int32)), (.ref b17), (.ref b17)]))
  obtain ⟨T23, h23, X23, e23, V23, W23, st23⟩ := own_stBn X17 hx hZ e17 V17' (j := (0 : Int32)) ⟨by decide, by decide⟩ (0) rfl (Nat.le_of_ble_eq_true rfl) (g := (mkF m 54 #[.val (.int p1), .val (.int p2), .val (.int p3), .val (.int p4), .val (.int p5), .val (.int p6), .val (.int mo), .val (.ref b3), .val (.ref b7), .unset, .unset, .unset, .unset, .unset, .unset, .unset] [(.int (p5.toInt8.toInt32)), (.int (0 : Int32)), (.ref b17), (.ref b17)])) rfl rfl (hb hby at_54)
  have V23' : Arv Z h23 b17 k17 .byte (1 : Int32) [(.int (p5.toInt8.toInt32))] (.int (0 : Int32)) := V23
  have f24 := f21.other W23 ne18
  have f25 := f22.other W23 ne19
  have N23 := Fr.snoc X23 N14 ge20
  have Z23 : n0 ≤ h23.size := Nat.le_trans Z17 (Nat.le_of_eq W23.size.symm)
  refine own_Fin.step st23 ?_
  show own_Fin p e below s _ _ _ (T23.setTop (mkF m 55 #[.val (.int p1), .val (.int p2), .val (.int p3), .val (.int p4), .val (.int p5), .val (.int p6), .val (.int mo), .val (.ref b3), .val (.ref b7), .unset, .unset, .unset, .unset, .unset, .unset, .unset] [(.ref b17)]))
  refine own_Fin.step (fun _ => XS.astore X23.here hx rfl (hb hby at_55) rfl rfl (l' := #[.val (.int p1), .val (.int p2), .val (.int p3), .val (.int p4), .val (.int p5), .val (.int p6), .val (.int mo), .val (.ref b3), .val (.ref b7), .val (.ref b17), .unset, .unset, .unset, .unset, .unset, .unset]) rfl) ?_
  show own_Fin p e below s _ _ _ (T23.setTop (mkF m 57 #[.val (.int p1), .val (.int p2), .val (.int p3), .val (.int p4), .val (.int p5), .val (.int p6), .val (.int mo), .val (.ref b3), .val (.ref b7), .val (.ref b17), .unset, .unset, .unset, .unset, .unset, .unset] []))
  refine own_Fin.step (fun _ => XS.iconst X23.here hx rfl (hb hby at_57)) ?_
  show own_Fin p e below s _ _ _ (T23.setTop (mkF m 58 #[.val (.int p1), .val (.int p2), .val (.int p3), .val (.int p4), .val (.int p5), .val (.int p6), .val (.int mo), .val (.ref b3), .val (.ref b7), .val (.ref b17), .unset, .unset, .unset, .unset, .unset, .unset] [(.int (2 : Int32))]))
  obtain ⟨T27, h27, k27, b27, X27, e27, E27, g27, V27, st27⟩ := own_newA X23 hx hZ (own_w hw 0 rfl) e23 (ty := .byte) (dv := (.int (0 : Int32))) rfl rfl (g := (mkF m 58 #[.val (.int p1), .val (.int p2), .val (.int p3), .val (.int p4), .val (.int p5), .val (.int p6), .val (.int mo), .val (.ref b3), .val (.ref b7), .val (.ref b17), .unset, .unset, .unset, .unset, .unset, .unset] [(.int (2 : Int32))])) rfl (hb hby at_58) rfl (by decide) (cap := 2) (by decide) (by decide) (by decide) (by decide) (2)
  have ne28 : b17 ≠ b27 := Nat.ne_of_lt (Nat.lt_of_lt_of_eq V23'.lt g27.symm)
  have ne29 : b3 ≠ b27 := Nat.ne_of_lt (Nat.lt_of_lt_of_eq f24.lt g27.symm)
  have ne30 : b7 ≠ b27 := Nat.ne_of_lt (Nat.lt_of_lt_of_eq f25.lt g27.symm)
  have ge31 : n0 ≤ b27 := Nat.le_trans Z23 (Nat.le_of_eq g27.symm)
  have f32 := f24.ext E27
  have f33 := f25.ext E27
  have f34 := V23'.ext E27
  have Z27 : n0 ≤ h27.size := Nat.le_trans Z23 E27.1
  have V27' : Arv Z h27 b27 k27 .byte (2 : Int32) [(.int (0 : Int32)), (.int (0 : Int32))] (.int (0 : Int32)) := V27
  refine own_Fin.step st27 ?_
  show own_Fin p e below s _ _ _ (T27.setTop (mkF m 60 #[.val (.int p1), .val (.int p2), .val (.int p3), .val (.int p4), .val (.int p5), .val (.int p6), .val (.int mo), .val (.ref b3), .val (.ref b7), .val (.ref b17), .unset, .unset, .unset, .unset, .unset, .unset] [(.ref b27)]))
  refine own_Fin.step (fun _ => XS.dup X27.here hx rfl (hb hby at_60) rfl rfl) ?_
  show own_Fin p e below s _ _ _ (T27.setTop (mkF m 61 #[.val (.int p1), .val (.int p2), .val (.int p3), .val (.int p4), .val (.int p5), .val (.int p6), .val (.int mo), .val (.ref b3), .val (.ref b7), .val (.ref b17), .unset, .unset, .unset, .unset, .unset, .unset] [(.ref b27), (.ref b27)]))
  refine own_Fin.step (fun _ => XS.iconst X27.here hx rfl (hb hby at_61)) ?_
  show own_Fin p e below s _ _ _ (T27.setTop (mkF m 62 #[.val (.int p1), .val (.int p2), .val (.int p3), .val (.int p4), .val (.int p5), .val (.int p6), .val (.int mo), .val (.ref b3), .val (.ref b7), .val (.ref b17), .unset, .unset, .unset, .unset, .unset, .unset] [(.int (0 : Int32)), (.ref b27), (.ref b27)]))
  refine own_Fin.step (fun _ => XS.iload X27.here hx rfl (hb hby at_62) rfl) ?_
  show own_Fin p e below s _ _ _ (T27.setTop (mkF m 64 #[.val (.int p1), .val (.int p2), .val (.int p3), .val (.int p4), .val (.int p5), .val (.int p6), .val (.int mo), .val (.ref b3), .val (.ref b7), .val (.ref b17), .unset, .unset, .unset, .unset, .unset, .unset] [(.int p6), (.int (0 : Int32)), (.ref b27), (.ref b27)]))
  refine own_Fin.step (fun _ => XS.i2b X27.here hx rfl (hb hby at_64) rfl) ?_
  show own_Fin p e below s _ _ _ (T27.setTop (mkF m 65 #[.val (.int p1), .val (.int p2), .val (.int p3), .val (.int p4), .val (.int p5), .val (.int p6), .val (.int mo), .val (.ref b3), .val (.ref b7), .val (.ref b17), .unset, .unset, .unset, .unset, .unset, .unset] [(.int (p6.toInt8.toInt32)), (.int (0 : Int32)), (.ref b27), (.ref b27)]))
  obtain ⟨T35, h35, X35, e35, V35, W35, st35⟩ := own_stBn X27 hx hZ e27 V27' (j := (0 : Int32)) ⟨by decide, by decide⟩ (0) rfl (Nat.le_of_ble_eq_true rfl) (g := (mkF m 65 #[.val (.int p1), .val (.int p2), .val (.int p3), .val (.int p4), .val (.int p5), .val (.int p6), .val (.int mo), .val (.ref b3), .val (.ref b7), .val (.ref b17), .unset, .unset, .unset, .unset, .unset, .unset] [(.int (p6.toInt8.toInt32)), (.int (0 : Int32)), (.ref b27), (.ref b27)])) rfl rfl (hb hby at_65)
  have V35' : Arv Z h35 b27 k27 .byte (2 : Int32) [(.int (p6.toInt8.toInt32)), (.int (0 : Int32))] (.int (0 : Int32)) := V35
  have f36 := f32.other W35 ne29
  have f37 := f33.other W35 ne30
  have f38 := f34.other W35 ne28
  have N35 := Fr.snoc X35 N23 ge31
  have Z35 : n0 ≤ h35.size := Nat.le_trans Z27 (Nat.le_of_eq W35.size.symm)
  refine own_Fin.step st35 ?_
  show own_Fin p e below s _ _ _ (T35.setTop (mkF m 66 #[.val (.int p1), .val (.int p2), .val (.int p3), .val (.int p4), .val (.int p5), .val (.int p6), .val (.int mo), .val (.ref b3), .val (.ref b7), .val (.ref b17), .unset, .unset, .unset, .unset, .unset, .unset] [(.ref b27)]))
  refine own_Fin.step (fun _ => XS.dup X35.here hx rfl (hb hby at_66) rfl rfl) ?_
  show own_Fin p e below s _ _ _ (T35.setTop (mkF m 67 #[.val (.int p1), .val (.int p2), .val (.int p3), .val (.int p4), .val (.int p5), .val (.int p6), .val (.int mo), .val (.ref b3), .val (.ref b7), .val (.ref b17), .unset, .unset, .unset, .unset, .unset, .unset] [(.ref b27), (.ref b27)]))
  refine own_Fin.step (fun _ => XS.iconst X35.here hx rfl (hb hby at_67)) ?_
  show own_Fin p e below s _ _ _ (T35.setTop (mkF m 68 #[.val (.int p1), .val (.int p2), .val (.int p3), .val (.int p4), .val (.int p5), .val (.int p6), .val (.int mo), .val (.ref b3), .val (.ref b7), .val (.ref b17), .unset, .unset, .unset, .unset, .unset, .unset] [(.int (1 : Int32)), (.ref b27), (.ref b27)]))
  refine own_Fin.step (fun _ => XS.iload X35.here hx rfl (hb hby at_68) rfl) ?_
  show own_Fin p e below s _ _ _ (T35.setTop (mkF m 70 #[.val (.int p1), .val (.int p2), .val (.int p3), .val (.int p4), .val (.int p5), .val (.int p6), .val (.int mo), .val (.ref b3), .val (.ref b7), .val (.ref b17), .unset, .unset, .unset, .unset, .unset, .unset] [(.int p6), (.int (1 : Int32)), (.ref b27), (.ref b27)]))
  refine own_Fin.step (fun _ => XS.bipush X35.here hx rfl (hb hby at_70)) ?_
  show own_Fin p e below s _ _ _ (T35.setTop (mkF m 72 #[.val (.int p1), .val (.int p2), .val (.int p3), .val (.int p4), .val (.int p5), .val (.int p6), .val (.int mo), .val (.ref b3), .val (.ref b7), .val (.ref b17), .unset, .unset, .unset, .unset, .unset, .unset] [(.int (8 : Int32)), (.int p6), (.int (1 : Int32)), (.ref b27), (.ref b27)]))
  refine own_Fin.step (fun _ => XS.iushr X35.here hx rfl (hb hby at_72) rfl) ?_
  show own_Fin p e below s _ _ _ (T35.setTop (mkF m 73 #[.val (.int p1), .val (.int p2), .val (.int p3), .val (.int p4), .val (.int p5), .val (.int p6), .val (.int mo), .val (.ref b3), .val (.ref b7), .val (.ref b17), .unset, .unset, .unset, .unset, .unset, .unset] [(.int ((p6.toUInt32 >>> ((8 : Int32) &&& 31).toUInt32).toInt32)), (.int (1 : Int32)), (.ref b27), (.ref b27)]))
  refine own_Fin.step (fun _ => XS.i2b X35.here hx rfl (hb hby at_73) rfl) ?_
  show own_Fin p e below s _ _ _ (T35.setTop (mkF m 74 #[.val (.int p1), .val (.int p2), .val (.int p3), .val (.int p4), .val (.int p5), .val (.int p6), .val (.int mo), .val (.ref b3), .val (.ref b7), .val (.ref b17), .unset, .unset, .unset, .unset, .unset, .unset] [(.int (((p6.toUInt32 >>> ((8 : Int32) &&& 31).toUInt32).toInt32).toInt8.toInt32)), (.int (1 : Int32)), (.ref b27), (.ref b27)]))
  obtain ⟨T40, h40, X40, e40, V40, W40, st40⟩ := own_stBn X35 hx hZ e35 V35' (j := (1 : Int32)) ⟨by decide, by decide⟩ (1) rfl (Nat.le_of_ble_eq_true rfl) (g := (mkF m 74 #[.val (.int p1), .val (.int p2), .val (.int p3), .val (.int p4), .val (.int p5), .val (.int p6), .val (.int mo), .val (.ref b3), .val (.ref b7), .val (.ref b17), .unset, .unset, .unset, .unset, .unset, .unset] [(.int (((p6.toUInt32 >>> ((8 : Int32) &&& 31).toUInt32).toInt32).toInt8.toInt32)), (.int (1 : Int32)), (.ref b27), (.ref b27)])) rfl rfl (hb hby at_74)
  have V40' : Arv Z h40 b27 k27 .byte (2 : Int32) [(.int (p6.toInt8.toInt32)), (.int (((p6.toUInt32 >>> ((8 : Int32) &&& 31).toUInt32).toInt32).toInt8.toInt32))] (.int (0 : Int32)) := V40
  have f41 := f36.other W40 ne29
  have f42 := f37.other W40 ne30
  have f43 := f38.other W40 ne28
  have N40 := Fr.snoc X40 N35 ge31
  have Z40 : n0 ≤ h40.size := Nat.le_trans Z35 (Nat.le_of_eq W40.size.symm)
  refine own_Fin.step st40 ?_
  show own_Fin p e below s _ _ _ (T40.setTop (mkF m 75 #[.val (.int p1), .val (.int p2), .val (.int p3), .val (.int p4), .val (.int p5), .val (.int p6), .val (.int mo), .val (.ref b3), .val (.ref b7), .val (.ref b17), .unset, .unset, .unset, .unset, .unset, .unset] [(.ref b27)]))
  refine own_Fin.step (fun _ => XS.astore X40.here hx rfl (hb hby at_75) rfl rfl (l' := #[.val (.int p1), .val (.int p2), .val (.int p3), .val (.int p4), .val (.int p5), .val (.int p6), .val (.int mo), .val (.ref b3), .val (.ref b7), .val (.ref b17), .val (.ref b27), .unset, .unset, .unset, .unset, .unset]) rfl) ?_
  show own_Fin p e below s _ _ _ (T40.setTop (mkF m 77 #[.val (.int p1), .val (.int p2), .val (.int p3), .val (.int p4), .val (.int p5), .val (.int p6), .val (.int mo), .val (.ref b3), .val (.ref b7), .val (.ref b17), .val (.ref b27), .unset, .unset, .unset, .unset, .unset] []))
  have V45f := own_Arf.ofL (xs := [(p3.toInt8.toInt32)]) f41
  have V46f := own_Arf.ofL (xs := [(p4.toInt8.toInt32), (((p4.toUInt32 >>> ((8 : Int32) &&& 31).toUInt32).toInt32).toInt8.toInt32)]) f42
  have V47f := own_Arf.ofL (xs := [(p5.toInt8.toInt32)]) f43
  have V48f := own_Arf.ofL (xs := [(p6.toInt8.toInt32), (((p6.toUInt32 >>> ((8 : Int32) &&& 31).toUInt32).toInt32).toInt8.toInt32)]) V40'
  obtain ⟨T49, h49, X49, e49, E49, A49, D49, -, st49⟩ := newO X40 hx hZ hown (own_w hw 1 rfl) (own_w hw 2 rfl) (own_w hw 3 rfl) e40 (g := (mkF m 77 #[.val (.int p1), .val (.int p2), .val (.int p3), .val (.int p4), .val (.int p5), .val (.int p6), .val (.int mo), .val (.ref b3), .val (.ref b7), .val (.ref b17), .val (.ref b27), .unset, .unset, .unset, .unset, .unset] [])) rfl (hb hby at_77) (by decide) (by decide)
  obtain ⟨b49, g49⟩ : ∃ z, z = h40.size := ⟨_, rfl⟩
  rw [← g49] at A49 D49 st49
  have ne50 : b17 ≠ b49 := Nat.ne_of_lt (Nat.lt_of_lt_of_eq V47f.lt g49.symm)
  have ne51 : b27 ≠ b49 := Nat.ne_of_lt (Nat.lt_of_lt_of_eq V48f.lt g49.symm)
  have ne52 : b3 ≠ b49 := Nat.ne_of_lt (Nat.lt_of_lt_of_eq V45f.lt g49.symm)
  have ne53 : b7 ≠ b49 := Nat.ne_of_lt (Nat.lt_of_lt_of_eq V46f.lt g49.symm)
  have ge54 : n0 ≤ b49 := Nat.le_trans Z40 (Nat.le_of_eq g49.symm)
  have f55 := V45f.ext E49
  have f56 := V46f.ext E49
  have f57 := V47f.ext E49
  have f58 := V48f.ext E49
  have Z49 : n0 ≤ h49.size := Nat.le_trans Z40 E49.1
  have F49_slots : Fld Z h49 b49 "com/example/meterkeep/meterkeep/store/RecordedIds" "slots" "[I" .null := D49 (Or.inl (own_w hw 13 rfl)) (ty := (.array .int)) (by decide)
  have F49_most : Fld Z h49 b49 "com/example/meterkeep/meterkeep/store/RecordedIds" "most" "I" (.int (0 : Int32)) := D49 (Or.inr (own_w hw 15 rfl)) (ty := .int) (by decide)
  have F49_held : Fld Z h49 b49 "com/example/meterkeep/meterkeep/store/RecordedIds" "held" "I" (.int (0 : Int32)) := D49 (Or.inl (own_w hw 22 rfl)) (ty := .int) (by decide)
  refine own_Fin.step st49 ?_
  show own_Fin p e below s _ _ _ (T49.setTop (mkF m 80 #[.val (.int p1), .val (.int p2), .val (.int p3), .val (.int p4), .val (.int p5), .val (.int p6), .val (.int mo), .val (.ref b3), .val (.ref b7), .val (.ref b17), .val (.ref b27), .unset, .unset, .unset, .unset, .unset] [(.ref b49)]))
  refine own_Fin.step (fun _ => XS.dup X49.here hx rfl (hb hby at_80) rfl rfl) ?_
  show own_Fin p e below s _ _ _ (T49.setTop (mkF m 81 #[.val (.int p1), .val (.int p2), .val (.int p3), .val (.int p4), .val (.int p5), .val (.int p6), .val (.int mo), .val (.ref b3), .val (.ref b7), .val (.ref b17), .val (.ref b27), .unset, .unset, .unset, .unset, .unset] [(.ref b49), (.ref b49)]))
  refine own_Fin.step (fun _ => XS.iload X49.here hx rfl (hb hby at_81) rfl) ?_
  show own_Fin p e below s _ _ _ (T49.setTop (mkF m 83 #[.val (.int p1), .val (.int p2), .val (.int p3), .val (.int p4), .val (.int p5), .val (.int p6), .val (.int mo), .val (.ref b3), .val (.ref b7), .val (.ref b17), .val (.ref b27), .unset, .unset, .unset, .unset, .unset] [(.int mo), (.ref b49), (.ref b49)]))
  obtain ⟨_, T59, L59, X59, ⟨bb59, kb59, rfl, N59q, K59, sz59, A59, Fs59, Fm59, Fh59, V59⟩, st59⟩ := own_callN X49 hx hZ rfl hown (own_w hw 4 rfl) (own_w hw 5 rfl) (own_w hw 3 rfl) (own_w hw 6 rfl) (by decide) (rm1 l Z a0 hw b49 mo h49 n0 Z49 ge54 A49 F49_slots F49_most F49_held) (by decide) (by decide) (a := b49) e49 (W := 1) (g := (mkF m 83 #[.val (.int p1), .val (.int p2), .val (.int p3), .val (.int p4), .val (.int p5), .val (.int p6), .val (.int mo), .val (.ref b3), .val (.ref b7), .val (.ref b17), .val (.ref b27), .unset, .unset, .unset, .unset, .unset] [(.int mo), (.ref b49), (.ref b49)])) rfl (by rw [hml]; rfl) (argsL := [(.int mo)]) (rest := [(.ref b49)]) (lenOf pd_2 rfl) rfl rfl (by show 2 * 0 + _ ≤ _; exact Nat.le_of_eq rfl) (hb hby at_83) (by decide) (by decide)
  have N59 := Fr.app N40 N59q
  have ne60 : b17 ≠ bb59 := Nat.ne_of_lt (Nat.lt_of_lt_of_le f57.lt sz59)
  have ne61 : b27 ≠ bb59 := Nat.ne_of_lt (Nat.lt_of_lt_of_le f58.lt sz59)
  have ne62 : b3 ≠ bb59 := Nat.ne_of_lt (Nat.lt_of_lt_of_le f55.lt sz59)
  have ne63 : b49 ≠ bb59 := Nat.ne_of_lt (Nat.lt_of_lt_of_le A49.lt sz59)
  have ne64 : b7 ≠ bb59 := Nat.ne_of_lt (Nat.lt_of_lt_of_le f56.lt sz59)
  have ge65 : n0 ≤ bb59 := Nat.le_trans Z49 sz59
  have f66 := f55.keep K59 (ninS ne52 nin0)
  have f67 := f56.keep K59 (ninS ne53 nin0)
  have f68 := f57.keep K59 (ninS ne50 nin0)
  have f69 := f58.keep K59 (ninS ne51 nin0)
  have f70 := A49.keep K59
  have Z59 : n0 ≤ T59.heap.size := Nat.le_trans Z49 K59.1
  refine own_Fin.step st59 ?_
  show own_Fin p e below s _ _ _ (T59.setTop (mkF m 86 #[.val (.int p1), .val (.int p2), .val (.int p3), .val (.int p4), .val (.int p5), .val (.int p6), .val (.int mo), .val (.ref b3), .val (.ref b7), .val (.ref b17), .val (.ref b27), .unset, .unset, .unset, .unset, .unset] [(.ref b49)]))
  refine own_Fin.step (fun _ => XS.astore X59.here hx rfl (hb hby at_86) rfl rfl (l' := #[.val (.int p1), .val (.int p2), .val (.int p3), .val (.int p4), .val (.int p5), .val (.int p6), .val (.int mo), .val (.ref b3), .val (.ref b7), .val (.ref b17), .val (.ref b27), .val (.ref b49), .unset, .unset, .unset, .unset]) rfl) ?_
  show own_Fin p e below s _ _ _ (T59.setTop (mkF m 88 #[.val (.int p1), .val (.int p2), .val (.int p3), .val (.int p4), .val (.int p5), .val (.int p6), .val (.int mo), .val (.ref b3), .val (.ref b7), .val (.ref b17), .val (.ref b27), .val (.ref b49), .unset, .unset, .unset, .unset] []))
  have j428 : ∀ (TJ : State) (hJ : Heap) (LJ : List Loc) (he : Int32) (f : Nat → Int32) (s15 : Slot), Stand p l e room_1 s m #[(.int p1), (.int p2), (.int p3), (.int p4), (.int p5), (.int p6)] below meth c TJ LJ 6 65545 → Fr n0 LJ → TJ.heap = hJ → n0 ≤ hJ.size → One s15 → (0 ≤ he.toInt ∧ he.toInt ≤ 4) → (he = 0 ∨ ¬ mo < he) → (Exa Z hJ b49 "com/example/meterkeep/meterkeep/store/RecordedIds") → (Fld Z hJ b49 "com/example/meterkeep/meterkeep/store/RecordedIds" "slots" "[I" (.ref bb59)) → (Fld Z hJ b49 "com/example/meterkeep/meterkeep/store/RecordedIds" "most" "I" (.int mo)) → (Fld Z hJ b49 "com/example/meterkeep/meterkeep/store/RecordedIds" "held" "I" (.int he)) → (own_Arf Z hJ bb59 kb59 .int (65536 : Int32) f) → (own_Arf Z hJ b3 k3 .byte (1 : Int32) (fun i => ([(p3.toInt8.toInt32)] : List Int32).getD i 0)) → (own_Arf Z hJ b7 k7 .byte (2 : Int32) (fun i => ([(p4.toInt8.toInt32), (((p4.toUInt32 >>> ((8 : Int32) &&& 31).toUInt32).toInt32).toInt8.toInt32)] : List Int32).getD i 0)) → (own_Arf Z hJ b17 k17 .byte (1 : Int32) (fun i => ([(p5.toInt8.toInt32)] : List Int32).getD i 0)) → (own_Arf Z hJ b27 k27 .byte (2 : Int32) (fun i => ([(p6.toInt8.toInt32), (((p6.toUInt32 >>> ((8 : Int32) &&& 31).toUInt32).toInt32).toInt8.toInt32)] : List Int32).getD i 0)) → own_few f 15 → own_Fin p e below s (own_Q0 n0) room_1.cells room_1.slots (TJ.setTop (mkF m 428 #[.val (.int p1), .val (.int p2), .val (.int p3), .val (.int p4), .val (.int p5), .val (.int p6), .val (.int mo), .val (.ref b3), .val (.ref b7), .val (.ref b17), .val (.ref b27), .val (.ref b49), .val (.int he), .val (.int (own_full he mo)), .val (.int (1 : Int32)), s15] [])) := by
    intro TJ hJ LJ he f s15 XJ NJ eJ ZJ hs15 jr jm jE jFs jFm jFh jV jV0 jV1 jV2 jV3 jfew
    show own_Fin p e below s _ _ _ (TJ.setTop (mkF m 428 #[.val (.int p1), .val (.int p2), .val (.int p3), .val (.int p4), .val (.int p5), .val (.int p6), .val (.int mo), .val (.ref b3), .val (.ref b7), .val (.ref b17), .val (.ref b27), .val (.ref b49), .val (.int he), .val (.int (own_full he mo)), .val (.int (1 : Int32)), s15] []))
    refine own_Fin.step (fun _ => XS.iload XJ.here hx rfl (hb hby at_428) rfl) ?_
    show own_Fin p e below s _ _ _ (TJ.setTop (mkF m 430 #[.val (.int p1), .val (.int p2), .val (.int p3), .val (.int p4), .val (.int p5), .val (.int p6), .val (.int mo), .val (.ref b3), .val (.ref b7), .val (.ref b17), .val (.ref b27), .val (.ref b49), .val (.int he), .val (.int (own_full he mo)), .val (.int (1 : Int32)), s15] [(.int (1 : Int32))]))
    refine own_Fin.step (fun _ => XS.ifNo XJ.here hx rfl (hb hby at_430) rfl (XT.i0_eq_f (by decide : ¬ ((1 : Int32) = (0 : Int32))))) ?_
    show own_Fin p e below s _ _ _ (TJ.setTop (mkF m 433 #[.val (.int p1), .val (.int p2), .val (.int p3), .val (.int p4), .val (.int p5), .val (.int p6), .val (.int mo), .val (.ref b3), .val (.ref b7), .val (.ref b17), .val (.ref b27), .val (.ref b49), .val (.int he), .val (.int (own_full he mo)), .val (.int (1 : Int32)), s15] []))
    refine own_Fin.step (fun _ => XS.iload XJ.here hx rfl (hb hby at_433) rfl) ?_
    show own_Fin p e below s _ _ _ (TJ.setTop (mkF m 435 #[.val (.int p1), .val (.int p2), .val (.int p3), .val (.int p4), .val (.int p5), .val (.int p6), .val (.int mo), .val (.ref b3), .val (.ref b7), .val (.ref b17), .val (.ref b27), .val (.ref b49), .val (.int he), .val (.int (own_full he mo)), .val (.int (1 : Int32)), s15] [(.int he)]))
    refine own_Fin.step (fun _ => XS.iload XJ.here hx rfl (hb hby at_435) rfl) ?_
    show own_Fin p e below s _ _ _ (TJ.setTop (mkF m 437 #[.val (.int p1), .val (.int p2), .val (.int p3), .val (.int p4), .val (.int p5), .val (.int p6), .val (.int mo), .val (.ref b3), .val (.ref b7), .val (.ref b17), .val (.ref b27), .val (.ref b49), .val (.int he), .val (.int (own_full he mo)), .val (.int (1 : Int32)), s15] [(.int mo), (.int he)]))
    refine own_Fin.step (fun _ => XS.iconst XJ.here hx rfl (hb hby at_437)) ?_
    show own_Fin p e below s _ _ _ (TJ.setTop (mkF m 438 #[.val (.int p1), .val (.int p2), .val (.int p3), .val (.int p4), .val (.int p5), .val (.int p6), .val (.int mo), .val (.ref b3), .val (.ref b7), .val (.ref b17), .val (.ref b27), .val (.ref b49), .val (.int he), .val (.int (own_full he mo)), .val (.int (1 : Int32)), s15] [(.int (0 : Int32)), (.int mo), (.int he)]))
    obtain ⟨_, T74, L74, X74, ⟨rfl, N74q, e74⟩, st74⟩ := own_callS XJ hx hZ hown (own_w hw 28 rfl) (own_w hw 29 rfl) (own_w hw 30 rfl) (own_w hw 31 rfl) (by decide) (rm3 l Z a0 hw mo (0 : Int32) hJ n0 ZJ) (by decide) (by decide) eJ (W := 1) (g := (mkF m 438 #[.val (.int p1), .val (.int p2), .val (.int p3), .val (.int p4), .val (.int p5), .val (.int p6), .val (.int mo), .val (.ref b3), .val (.ref b7), .val (.ref b17), .val (.ref b27), .val (.ref b49), .val (.int he), .val (.int (own_full he mo)), .val (.int (1 : Int32)), s15] [(.int (0 : Int32)), (.int mo), (.int he)])) rfl (by rw [hml]; rfl) (argsL := [(.int mo), (.int (0 : Int32))]) (rest := [(.int he)]) (lenOf pd_3 rfl) rfl rfl (by show 2 * 0 + _ ≤ _; exact Nat.le_of_eq rfl) (hb hby at_438) (by decide) (by decide)
    have N74 := Fr.app NJ N74q
    refine own_Fin.step st74 ?_
    show own_Fin p e below s _ _ _ (T74.setTop (mkF m 441 #[.val (.int p1), .val (.int p2), .val (.int p3), .val (.int p4), .val (.int p5), .val (.int p6), .val (.int mo), .val (.ref b3), .val (.ref b7), .val (.ref b17), .val (.ref b27), .val (.ref b49), .val (.int he), .val (.int (own_full he mo)), .val (.int (1 : Int32)), s15] [(.int (own_max mo (0 : Int32))), (.int he)]))
    refine own_Fin.step (fun _ => XS.icmpNo X74.here hx rfl (hb hby at_441) rfl (XT.ii_gt_f (own_end jm))) ?_
    show own_Fin p e below s _ _ _ (T74.setTop (mkF m 444 #[.val (.int p1), .val (.int p2), .val (.int p3), .val (.int p4), .val (.int p5), .val (.int p6), .val (.int mo), .val (.ref b3), .val (.ref b7), .val (.ref b17), .val (.ref b27), .val (.ref b49), .val (.int he), .val (.int (own_full he mo)), .val (.int (1 : Int32)), s15] []))
    refine own_Fin.step (fun _ => XS.iconst X74.here hx rfl (hb hby at_444)) ?_
    show own_Fin p e below s _ _ _ (T74.setTop (mkF m 445 #[.val (.int p1), .val (.int p2), .val (.int p3), .val (.int p4), .val (.int p5), .val (.int p6), .val (.int mo), .val (.ref b3), .val (.ref b7), .val (.ref b17), .val (.ref b27), .val (.ref b49), .val (.int he), .val (.int (own_full he mo)), .val (.int (1 : Int32)), s15] [(.int (1 : Int32))]))
    refine own_Fin.step (fun _ => XS.goto X74.here hx rfl (pc0 := 445) (pc' := 449) rfl (hb hby at_445) (by decide) (by decide)) ?_
    show own_Fin p e below s _ _ _ (T74.setTop (mkF m 449 #[.val (.int p1), .val (.int p2), .val (.int p3), .val (.int p4), .val (.int p5), .val (.int p6), .val (.int mo), .val (.ref b3), .val (.ref b7), .val (.ref b17), .val (.ref b27), .val (.ref b49), .val (.int he), .val (.int (own_full he mo)), .val (.int (1 : Int32)), s15] [(.int (1 : Int32))]))
    refine own_Fin.step (fun _ => XS.istore X74.here hx rfl (hb hby at_449) rfl (l' := #[.val (.int p1), .val (.int p2), .val (.int p3), .val (.int p4), .val (.int p5), .val (.int p6), .val (.int mo), .val (.ref b3), .val (.ref b7), .val (.ref b17), .val (.ref b27), .val (.ref b49), .val (.int he), .val (.int (own_full he mo)), .val (.int (1 : Int32)), s15]) rfl) ?_
    show own_Fin p e below s _ _ _ (T74.setTop (mkF m 451 #[.val (.int p1), .val (.int p2), .val (.int p3), .val (.int p4), .val (.int p5), .val (.int p6), .val (.int mo), .val (.ref b3), .val (.ref b7), .val (.ref b17), .val (.ref b27), .val (.ref b49), .val (.int he), .val (.int (own_full he mo)), .val (.int (1 : Int32)), s15] []))
    refine own_Fin.step (fun _ => XS.iload X74.here hx rfl (hb hby at_451) rfl) ?_
    show own_Fin p e below s _ _ _ (T74.setTop (mkF m 453 #[.val (.int p1), .val (.int p2), .val (.int p3), .val (.int p4), .val (.int p5), .val (.int p6), .val (.int mo), .val (.ref b3), .val (.ref b7), .val (.ref b17), .val (.ref b27), .val (.ref b49), .val (.int he), .val (.int (own_full he mo)), .val (.int (1 : Int32)), s15] [(.int (1 : Int32))]))
    exact own_retN X74 hx hlk (t := .boolean) hret (by simp) (hb hby at_453) ⟨rfl, N74⟩ (by decide) (by decide)
  have j351 : ∀ (TJ : State) (hJ : Heap) (LJ : List Loc) (he : Int32) (f : Nat → Int32) (s15 : Slot), Stand p l e room_1 s m #[(.int p1), (.int p2), (.int p3), (.int p4), (.int p5), (.int p6)] below meth c TJ LJ 6 65545 → Fr n0 LJ → TJ.heap = hJ → n0 ≤ hJ.size → One s15 → (0 ≤ he.toInt ∧ he.toInt ≤ 3) → (he = 0 ∨ ¬ mo < he) → (Exa Z hJ b49 "com/example/meterkeep/meterkeep/store/RecordedIds") → (Fld Z hJ b49 "com/example/meterkeep/meterkeep/store/RecordedIds" "slots" "[I" (.ref bb59)) → (Fld Z hJ b49 "com/example/meterkeep/meterkeep/store/RecordedIds" "most" "I" (.int mo)) → (Fld Z hJ b49 "com/example/meterkeep/meterkeep/store/RecordedIds" "held" "I" (.int he)) → (own_Arf Z hJ bb59 kb59 .int (65536 : Int32) f) → (own_Arf Z hJ b3 k3 .byte (1 : Int32) (fun i => ([(p3.toInt8.toInt32)] : List Int32).getD i 0)) → (own_Arf Z hJ b7 k7 .byte (2 : Int32) (fun i => ([(p4.toInt8.toInt32), (((p4.toUInt32 >>> ((8 : Int32) &&& 31).toUInt32).toInt32).toInt8.toInt32)] : List Int32).getD i 0)) → (own_Arf Z hJ b17 k17 .byte (1 : Int32) (fun i => ([(p5.toInt8.toInt32)] : List Int32).getD i 0)) → (own_Arf Z hJ b27 k27 .byte (2 : Int32) (fun i => ([(p6.toInt8.toInt32), (((p6.toUInt32 >>> ((8 : Int32) &&& 31).toUInt32).toInt32).toInt8.toInt32)] : List Int32).getD i 0)) → own_few f 7 → own_Fin p e below s (own_Q0 n0) room_1.cells room_1.slots (TJ.setTop (mkF m 351 #[.val (.int p1), .val (.int p2), .val (.int p3), .val (.int p4), .val (.int p5), .val (.int p6), .val (.int mo), .val (.ref b3), .val (.ref b7), .val (.ref b17), .val (.ref b27), .val (.ref b49), .val (.int he), .val (.int (own_full he mo)), .val (.int (1 : Int32)), s15] [])) := by
    intro TJ hJ LJ he f s15 XJ NJ eJ ZJ hs15 jr jm jE jFs jFm jFh jV jV0 jV1 jV2 jV3 jfew
    show own_Fin p e below s _ _ _ (TJ.setTop (mkF m 351 #[.val (.int p1), .val (.int p2), .val (.int p3), .val (.int p4), .val (.int p5), .val (.int p6), .val (.int mo), .val (.ref b3), .val (.ref b7), .val (.ref b17), .val (.ref b27), .val (.ref b49), .val (.int he), .val (.int (own_full he mo)), .val (.int (1 : Int32)), s15] []))
    refine own_Fin.step (fun _ => XS.aload XJ.here hx rfl (hb hby at_351) rfl rfl) ?_
    show own_Fin p e below s _ _ _ (TJ.setTop (mkF m 353 #[.val (.int p1), .val (.int p2), .val (.int p3), .val (.int p4), .val (.int p5), .val (.int p6), .val (.int mo), .val (.ref b3), .val (.ref b7), .val (.ref b17), .val (.ref b27), .val (.ref b49), .val (.int he), .val (.int (own_full he mo)), .val (.int (1 : Int32)), s15] [(.ref b49)]))
    refine own_Fin.step (fun _ => XS.aload XJ.here hx rfl (hb hby at_353) rfl rfl) ?_
    show own_Fin p e below s _ _ _ (TJ.setTop (mkF m 355 #[.val (.int p1), .val (.int p2), .val (.int p3), .val (.int p4), .val (.int p5), .val (.int p6), .val (.int mo), .val (.ref b3), .val (.ref b7), .val (.ref b17), .val (.ref b27), .val (.ref b49), .val (.int he), .val (.int (own_full he mo)), .val (.int (1 : Int32)), s15] [(.ref b27), (.ref b49)]))
    refine own_Fin.step (fun _ => XS.iconst XJ.here hx rfl (hb hby at_355)) ?_
    show own_Fin p e below s _ _ _ (TJ.setTop (mkF m 356 #[.val (.int p1), .val (.int p2), .val (.int p3), .val (.int p4), .val (.int p5), .val (.int p6), .val (.int mo), .val (.ref b3), .val (.ref b7), .val (.ref b17), .val (.ref b27), .val (.ref b49), .val (.int he), .val (.int (own_full he mo)), .val (.int (1 : Int32)), s15] [(.int (0 : Int32)), (.ref b27), (.ref b49)]))
    refine own_Fin.step (fun _ => XS.iconst XJ.here hx rfl (hb hby at_356)) ?_
    show own_Fin p e below s _ _ _ (TJ.setTop (mkF m 357 #[.val (.int p1), .val (.int p2), .val (.int p3), .val (.int p4), .val (.int p5), .val (.int p6), .val (.int mo), .val (.ref b3), .val (.ref b7), .val (.ref b17), .val (.ref b27), .val (.ref b49), .val (.int he), .val (.int (own_full he mo)), .val (.int (1 : Int32)), s15] [(.int (2 : Int32)), (.int (0 : Int32)), (.ref b27), (.ref b49)]))
    obtain ⟨_, T75, L75, X75, ⟨bz75, f75', rfl, N75q, K75, hb75, A75, Fs75, Fm75, Fh75, V75, few75⟩, st75⟩ := own_callV XJ hx hZ hown (own_w hw 23 rfl) (own_w hw 24 rfl) (own_w hw 26 rfl) (own_w hw 25 rfl) (own_w hw 3 rfl) (own_w hw 27 rfl) (by decide) (rm6 l Z a0 hw b49 b27 (2 : Int32) bb59 kb59 k27 mo he (2 : Int32) f (fun i => ([(p6.toInt8.toInt32), (((p6.toUInt32 >>> ((8 : Int32) &&& 31).toUInt32).toInt32).toInt8.toInt32)] : List Int32).getD i 0) 7 hJ n0 ZJ ge54 ge65 ne63 ne61 (Ne.symm ne51) jE jFs jFm jFh jV jV3 (by decide) jfew (by decide) (own_Hh ⟨jr.1, by omega⟩)) (by decide) (by decide) jE eJ (W := 0) (g := (mkF m 357 #[.val (.int p1), .val (.int p2), .val (.int p3), .val (.int p4), .val (.int p5), .val (.int p6), .val (.int mo), .val (.ref b3), .val (.ref b7), .val (.ref b17), .val (.ref b27), .val (.ref b49), .val (.int he), .val (.int (own_full he mo)), .val (.int (1 : Int32)), s15] [(.int (2 : Int32)), (.int (0 : Int32)), (.ref b27), (.ref b49)])) rfl (by rw [hml]; rfl) (argsL := [(.ref b27), (.int (0 : Int32)), (.int (2 : Int32))]) (rest := []) (lenOf pd_4 rfl) rfl rfl (by show 2 * 0 + _ ≤ _; exact Nat.le_of_eq rfl) (hb hby at_357) (by decide) (by decide)
    have N75 := Fr.app NJ N75q
    have f76 := jE.keep K75
    have f81 := jV0.keep K75 (ninS ne52 (ninS ne62 nin0))
    have f82 := jV1.keep K75 (ninS ne53 (ninS ne64 nin0))
    have f83 := jV2.keep K75 (ninS ne50 (ninS ne60 nin0))
    have f84 := jV3.keep K75 (ninS ne51 (ninS ne61 nin0))
    have Z75 : n0 ≤ T75.heap.size := Nat.le_trans ZJ K75.1
    refine own_Fin.step st75 ?_
    show own_Fin p e below s _ _ _ (T75.setTop (mkF m 360 #[.val (.int p1), .val (.int p2), .val (.int p3), .val (.int p4), .val (.int p5), .val (.int p6), .val (.int mo), .val (.ref b3), .val (.ref b7), .val (.ref b17), .val (.ref b27), .val (.ref b49), .val (.int he), .val (.int (own_full he mo)), .val (.int (1 : Int32)), s15] [(.int bz75)]))
    rcases hb75 with rfl | ⟨rfl, hlt⟩
    ·
      have Fh75' := own_sub0 Fh75
      show own_Fin p e below s _ _ _ (T75.setTop (mkF m 360 #[.val (.int p1), .val (.int p2), .val (.int p3), .val (.int p4), .val (.int p5), .val (.int p6), .val (.int mo), .val (.ref b3), .val (.ref b7), .val (.ref b17), .val (.ref b27), .val (.ref b49), .val (.int he), .val (.int (own_full he mo)), .val (.int (1 : Int32)), s15] [(.int (0 : Int32))]))
      refine own_Fin.step (fun _ => XS.istore X75.here hx rfl (hb hby at_360) rfl (l' := #[.val (.int p1), .val (.int p2), .val (.int p3), .val (.int p4), .val (.int p5), .val (.int p6), .val (.int mo), .val (.ref b3), .val (.ref b7), .val (.ref b17), .val (.ref b27), .val (.ref b49), .val (.int he), .val (.int (own_full he mo)), .val (.int (1 : Int32)), .val (.int (0 : Int32))]) (XS.store1 (o := s15) rfl hs15 rfl)) ?_
      show own_Fin p e below s _ _ _ (T75.setTop (mkF m 362 #[.val (.int p1), .val (.int p2), .val (.int p3), .val (.int p4), .val (.int p5), .val (.int p6), .val (.int mo), .val (.ref b3), .val (.ref b7), .val (.ref b17), .val (.ref b27), .val (.ref b49), .val (.int he), .val (.int (own_full he mo)), .val (.int (1 : Int32)), .val (.int (0 : Int32))] []))
      refine own_Fin.step (fun _ => XS.iload X75.here hx rfl (hb hby at_362) rfl) ?_
      show own_Fin p e below s _ _ _ (T75.setTop (mkF m 364 #[.val (.int p1), .val (.int p2), .val (.int p3), .val (.int p4), .val (.int p5), .val (.int p6), .val (.int mo), .val (.ref b3), .val (.ref b7), .val (.ref b17), .val (.ref b27), .val (.ref b49), .val (.int he), .val (.int (own_full he mo)), .val (.int (1 : Int32)), .val (.int (0 : Int32))] [(.int (1 : Int32))]))
      refine own_Fin.step (fun _ => XS.ifNo X75.here hx rfl (hb hby at_364) rfl (XT.i0_eq_f (by decide : ¬ ((1 : Int32) = (0 : Int32))))) ?_
      show own_Fin p e below s _ _ _ (T75.setTop (mkF m 367 #[.val (.int p1), .val (.int p2), .val (.int p3), .val (.int p4), .val (.int p5), .val (.int p6), .val (.int mo), .val (.ref b3), .val (.ref b7), .val (.ref b17), .val (.ref b27), .val (.ref b49), .val (.int he), .val (.int (own_full he mo)), .val (.int (1 : Int32)), .val (.int (0 : Int32))] []))
      refine own_Fin.step (fun _ => XS.iload X75.here hx rfl (hb hby at_367) rfl) ?_
      show own_Fin p e below s _ _ _ (T75.setTop (mkF m 369 #[.val (.int p1), .val (.int p2), .val (.int p3), .val (.int p4), .val (.int p5), .val (.int p6), .val (.int mo), .val (.ref b3), .val (.ref b7), .val (.ref b17), .val (.ref b27), .val (.ref b49), .val (.int he), .val (.int (own_full he mo)), .val (.int (1 : Int32)), .val (.int (0 : Int32))] [(.int (own_full he mo))]))
      by_cases hc369_85 : (own_full he mo) = (0 : Int32)
      ·
        refine own_Fin.step (fun _ => XS.ifYes X75.here hx rfl (pc0 := 369) (pc' := 377) rfl (hb hby at_369) rfl (XT.i0_eq_t hc369_85) (by decide) (by decide)) ?_
        show own_Fin p e below s _ _ _ (T75.setTop (mkF m 377 #[.val (.int p1), .val (.int p2), .val (.int p3), .val (.int p4), .val (.int p5), .val (.int p6), .val (.int mo), .val (.ref b3), .val (.ref b7), .val (.ref b17), .val (.ref b27), .val (.ref b49), .val (.int he), .val (.int (own_full he mo)), .val (.int (1 : Int32)), .val (.int (0 : Int32))] []))
        refine own_Fin.step (fun _ => XS.iconst X75.here hx rfl (hb hby at_377)) ?_
        show own_Fin p e below s _ _ _ (T75.setTop (mkF m 378 #[.val (.int p1), .val (.int p2), .val (.int p3), .val (.int p4), .val (.int p5), .val (.int p6), .val (.int mo), .val (.ref b3), .val (.ref b7), .val (.ref b17), .val (.ref b27), .val (.ref b49), .val (.int he), .val (.int (own_full he mo)), .val (.int (1 : Int32)), .val (.int (0 : Int32))] [(.int (1 : Int32))]))
        refine own_Fin.step (fun _ => XS.goto X75.here hx rfl (pc0 := 378) (pc' := 382) rfl (hb hby at_378) (by decide) (by decide)) ?_
        show own_Fin p e below s _ _ _ (T75.setTop (mkF m 382 #[.val (.int p1), .val (.int p2), .val (.int p3), .val (.int p4), .val (.int p5), .val (.int p6), .val (.int mo), .val (.ref b3), .val (.ref b7), .val (.ref b17), .val (.ref b27), .val (.ref b49), .val (.int he), .val (.int (own_full he mo)), .val (.int (1 : Int32)), .val (.int (0 : Int32))] [(.int (1 : Int32))]))
        refine own_Fin.step (fun _ => XS.istore X75.here hx rfl (hb hby at_382) rfl (l' := #[.val (.int p1), .val (.int p2), .val (.int p3), .val (.int p4), .val (.int p5), .val (.int p6), .val (.int mo), .val (.ref b3), .val (.ref b7), .val (.ref b17), .val (.ref b27), .val (.ref b49), .val (.int he), .val (.int (own_full he mo)), .val (.int (1 : Int32)), .val (.int (0 : Int32))]) rfl) ?_
        show own_Fin p e below s _ _ _ (T75.setTop (mkF m 384 #[.val (.int p1), .val (.int p2), .val (.int p3), .val (.int p4), .val (.int p5), .val (.int p6), .val (.int mo), .val (.ref b3), .val (.ref b7), .val (.ref b17), .val (.ref b27), .val (.ref b49), .val (.int he), .val (.int (own_full he mo)), .val (.int (1 : Int32)), .val (.int (0 : Int32))] []))
        refine own_Fin.step (fun _ => XS.iload X75.here hx rfl (hb hby at_384) rfl) ?_
        show own_Fin p e below s _ _ _ (T75.setTop (mkF m 386 #[.val (.int p1), .val (.int p2), .val (.int p3), .val (.int p4), .val (.int p5), .val (.int p6), .val (.int mo), .val (.ref b3), .val (.ref b7), .val (.ref b17), .val (.ref b27), .val (.ref b49), .val (.int he), .val (.int (own_full he mo)), .val (.int (1 : Int32)), .val (.int (0 : Int32))] [(.int (0 : Int32))]))
        refine own_Fin.step (fun _ => XS.ifYes X75.here hx rfl (pc0 := 386) (pc' := 392) rfl (hb hby at_386) rfl (XT.i0_eq_t (by decide : (0 : Int32) = (0 : Int32))) (by decide) (by decide)) ?_
        show own_Fin p e below s _ _ _ (T75.setTop (mkF m 392 #[.val (.int p1), .val (.int p2), .val (.int p3), .val (.int p4), .val (.int p5), .val (.int p6), .val (.int mo), .val (.ref b3), .val (.ref b7), .val (.ref b17), .val (.ref b27), .val (.ref b49), .val (.int he), .val (.int (own_full he mo)), .val (.int (1 : Int32)), .val (.int (0 : Int32))] []))
        refine own_Fin.step (fun _ => XS.aload X75.here hx rfl (hb hby at_392) rfl rfl) ?_
        show own_Fin p e below s _ _ _ (T75.setTop (mkF m 394 #[.val (.int p1), .val (.int p2), .val (.int p3), .val (.int p4), .val (.int p5), .val (.int p6), .val (.int mo), .val (.ref b3), .val (.ref b7), .val (.ref b17), .val (.ref b27), .val (.ref b49), .val (.int he), .val (.int (own_full he mo)), .val (.int (1 : Int32)), .val (.int (0 : Int32))] [(.ref b49)]))
        obtain ⟨_, T86, L86, X86, ⟨rfl, N86q, e86⟩, st86⟩ := own_callV X75 hx hZ hown (own_w hw 16 rfl) (own_w hw 17 rfl) (own_w hw 19 rfl) (own_w hw 18 rfl) (own_w hw 3 rfl) (own_w hw 20 rfl) (by decide) (rm2 l Z a0 hw b49 he mo T75.heap n0 Z75 Fh75' Fm75) (by decide) (by decide) A75 rfl (W := 0) (g := (mkF m 394 #[.val (.int p1), .val (.int p2), .val (.int p3), .val (.int p4), .val (.int p5), .val (.int p6), .val (.int mo), .val (.ref b3), .val (.ref b7), .val (.ref b17), .val (.ref b27), .val (.ref b49), .val (.int he), .val (.int (own_full he mo)), .val (.int (1 : Int32)), .val (.int (0 : Int32))] [(.ref b49)])) rfl (by rw [hml]; rfl) (argsL := []) (rest := []) (lenOf pd_5 rfl) rfl rfl (by show 2 * 0 + _ ≤ _; exact Nat.le_of_eq rfl) (hb hby at_394) (by decide) (by decide)
        have N86 := Fr.app N75 N86q
        refine own_Fin.step st86 ?_
        show own_Fin p e below s _ _ _ (T86.setTop (mkF m 397 #[.val (.int p1), .val (.int p2), .val (.int p3), .val (.int p4), .val (.int p5), .val (.int p6), .val (.int mo), .val (.ref b3), .val (.ref b7), .val (.ref b17), .val (.ref b27), .val (.ref b49), .val (.int he), .val (.int (own_full he mo)), .val (.int (1 : Int32)), .val (.int (0 : Int32))] [(.int (own_full he mo))]))
        refine own_Fin.step (fun _ => XS.istore X86.here hx rfl (hb hby at_397) rfl (l' := #[.val (.int p1), .val (.int p2), .val (.int p3), .val (.int p4), .val (.int p5), .val (.int p6), .val (.int mo), .val (.ref b3), .val (.ref b7), .val (.ref b17), .val (.ref b27), .val (.ref b49), .val (.int he), .val (.int (own_full he mo)), .val (.int (1 : Int32)), .val (.int (0 : Int32))]) rfl) ?_
        show own_Fin p e below s _ _ _ (T86.setTop (mkF m 399 #[.val (.int p1), .val (.int p2), .val (.int p3), .val (.int p4), .val (.int p5), .val (.int p6), .val (.int mo), .val (.ref b3), .val (.ref b7), .val (.ref b17), .val (.ref b27), .val (.ref b49), .val (.int he), .val (.int (own_full he mo)), .val (.int (1 : Int32)), .val (.int (0 : Int32))] []))
        refine own_Fin.step (fun _ => XS.iload X86.here hx rfl (hb hby at_399) rfl) ?_
        show own_Fin p e below s _ _ _ (T86.setTop (mkF m 401 #[.val (.int p1), .val (.int p2), .val (.int p3), .val (.int p4), .val (.int p5), .val (.int p6), .val (.int mo), .val (.ref b3), .val (.ref b7), .val (.ref b17), .val (.ref b27), .val (.ref b49), .val (.int he), .val (.int (own_full he mo)), .val (.int (1 : Int32)), .val (.int (0 : Int32))] [(.int (1 : Int32))]))
        refine own_Fin.step (fun _ => XS.ifNo X86.here hx rfl (hb hby at_401) rfl (XT.i0_eq_f (by decide : ¬ ((1 : Int32) = (0 : Int32))))) ?_
        show own_Fin p e below s _ _ _ (T86.setTop (mkF m 404 #[.val (.int p1), .val (.int p2), .val (.int p3), .val (.int p4), .val (.int p5), .val (.int p6), .val (.int mo), .val (.ref b3), .val (.ref b7), .val (.ref b17), .val (.ref b27), .val (.ref b49), .val (.int he), .val (.int (own_full he mo)), .val (.int (1 : Int32)), .val (.int (0 : Int32))] []))
        refine own_Fin.step (fun _ => XS.iload X86.here hx rfl (hb hby at_404) rfl) ?_
        show own_Fin p e below s _ _ _ (T86.setTop (mkF m 406 #[.val (.int p1), .val (.int p2), .val (.int p3), .val (.int p4), .val (.int p5), .val (.int p6), .val (.int mo), .val (.ref b3), .val (.ref b7), .val (.ref b17), .val (.ref b27), .val (.ref b49), .val (.int he), .val (.int (own_full he mo)), .val (.int (1 : Int32)), .val (.int (0 : Int32))] [(.int (own_full he mo))]))
        refine own_Fin.step (fun _ => XS.iload X86.here hx rfl (hb hby at_406) rfl) ?_
        show own_Fin p e below s _ _ _ (T86.setTop (mkF m 408 #[.val (.int p1), .val (.int p2), .val (.int p3), .val (.int p4), .val (.int p5), .val (.int p6), .val (.int mo), .val (.ref b3), .val (.ref b7), .val (.ref b17), .val (.ref b27), .val (.ref b49), .val (.int he), .val (.int (own_full he mo)), .val (.int (1 : Int32)), .val (.int (0 : Int32))] [(.int he), (.int (own_full he mo))]))
        refine own_Fin.step (fun _ => XS.iload X86.here hx rfl (hb hby at_408) rfl) ?_
        show own_Fin p e below s _ _ _ (T86.setTop (mkF m 410 #[.val (.int p1), .val (.int p2), .val (.int p3), .val (.int p4), .val (.int p5), .val (.int p6), .val (.int mo), .val (.ref b3), .val (.ref b7), .val (.ref b17), .val (.ref b27), .val (.ref b49), .val (.int he), .val (.int (own_full he mo)), .val (.int (1 : Int32)), .val (.int (0 : Int32))] [(.int mo), (.int he), (.int (own_full he mo))]))
        by_cases hc410_87 : he = mo
        ·
          refine own_Fin.step (fun _ => XS.icmpNo X86.here hx rfl (hb hby at_410) rfl (XT.ii_ne_f hc410_87)) ?_
          show own_Fin p e below s _ _ _ (T86.setTop (mkF m 413 #[.val (.int p1), .val (.int p2), .val (.int p3), .val (.int p4), .val (.int p5), .val (.int p6), .val (.int mo), .val (.ref b3), .val (.ref b7), .val (.ref b17), .val (.ref b27), .val (.ref b49), .val (.int he), .val (.int (own_full he mo)), .val (.int (1 : Int32)), .val (.int (0 : Int32))] [(.int (own_full he mo))]))
          refine own_Fin.step (fun _ => XS.iconst X86.here hx rfl (hb hby at_413)) ?_
          show own_Fin p e below s _ _ _ (T86.setTop (mkF m 414 #[.val (.int p1), .val (.int p2), .val (.int p3), .val (.int p4), .val (.int p5), .val (.int p6), .val (.int mo), .val (.ref b3), .val (.ref b7), .val (.ref b17), .val (.ref b27), .val (.ref b49), .val (.int he), .val (.int (own_full he mo)), .val (.int (1 : Int32)), .val (.int (0 : Int32))] [(.int (1 : Int32)), (.int (own_full he mo))]))
          refine own_Fin.step (fun _ => XS.goto X86.here hx rfl (pc0 := 414) (pc' := 418) rfl (hb hby at_414) (by decide) (by decide)) ?_
          show own_Fin p e below s _ _ _ (T86.setTop (mkF m 418 #[.val (.int p1), .val (.int p2), .val (.int p3), .val (.int p4), .val (.int p5), .val (.int p6), .val (.int mo), .val (.ref b3), .val (.ref b7), .val (.ref b17), .val (.ref b27), .val (.ref b49), .val (.int he), .val (.int (own_full he mo)), .val (.int (1 : Int32)), .val (.int (0 : Int32))] [(.int (1 : Int32)), (.int (own_full he mo))]))
          refine own_Fin.step (fun _ => XS.icmpNo X86.here hx rfl (hb hby at_418) rfl (XT.ii_ne_f (if_pos hc410_87))) ?_
          show own_Fin p e below s _ _ _ (T86.setTop (mkF m 421 #[.val (.int p1), .val (.int p2), .val (.int p3), .val (.int p4), .val (.int p5), .val (.int p6), .val (.int mo), .val (.ref b3), .val (.ref b7), .val (.ref b17), .val (.ref b27), .val (.ref b49), .val (.int he), .val (.int (own_full he mo)), .val (.int (1 : Int32)), .val (.int (0 : Int32))] []))
          refine own_Fin.step (fun _ => XS.iconst X86.here hx rfl (hb hby at_421)) ?_
          show own_Fin p e below s _ _ _ (T86.setTop (mkF m 422 #[.val (.int p1), .val (.int p2), .val (.int p3), .val (.int p4), .val (.int p5), .val (.int p6), .val (.int mo), .val (.ref b3), .val (.ref b7), .val (.ref b17), .val (.ref b27), .val (.ref b49), .val (.int he), .val (.int (own_full he mo)), .val (.int (1 : Int32)), .val (.int (0 : Int32))] [(.int (1 : Int32))]))
          refine own_Fin.step (fun _ => XS.goto X86.here hx rfl (pc0 := 422) (pc' := 426) rfl (hb hby at_422) (by decide) (by decide)) ?_
          show own_Fin p e below s _ _ _ (T86.setTop (mkF m 426 #[.val (.int p1), .val (.int p2), .val (.int p3), .val (.int p4), .val (.int p5), .val (.int p6), .val (.int mo), .val (.ref b3), .val (.ref b7), .val (.ref b17), .val (.ref b27), .val (.ref b49), .val (.int he), .val (.int (own_full he mo)), .val (.int (1 : Int32)), .val (.int (0 : Int32))] [(.int (1 : Int32))]))
          refine own_Fin.step (fun _ => XS.istore X86.here hx rfl (hb hby at_426) rfl (l' := #[.val (.int p1), .val (.int p2), .val (.int p3), .val (.int p4), .val (.int p5), .val (.int p6), .val (.int mo), .val (.ref b3), .val (.ref b7), .val (.ref b17), .val (.ref b27), .val (.ref b49), .val (.int he), .val (.int (own_full he mo)), .val (.int (1 : Int32)), .val (.int (0 : Int32))]) rfl) ?_
          exact j428 _ _ _ _ _ _ X86 N86 e86 Z75 (One.val rfl) ⟨jr.1, by omega⟩ jm A75 Fs75 Fm75 Fh75' V75 f81 f82 f83 f84 few75
        ·
          refine own_Fin.step (fun _ => XS.icmpYes X86.here hx rfl (pc0 := 410) (pc' := 417) rfl (hb hby at_410) rfl (XT.ii_ne_t hc410_87) (by decide) (by decide)) ?_
          show own_Fin p e below s _ _ _ (T86.setTop (mkF m 417 #[.val (.int p1), .val (.int p2), .val (.int p3), .val (.int p4), .val (.int p5), .val (.int p6), .val (.int mo), .val (.ref b3), .val (.ref b7), .val (.ref b17), .val (.ref b27), .val (.ref b49), .val (.int he), .val (.int (own_full he mo)), .val (.int (1 : Int32)), .val (.int (0 : Int32))] [(.int (own_full he mo))]))
          refine own_Fin.step (fun _ => XS.iconst X86.here hx rfl (hb hby at_417)) ?_
          show own_Fin p e below s _ _ _ (T86.setTop (mkF m 418 #[.val (.int p1), .val (.int p2), .val (.int p3), .val (.int p4), .val (.int p5), .val (.int p6), .val (.int mo), .val (.ref b3), .val (.ref b7), .val (.ref b17), .val (.ref b27), .val (.ref b49), .val (.int he), .val (.int (own_full he mo)), .val (.int (1 : Int32)), .val (.int (0 : Int32))] [(.int (0 : Int32)), (.int (own_full he mo))]))
          refine own_Fin.step (fun _ => XS.icmpNo X86.here hx rfl (hb hby at_418) rfl (XT.ii_ne_f (if_neg hc410_87))) ?_
          show own_Fin p e below s _ _ _ (T86.setTop (mkF m 421 #[.val (.int p1), .val (.int p2), .val (.int p3), .val (.int p4), .val (.int p5), .val (.int p6), .val (.int mo), .val (.ref b3), .val (.ref b7), .val (.ref b17), .val (.ref b27), .val (.ref b49), .val (.int he), .val (.int (own_full he mo)), .val (.int (1 : Int32)), .val (.int (0 : Int32))] []))
          refine own_Fin.step (fun _ => XS.iconst X86.here hx rfl (hb hby at_421)) ?_
          show own_Fin p e below s _ _ _ (T86.setTop (mkF m 422 #[.val (.int p1), .val (.int p2), .val (.int p3), .val (.int p4), .val (.int p5), .val (.int p6), .val (.int mo), .val (.ref b3), .val (.ref b7), .val (.ref b17), .val (.ref b27), .val (.ref b49), .val (.int he), .val (.int (own_full he mo)), .val (.int (1 : Int32)), .val (.int (0 : Int32))] [(.int (1 : Int32))]))
          refine own_Fin.step (fun _ => XS.goto X86.here hx rfl (pc0 := 422) (pc' := 426) rfl (hb hby at_422) (by decide) (by decide)) ?_
          show own_Fin p e below s _ _ _ (T86.setTop (mkF m 426 #[.val (.int p1), .val (.int p2), .val (.int p3), .val (.int p4), .val (.int p5), .val (.int p6), .val (.int mo), .val (.ref b3), .val (.ref b7), .val (.ref b17), .val (.ref b27), .val (.ref b49), .val (.int he), .val (.int (own_full he mo)), .val (.int (1 : Int32)), .val (.int (0 : Int32))] [(.int (1 : Int32))]))
          refine own_Fin.step (fun _ => XS.istore X86.here hx rfl (hb hby at_426) rfl (l' := #[.val (.int p1), .val (.int p2), .val (.int p3), .val (.int p4), .val (.int p5), .val (.int p6), .val (.int mo), .val (.ref b3), .val (.ref b7), .val (.ref b17), .val (.ref b27), .val (.ref b49), .val (.int he), .val (.int (own_full he mo)), .val (.int (1 : Int32)), .val (.int (0 : Int32))]) rfl) ?_
          exact j428 _ _ _ _ _ _ X86 N86 e86 Z75 (One.val rfl) ⟨jr.1, by omega⟩ jm A75 Fs75 Fm75 Fh75' V75 f81 f82 f83 f84 few75
      ·
        refine own_Fin.step (fun _ => XS.ifNo X75.here hx rfl (hb hby at_369) rfl (XT.i0_eq_f hc369_85)) ?_
        show own_Fin p e below s _ _ _ (T75.setTop (mkF m 372 #[.val (.int p1), .val (.int p2), .val (.int p3), .val (.int p4), .val (.int p5), .val (.int p6), .val (.int mo), .val (.ref b3), .val (.ref b7), .val (.ref b17), .val (.ref b27), .val (.ref b49), .val (.int he), .val (.int (own_full he mo)), .val (.int (1 : Int32)), .val (.int (0 : Int32))] []))
        refine own_Fin.step (fun _ => XS.iload X75.here hx rfl (hb hby at_372) rfl) ?_
        show own_Fin p e below s _ _ _ (T75.setTop (mkF m 374 #[.val (.int p1), .val (.int p2), .val (.int p3), .val (.int p4), .val (.int p5), .val (.int p6), .val (.int mo), .val (.ref b3), .val (.ref b7), .val (.ref b17), .val (.ref b27), .val (.ref b49), .val (.int he), .val (.int (own_full he mo)), .val (.int (1 : Int32)), .val (.int (0 : Int32))] [(.int (0 : Int32))]))
        refine own_Fin.step (fun _ => XS.ifNo X75.here hx rfl (hb hby at_374) rfl (XT.i0_ne_f (by decide : (0 : Int32) = (0 : Int32)))) ?_
        show own_Fin p e below s _ _ _ (T75.setTop (mkF m 377 #[.val (.int p1), .val (.int p2), .val (.int p3), .val (.int p4), .val (.int p5), .val (.int p6), .val (.int mo), .val (.ref b3), .val (.ref b7), .val (.ref b17), .val (.ref b27), .val (.ref b49), .val (.int he), .val (.int (own_full he mo)), .val (.int (1 : Int32)), .val (.int (0 : Int32))] []))
        refine own_Fin.step (fun _ => XS.iconst X75.here hx rfl (hb hby at_377)) ?_
        show own_Fin p e below s _ _ _ (T75.setTop (mkF m 378 #[.val (.int p1), .val (.int p2), .val (.int p3), .val (.int p4), .val (.int p5), .val (.int p6), .val (.int mo), .val (.ref b3), .val (.ref b7), .val (.ref b17), .val (.ref b27), .val (.ref b49), .val (.int he), .val (.int (own_full he mo)), .val (.int (1 : Int32)), .val (.int (0 : Int32))] [(.int (1 : Int32))]))
        refine own_Fin.step (fun _ => XS.goto X75.here hx rfl (pc0 := 378) (pc' := 382) rfl (hb hby at_378) (by decide) (by decide)) ?_
        show own_Fin p e below s _ _ _ (T75.setTop (mkF m 382 #[.val (.int p1), .val (.int p2), .val (.int p3), .val (.int p4), .val (.int p5), .val (.int p6), .val (.int mo), .val (.ref b3), .val (.ref b7), .val (.ref b17), .val (.ref b27), .val (.ref b49), .val (.int he), .val (.int (own_full he mo)), .val (.int (1 : Int32)), .val (.int (0 : Int32))] [(.int (1 : Int32))]))
        refine own_Fin.step (fun _ => XS.istore X75.here hx rfl (hb hby at_382) rfl (l' := #[.val (.int p1), .val (.int p2), .val (.int p3), .val (.int p4), .val (.int p5), .val (.int p6), .val (.int mo), .val (.ref b3), .val (.ref b7), .val (.ref b17), .val (.ref b27), .val (.ref b49), .val (.int he), .val (.int (own_full he mo)), .val (.int (1 : Int32)), .val (.int (0 : Int32))]) rfl) ?_
        show own_Fin p e below s _ _ _ (T75.setTop (mkF m 384 #[.val (.int p1), .val (.int p2), .val (.int p3), .val (.int p4), .val (.int p5), .val (.int p6), .val (.int mo), .val (.ref b3), .val (.ref b7), .val (.ref b17), .val (.ref b27), .val (.ref b49), .val (.int he), .val (.int (own_full he mo)), .val (.int (1 : Int32)), .val (.int (0 : Int32))] []))
        refine own_Fin.step (fun _ => XS.iload X75.here hx rfl (hb hby at_384) rfl) ?_
        show own_Fin p e below s _ _ _ (T75.setTop (mkF m 386 #[.val (.int p1), .val (.int p2), .val (.int p3), .val (.int p4), .val (.int p5), .val (.int p6), .val (.int mo), .val (.ref b3), .val (.ref b7), .val (.ref b17), .val (.ref b27), .val (.ref b49), .val (.int he), .val (.int (own_full he mo)), .val (.int (1 : Int32)), .val (.int (0 : Int32))] [(.int (0 : Int32))]))
        refine own_Fin.step (fun _ => XS.ifYes X75.here hx rfl (pc0 := 386) (pc' := 392) rfl (hb hby at_386) rfl (XT.i0_eq_t (by decide : (0 : Int32) = (0 : Int32))) (by decide) (by decide)) ?_
        show own_Fin p e below s _ _ _ (T75.setTop (mkF m 392 #[.val (.int p1), .val (.int p2), .val (.int p3), .val (.int p4), .val (.int p5), .val (.int p6), .val (.int mo), .val (.ref b3), .val (.ref b7), .val (.ref b17), .val (.ref b27), .val (.ref b49), .val (.int he), .val (.int (own_full he mo)), .val (.int (1 : Int32)), .val (.int (0 : Int32))] []))
        refine own_Fin.step (fun _ => XS.aload X75.here hx rfl (hb hby at_392) rfl rfl) ?_
        show own_Fin p e below s _ _ _ (T75.setTop (mkF m 394 #[.val (.int p1), .val (.int p2), .val (.int p3), .val (.int p4), .val (.int p5), .val (.int p6), .val (.int mo), .val (.ref b3), .val (.ref b7), .val (.ref b17), .val (.ref b27), .val (.ref b49), .val (.int he), .val (.int (own_full he mo)), .val (.int (1 : Int32)), .val (.int (0 : Int32))] [(.ref b49)]))
        obtain ⟨_, T88, L88, X88, ⟨rfl, N88q, e88⟩, st88⟩ := own_callV X75 hx hZ hown (own_w hw 16 rfl) (own_w hw 17 rfl) (own_w hw 19 rfl) (own_w hw 18 rfl) (own_w hw 3 rfl) (own_w hw 20 rfl) (by decide) (rm2 l Z a0 hw b49 he mo T75.heap n0 Z75 Fh75' Fm75) (by decide) (by decide) A75 rfl (W := 0) (g := (mkF m 394 #[.val (.int p1), .val (.int p2), .val (.int p3), .val (.int p4), .val (.int p5), .val (.int p6), .val (.int mo), .val (.ref b3), .val (.ref b7), .val (.ref b17), .val (.ref b27), .val (.ref b49), .val (.int he), .val (.int (own_full he mo)), .val (.int (1 : Int32)), .val (.int (0 : Int32))] [(.ref b49)])) rfl (by rw [hml]; rfl) (argsL := []) (rest := []) (lenOf pd_5 rfl) rfl rfl (by show 2 * 0 + _ ≤ _; exact Nat.le_of_eq rfl) (hb hby at_394) (by decide) (by decide)
        have N88 := Fr.app N75 N88q
        refine own_Fin.step st88 ?_
        show own_Fin p e below s _ _ _ (T88.setTop (mkF m 397 #[.val (.int p1), .val (.int p2), .val (.int p3), .val (.int p4), .val (.int p5), .val (.int p6), .val (.int mo), .val (.ref b3), .val (.ref b7), .val (.ref b17), .val (.ref b27), .val (.ref b49), .val (.int he), .val (.int (own_full he mo)), .val (.int (1 : Int32)), .val (.int (0 : Int32))] [(.int (own_full he mo))]))
        refine own_Fin.step (fun _ => XS.istore X88.here hx rfl (hb hby at_397) rfl (l' := #[.val (.int p1), .val (.int p2), .val (.int p3), .val (.int p4), .val (.int p5), .val (.int p6), .val (.int mo), .val (.ref b3), .val (.ref b7), .val (.ref b17), .val (.ref b27), .val (.ref b49), .val (.int he), .val (.int (own_full he mo)), .val (.int (1 : Int32)), .val (.int (0 : Int32))]) rfl) ?_
        show own_Fin p e below s _ _ _ (T88.setTop (mkF m 399 #[.val (.int p1), .val (.int p2), .val (.int p3), .val (.int p4), .val (.int p5), .val (.int p6), .val (.int mo), .val (.ref b3), .val (.ref b7), .val (.ref b17), .val (.ref b27), .val (.ref b49), .val (.int he), .val (.int (own_full he mo)), .val (.int (1 : Int32)), .val (.int (0 : Int32))] []))
        refine own_Fin.step (fun _ => XS.iload X88.here hx rfl (hb hby at_399) rfl) ?_
        show own_Fin p e below s _ _ _ (T88.setTop (mkF m 401 #[.val (.int p1), .val (.int p2), .val (.int p3), .val (.int p4), .val (.int p5), .val (.int p6), .val (.int mo), .val (.ref b3), .val (.ref b7), .val (.ref b17), .val (.ref b27), .val (.ref b49), .val (.int he), .val (.int (own_full he mo)), .val (.int (1 : Int32)), .val (.int (0 : Int32))] [(.int (1 : Int32))]))
        refine own_Fin.step (fun _ => XS.ifNo X88.here hx rfl (hb hby at_401) rfl (XT.i0_eq_f (by decide : ¬ ((1 : Int32) = (0 : Int32))))) ?_
        show own_Fin p e below s _ _ _ (T88.setTop (mkF m 404 #[.val (.int p1), .val (.int p2), .val (.int p3), .val (.int p4), .val (.int p5), .val (.int p6), .val (.int mo), .val (.ref b3), .val (.ref b7), .val (.ref b17), .val (.ref b27), .val (.ref b49), .val (.int he), .val (.int (own_full he mo)), .val (.int (1 : Int32)), .val (.int (0 : Int32))] []))
        refine own_Fin.step (fun _ => XS.iload X88.here hx rfl (hb hby at_404) rfl) ?_
        show own_Fin p e below s _ _ _ (T88.setTop (mkF m 406 #[.val (.int p1), .val (.int p2), .val (.int p3), .val (.int p4), .val (.int p5), .val (.int p6), .val (.int mo), .val (.ref b3), .val (.ref b7), .val (.ref b17), .val (.ref b27), .val (.ref b49), .val (.int he), .val (.int (own_full he mo)), .val (.int (1 : Int32)), .val (.int (0 : Int32))] [(.int (own_full he mo))]))
        refine own_Fin.step (fun _ => XS.iload X88.here hx rfl (hb hby at_406) rfl) ?_
        show own_Fin p e below s _ _ _ (T88.setTop (mkF m 408 #[.val (.int p1), .val (.int p2), .val (.int p3), .val (.int p4), .val (.int p5), .val (.int p6), .val (.int mo), .val (.ref b3), .val (.ref b7), .val (.ref b17), .val (.ref b27), .val (.ref b49), .val (.int he), .val (.int (own_full he mo)), .val (.int (1 : Int32)), .val (.int (0 : Int32))] [(.int he), (.int (own_full he mo))]))
        refine own_Fin.step (fun _ => XS.iload X88.here hx rfl (hb hby at_408) rfl) ?_
        show own_Fin p e below s _ _ _ (T88.setTop (mkF m 410 #[.val (.int p1), .val (.int p2), .val (.int p3), .val (.int p4), .val (.int p5), .val (.int p6), .val (.int mo), .val (.ref b3), .val (.ref b7), .val (.ref b17), .val (.ref b27), .val (.ref b49), .val (.int he), .val (.int (own_full he mo)), .val (.int (1 : Int32)), .val (.int (0 : Int32))] [(.int mo), (.int he), (.int (own_full he mo))]))
        by_cases hc410_89 : he = mo
        ·
          refine own_Fin.step (fun _ => XS.icmpNo X88.here hx rfl (hb hby at_410) rfl (XT.ii_ne_f hc410_89)) ?_
          show own_Fin p e below s _ _ _ (T88.setTop (mkF m 413 #[.val (.int p1), .val (.int p2), .val (.int p3), .val (.int p4), .val (.int p5), .val (.int p6), .val (.int mo), .val (.ref b3), .val (.ref b7), .val (.ref b17), .val (.ref b27), .val (.ref b49), .val (.int he), .val (.int (own_full he mo)), .val (.int (1 : Int32)), .val (.int (0 : Int32))] [(.int (own_full he mo))]))
          refine own_Fin.step (fun _ => XS.iconst X88.here hx rfl (hb hby at_413)) ?_
          show own_Fin p e below s _ _ _ (T88.setTop (mkF m 414 #[.val (.int p1), .val (.int p2), .val (.int p3), .val (.int p4), .val (.int p5), .val (.int p6), .val (.int mo), .val (.ref b3), .val (.ref b7), .val (.ref b17), .val (.ref b27), .val (.ref b49), .val (.int he), .val (.int (own_full he mo)), .val (.int (1 : Int32)), .val (.int (0 : Int32))] [(.int (1 : Int32)), (.int (own_full he mo))]))
          refine own_Fin.step (fun _ => XS.goto X88.here hx rfl (pc0 := 414) (pc' := 418) rfl (hb hby at_414) (by decide) (by decide)) ?_
          show own_Fin p e below s _ _ _ (T88.setTop (mkF m 418 #[.val (.int p1), .val (.int p2), .val (.int p3), .val (.int p4), .val (.int p5), .val (.int p6), .val (.int mo), .val (.ref b3), .val (.ref b7), .val (.ref b17), .val (.ref b27), .val (.ref b49), .val (.int he), .val (.int (own_full he mo)), .val (.int (1 : Int32)), .val (.int (0 : Int32))] [(.int (1 : Int32)), (.int (own_full he mo))]))
          refine own_Fin.step (fun _ => XS.icmpNo X88.here hx rfl (hb hby at_418) rfl (XT.ii_ne_f (if_pos hc410_89))) ?_
          show own_Fin p e below s _ _ _ (T88.setTop (mkF m 421 #[.val (.int p1), .val (.int p2), .val (.int p3), .val (.int p4), .val (.int p5), .val (.int p6), .val (.int mo), .val (.ref b3), .val (.ref b7), .val (.ref b17), .val (.ref b27), .val (.ref b49), .val (.int he), .val (.int (own_full he mo)), .val (.int (1 : Int32)), .val (.int (0 : Int32))] []))
          refine own_Fin.step (fun _ => XS.iconst X88.here hx rfl (hb hby at_421)) ?_
          show own_Fin p e below s _ _ _ (T88.setTop (mkF m 422 #[.val (.int p1), .val (.int p2), .val (.int p3), .val (.int p4), .val (.int p5), .val (.int p6), .val (.int mo), .val (.ref b3), .val (.ref b7), .val (.ref b17), .val (.ref b27), .val (.ref b49), .val (.int he), .val (.int (own_full he mo)), .val (.int (1 : Int32)), .val (.int (0 : Int32))] [(.int (1 : Int32))]))
          refine own_Fin.step (fun _ => XS.goto X88.here hx rfl (pc0 := 422) (pc' := 426) rfl (hb hby at_422) (by decide) (by decide)) ?_
          show own_Fin p e below s _ _ _ (T88.setTop (mkF m 426 #[.val (.int p1), .val (.int p2), .val (.int p3), .val (.int p4), .val (.int p5), .val (.int p6), .val (.int mo), .val (.ref b3), .val (.ref b7), .val (.ref b17), .val (.ref b27), .val (.ref b49), .val (.int he), .val (.int (own_full he mo)), .val (.int (1 : Int32)), .val (.int (0 : Int32))] [(.int (1 : Int32))]))
          refine own_Fin.step (fun _ => XS.istore X88.here hx rfl (hb hby at_426) rfl (l' := #[.val (.int p1), .val (.int p2), .val (.int p3), .val (.int p4), .val (.int p5), .val (.int p6), .val (.int mo), .val (.ref b3), .val (.ref b7), .val (.ref b17), .val (.ref b27), .val (.ref b49), .val (.int he), .val (.int (own_full he mo)), .val (.int (1 : Int32)), .val (.int (0 : Int32))]) rfl) ?_
          exact j428 _ _ _ _ _ _ X88 N88 e88 Z75 (One.val rfl) ⟨jr.1, by omega⟩ jm A75 Fs75 Fm75 Fh75' V75 f81 f82 f83 f84 few75
        ·
          refine own_Fin.step (fun _ => XS.icmpYes X88.here hx rfl (pc0 := 410) (pc' := 417) rfl (hb hby at_410) rfl (XT.ii_ne_t hc410_89) (by decide) (by decide)) ?_
          show own_Fin p e below s _ _ _ (T88.setTop (mkF m 417 #[.val (.int p1), .val (.int p2), .val (.int p3), .val (.int p4), .val (.int p5), .val (.int p6), .val (.int mo), .val (.ref b3), .val (.ref b7), .val (.ref b17), .val (.ref b27), .val (.ref b49), .val (.int he), .val (.int (own_full he mo)), .val (.int (1 : Int32)), .val (.int (0 : Int32))] [(.int (own_full he mo))]))
          refine own_Fin.step (fun _ => XS.iconst X88.here hx rfl (hb hby at_417)) ?_
          show own_Fin p e below s _ _ _ (T88.setTop (mkF m 418 #[.val (.int p1), .val (.int p2), .val (.int p3), .val (.int p4), .val (.int p5), .val (.int p6), .val (.int mo), .val (.ref b3), .val (.ref b7), .val (.ref b17), .val (.ref b27), .val (.ref b49), .val (.int he), .val (.int (own_full he mo)), .val (.int (1 : Int32)), .val (.int (0 : Int32))] [(.int (0 : Int32)), (.int (own_full he mo))]))
          refine own_Fin.step (fun _ => XS.icmpNo X88.here hx rfl (hb hby at_418) rfl (XT.ii_ne_f (if_neg hc410_89))) ?_
          show own_Fin p e below s _ _ _ (T88.setTop (mkF m 421 #[.val (.int p1), .val (.int p2), .val (.int p3), .val (.int p4), .val (.int p5), .val (.int p6), .val (.int mo), .val (.ref b3), .val (.ref b7), .val (.ref b17), .val (.ref b27), .val (.ref b49), .val (.int he), .val (.int (own_full he mo)), .val (.int (1 : Int32)), .val (.int (0 : Int32))] []))
          refine own_Fin.step (fun _ => XS.iconst X88.here hx rfl (hb hby at_421)) ?_
          show own_Fin p e below s _ _ _ (T88.setTop (mkF m 422 #[.val (.int p1), .val (.int p2), .val (.int p3), .val (.int p4), .val (.int p5), .val (.int p6), .val (.int mo), .val (.ref b3), .val (.ref b7), .val (.ref b17), .val (.ref b27), .val (.ref b49), .val (.int he), .val (.int (own_full he mo)), .val (.int (1 : Int32)), .val (.int (0 : Int32))] [(.int (1 : Int32))]))
          refine own_Fin.step (fun _ => XS.goto X88.here hx rfl (pc0 := 422) (pc' := 426) rfl (hb hby at_422) (by decide) (by decide)) ?_
          show own_Fin p e below s _ _ _ (T88.setTop (mkF m 426 #[.val (.int p1), .val (.int p2), .val (.int p3), .val (.int p4), .val (.int p5), .val (.int p6), .val (.int mo), .val (.ref b3), .val (.ref b7), .val (.ref b17), .val (.ref b27), .val (.ref b49), .val (.int he), .val (.int (own_full he mo)), .val (.int (1 : Int32)), .val (.int (0 : Int32))] [(.int (1 : Int32))]))
          refine own_Fin.step (fun _ => XS.istore X88.here hx rfl (hb hby at_426) rfl (l' := #[.val (.int p1), .val (.int p2), .val (.int p3), .val (.int p4), .val (.int p5), .val (.int p6), .val (.int mo), .val (.ref b3), .val (.ref b7), .val (.ref b17), .val (.ref b27), .val (.ref b49), .val (.int he), .val (.int (own_full he mo)), .val (.int (1 : Int32)), .val (.int (0 : Int32))]) rfl) ?_
          exact j428 _ _ _ _ _ _ X88 N88 e88 Z75 (One.val rfl) ⟨jr.1, by omega⟩ jm A75 Fs75 Fm75 Fh75' V75 f81 f82 f83 f84 few75
    ·
      show own_Fin p e below s _ _ _ (T75.setTop (mkF m 360 #[.val (.int p1), .val (.int p2), .val (.int p3), .val (.int p4), .val (.int p5), .val (.int p6), .val (.int mo), .val (.ref b3), .val (.ref b7), .val (.ref b17), .val (.ref b27), .val (.ref b49), .val (.int he), .val (.int (own_full he mo)), .val (.int (1 : Int32)), s15] [(.int (1 : Int32))]))
      refine own_Fin.step (fun _ => XS.istore X75.here hx rfl (hb hby at_360) rfl (l' := #[.val (.int p1), .val (.int p2), .val (.int p3), .val (.int p4), .val (.int p5), .val (.int p6), .val (.int mo), .val (.ref b3), .val (.ref b7), .val (.ref b17), .val (.ref b27), .val (.ref b49), .val (.int he), .val (.int (own_full he mo)), .val (.int (1 : Int32)), .val (.int (1 : Int32))]) (XS.store1 (o := s15) rfl hs15 rfl)) ?_
      show own_Fin p e below s _ _ _ (T75.setTop (mkF m 362 #[.val (.int p1), .val (.int p2), .val (.int p3), .val (.int p4), .val (.int p5), .val (.int p6), .val (.int mo), .val (.ref b3), .val (.ref b7), .val (.ref b17), .val (.ref b27), .val (.ref b49), .val (.int he), .val (.int (own_full he mo)), .val (.int (1 : Int32)), .val (.int (1 : Int32))] []))
      refine own_Fin.step (fun _ => XS.iload X75.here hx rfl (hb hby at_362) rfl) ?_
      show own_Fin p e below s _ _ _ (T75.setTop (mkF m 364 #[.val (.int p1), .val (.int p2), .val (.int p3), .val (.int p4), .val (.int p5), .val (.int p6), .val (.int mo), .val (.ref b3), .val (.ref b7), .val (.ref b17), .val (.ref b27), .val (.ref b49), .val (.int he), .val (.int (own_full he mo)), .val (.int (1 : Int32)), .val (.int (1 : Int32))] [(.int (1 : Int32))]))
      refine own_Fin.step (fun _ => XS.ifNo X75.here hx rfl (hb hby at_364) rfl (XT.i0_eq_f (by decide : ¬ ((1 : Int32) = (0 : Int32))))) ?_
      show own_Fin p e below s _ _ _ (T75.setTop (mkF m 367 #[.val (.int p1), .val (.int p2), .val (.int p3), .val (.int p4), .val (.int p5), .val (.int p6), .val (.int mo), .val (.ref b3), .val (.ref b7), .val (.ref b17), .val (.ref b27), .val (.ref b49), .val (.int he), .val (.int (own_full he mo)), .val (.int (1 : Int32)), .val (.int (1 : Int32))] []))
      refine own_Fin.step (fun _ => XS.iload X75.here hx rfl (hb hby at_367) rfl) ?_
      show own_Fin p e below s _ _ _ (T75.setTop (mkF m 369 #[.val (.int p1), .val (.int p2), .val (.int p3), .val (.int p4), .val (.int p5), .val (.int p6), .val (.int mo), .val (.ref b3), .val (.ref b7), .val (.ref b17), .val (.ref b27), .val (.ref b49), .val (.int he), .val (.int (own_full he mo)), .val (.int (1 : Int32)), .val (.int (1 : Int32))] [(.int (own_full he mo))]))
      refine own_Fin.step (fun _ => XS.ifYes X75.here hx rfl (pc0 := 369) (pc' := 377) rfl (hb hby at_369) rfl (XT.i0_eq_t (own_full_lt hlt)) (by decide) (by decide)) ?_
      show own_Fin p e below s _ _ _ (T75.setTop (mkF m 377 #[.val (.int p1), .val (.int p2), .val (.int p3), .val (.int p4), .val (.int p5), .val (.int p6), .val (.int mo), .val (.ref b3), .val (.ref b7), .val (.ref b17), .val (.ref b27), .val (.ref b49), .val (.int he), .val (.int (own_full he mo)), .val (.int (1 : Int32)), .val (.int (1 : Int32))] []))
      refine own_Fin.step (fun _ => XS.iconst X75.here hx rfl (hb hby at_377)) ?_
      show own_Fin p e below s _ _ _ (T75.setTop (mkF m 378 #[.val (.int p1), .val (.int p2), .val (.int p3), .val (.int p4), .val (.int p5), .val (.int p6), .val (.int mo), .val (.ref b3), .val (.ref b7), .val (.ref b17), .val (.ref b27), .val (.ref b49), .val (.int he), .val (.int (own_full he mo)), .val (.int (1 : Int32)), .val (.int (1 : Int32))] [(.int (1 : Int32))]))
      refine own_Fin.step (fun _ => XS.goto X75.here hx rfl (pc0 := 378) (pc' := 382) rfl (hb hby at_378) (by decide) (by decide)) ?_
      show own_Fin p e below s _ _ _ (T75.setTop (mkF m 382 #[.val (.int p1), .val (.int p2), .val (.int p3), .val (.int p4), .val (.int p5), .val (.int p6), .val (.int mo), .val (.ref b3), .val (.ref b7), .val (.ref b17), .val (.ref b27), .val (.ref b49), .val (.int he), .val (.int (own_full he mo)), .val (.int (1 : Int32)), .val (.int (1 : Int32))] [(.int (1 : Int32))]))
      refine own_Fin.step (fun _ => XS.istore X75.here hx rfl (hb hby at_382) rfl (l' := #[.val (.int p1), .val (.int p2), .val (.int p3), .val (.int p4), .val (.int p5), .val (.int p6), .val (.int mo), .val (.ref b3), .val (.ref b7), .val (.ref b17), .val (.ref b27), .val (.ref b49), .val (.int he), .val (.int (own_full he mo)), .val (.int (1 : Int32)), .val (.int (1 : Int32))]) rfl) ?_
      show own_Fin p e below s _ _ _ (T75.setTop (mkF m 384 #[.val (.int p1), .val (.int p2), .val (.int p3), .val (.int p4), .val (.int p5), .val (.int p6), .val (.int mo), .val (.ref b3), .val (.ref b7), .val (.ref b17), .val (.ref b27), .val (.ref b49), .val (.int he), .val (.int (own_full he mo)), .val (.int (1 : Int32)), .val (.int (1 : Int32))] []))
      refine own_Fin.step (fun _ => XS.iload X75.here hx rfl (hb hby at_384) rfl) ?_
      show own_Fin p e below s _ _ _ (T75.setTop (mkF m 386 #[.val (.int p1), .val (.int p2), .val (.int p3), .val (.int p4), .val (.int p5), .val (.int p6), .val (.int mo), .val (.ref b3), .val (.ref b7), .val (.ref b17), .val (.ref b27), .val (.ref b49), .val (.int he), .val (.int (own_full he mo)), .val (.int (1 : Int32)), .val (.int (1 : Int32))] [(.int (1 : Int32))]))
      refine own_Fin.step (fun _ => XS.ifNo X75.here hx rfl (hb hby at_386) rfl (XT.i0_eq_f (by decide : ¬ ((1 : Int32) = (0 : Int32))))) ?_
      show own_Fin p e below s _ _ _ (T75.setTop (mkF m 389 #[.val (.int p1), .val (.int p2), .val (.int p3), .val (.int p4), .val (.int p5), .val (.int p6), .val (.int mo), .val (.ref b3), .val (.ref b7), .val (.ref b17), .val (.ref b27), .val (.ref b49), .val (.int he), .val (.int (own_full he mo)), .val (.int (1 : Int32)), .val (.int (1 : Int32))] []))
      refine own_Fin.step (fun _ => XS.iinc X75.here hx rfl (hb hby at_389) rfl (l' := #[.val (.int p1), .val (.int p2), .val (.int p3), .val (.int p4), .val (.int p5), .val (.int p6), .val (.int mo), .val (.ref b3), .val (.ref b7), .val (.ref b17), .val (.ref b27), .val (.ref b49), .val (.int (he + (1 : Int32))), .val (.int (own_full he mo)), .val (.int (1 : Int32)), .val (.int (1 : Int32))]) rfl) ?_
      show own_Fin p e below s _ _ _ (T75.setTop (mkF m 392 #[.val (.int p1), .val (.int p2), .val (.int p3), .val (.int p4), .val (.int p5), .val (.int p6), .val (.int mo), .val (.ref b3), .val (.ref b7), .val (.ref b17), .val (.ref b27), .val (.ref b49), .val (.int (he + (1 : Int32))), .val (.int (own_full he mo)), .val (.int (1 : Int32)), .val (.int (1 : Int32))] []))
      refine own_Fin.step (fun _ => XS.aload X75.here hx rfl (hb hby at_392) rfl rfl) ?_
      show own_Fin p e below s _ _ _ (T75.setTop (mkF m 394 #[.val (.int p1), .val (.int p2), .val (.int p3), .val (.int p4), .val (.int p5), .val (.int p6), .val (.int mo), .val (.ref b3), .val (.ref b7), .val (.ref b17), .val (.ref b27), .val (.ref b49), .val (.int (he + (1 : Int32))), .val (.int (own_full he mo)), .val (.int (1 : Int32)), .val (.int (1 : Int32))] [(.ref b49)]))
      obtain ⟨_, T90, L90, X90, ⟨rfl, N90q, e90⟩, st90⟩ := own_callV X75 hx hZ hown (own_w hw 16 rfl) (own_w hw 17 rfl) (own_w hw 19 rfl) (own_w hw 18 rfl) (own_w hw 3 rfl) (own_w hw 20 rfl) (by decide) (rm2 l Z a0 hw b49 (he + (1 : Int32)) mo T75.heap n0 Z75 Fh75 Fm75) (by decide) (by decide) A75 rfl (W := 0) (g := (mkF m 394 #[.val (.int p1), .val (.int p2), .val (.int p3), .val (.int p4), .val (.int p5), .val (.int p6), .val (.int mo), .val (.ref b3), .val (.ref b7), .val (.ref b17), .val (.ref b27), .val (.ref b49), .val (.int (he + (1 : Int32))), .val (.int (own_full he mo)), .val (.int (1 : Int32)), .val (.int (1 : Int32))] [(.ref b49)])) rfl (by rw [hml]; rfl) (argsL := []) (rest := []) (lenOf pd_5 rfl) rfl rfl (by show 2 * 0 + _ ≤ _; exact Nat.le_of_eq rfl) (hb hby at_394) (by decide) (by decide)
      have N90 := Fr.app N75 N90q
      refine own_Fin.step st90 ?_
      show own_Fin p e below s _ _ _ (T90.setTop (mkF m 397 #[.val (.int p1), .val (.int p2), .val (.int p3), .val (.int p4), .val (.int p5), .val (.int p6), .val (.int mo), .val (.ref b3), .val (.ref b7), .val (.ref b17), .val (.ref b27), .val (.ref b49), .val (.int (he + (1 : Int32))), .val (.int (own_full he mo)), .val (.int (1 : Int32)), .val (.int (1 : Int32))] [(.int (own_full (he + (1 : Int32)) mo))]))
      refine own_Fin.step (fun _ => XS.istore X90.here hx rfl (hb hby at_397) rfl (l' := #[.val (.int p1), .val (.int p2), .val (.int p3), .val (.int p4), .val (.int p5), .val (.int p6), .val (.int mo), .val (.ref b3), .val (.ref b7), .val (.ref b17), .val (.ref b27), .val (.ref b49), .val (.int (he + (1 : Int32))), .val (.int (own_full (he + (1 : Int32)) mo)), .val (.int (1 : Int32)), .val (.int (1 : Int32))]) rfl) ?_
      show own_Fin p e below s _ _ _ (T90.setTop (mkF m 399 #[.val (.int p1), .val (.int p2), .val (.int p3), .val (.int p4), .val (.int p5), .val (.int p6), .val (.int mo), .val (.ref b3), .val (.ref b7), .val (.ref b17), .val (.ref b27), .val (.ref b49), .val (.int (he + (1 : Int32))), .val (.int (own_full (he + (1 : Int32)) mo)), .val (.int (1 : Int32)), .val (.int (1 : Int32))] []))
      refine own_Fin.step (fun _ => XS.iload X90.here hx rfl (hb hby at_399) rfl) ?_
      show own_Fin p e below s _ _ _ (T90.setTop (mkF m 401 #[.val (.int p1), .val (.int p2), .val (.int p3), .val (.int p4), .val (.int p5), .val (.int p6), .val (.int mo), .val (.ref b3), .val (.ref b7), .val (.ref b17), .val (.ref b27), .val (.ref b49), .val (.int (he + (1 : Int32))), .val (.int (own_full (he + (1 : Int32)) mo)), .val (.int (1 : Int32)), .val (.int (1 : Int32))] [(.int (1 : Int32))]))
      refine own_Fin.step (fun _ => XS.ifNo X90.here hx rfl (hb hby at_401) rfl (XT.i0_eq_f (by decide : ¬ ((1 : Int32) = (0 : Int32))))) ?_
      show own_Fin p e below s _ _ _ (T90.setTop (mkF m 404 #[.val (.int p1), .val (.int p2), .val (.int p3), .val (.int p4), .val (.int p5), .val (.int p6), .val (.int mo), .val (.ref b3), .val (.ref b7), .val (.ref b17), .val (.ref b27), .val (.ref b49), .val (.int (he + (1 : Int32))), .val (.int (own_full (he + (1 : Int32)) mo)), .val (.int (1 : Int32)), .val (.int (1 : Int32))] []))
      refine own_Fin.step (fun _ => XS.iload X90.here hx rfl (hb hby at_404) rfl) ?_
      show own_Fin p e below s _ _ _ (T90.setTop (mkF m 406 #[.val (.int p1), .val (.int p2), .val (.int p3), .val (.int p4), .val (.int p5), .val (.int p6), .val (.int mo), .val (.ref b3), .val (.ref b7), .val (.ref b17), .val (.ref b27), .val (.ref b49), .val (.int (he + (1 : Int32))), .val (.int (own_full (he + (1 : Int32)) mo)), .val (.int (1 : Int32)), .val (.int (1 : Int32))] [(.int (own_full (he + (1 : Int32)) mo))]))
      refine own_Fin.step (fun _ => XS.iload X90.here hx rfl (hb hby at_406) rfl) ?_
      show own_Fin p e below s _ _ _ (T90.setTop (mkF m 408 #[.val (.int p1), .val (.int p2), .val (.int p3), .val (.int p4), .val (.int p5), .val (.int p6), .val (.int mo), .val (.ref b3), .val (.ref b7), .val (.ref b17), .val (.ref b27), .val (.ref b49), .val (.int (he + (1 : Int32))), .val (.int (own_full (he + (1 : Int32)) mo)), .val (.int (1 : Int32)), .val (.int (1 : Int32))] [(.int (he + (1 : Int32))), (.int (own_full (he + (1 : Int32)) mo))]))
      refine own_Fin.step (fun _ => XS.iload X90.here hx rfl (hb hby at_408) rfl) ?_
      show own_Fin p e below s _ _ _ (T90.setTop (mkF m 410 #[.val (.int p1), .val (.int p2), .val (.int p3), .val (.int p4), .val (.int p5), .val (.int p6), .val (.int mo), .val (.ref b3), .val (.ref b7), .val (.ref b17), .val (.ref b27), .val (.ref b49), .val (.int (he + (1 : Int32))), .val (.int (own_full (he + (1 : Int32)) mo)), .val (.int (1 : Int32)), .val (.int (1 : Int32))] [(.int mo), (.int (he + (1 : Int32))), (.int (own_full (he + (1 : Int32)) mo))]))
      by_cases hc410_91 : (he + (1 : Int32)) = mo
      ·
        refine own_Fin.step (fun _ => XS.icmpNo X90.here hx rfl (hb hby at_410) rfl (XT.ii_ne_f hc410_91)) ?_
        show own_Fin p e below s _ _ _ (T90.setTop (mkF m 413 #[.val (.int p1), .val (.int p2), .val (.int p3), .val (.int p4), .val (.int p5), .val (.int p6), .val (.int mo), .val (.ref b3), .val (.ref b7), .val (.ref b17), .val (.ref b27), .val (.ref b49), .val (.int (he + (1 : Int32))), .val (.int (own_full (he + (1 : Int32)) mo)), .val (.int (1 : Int32)), .val (.int (1 : Int32))] [(.int (own_full (he + (1 : Int32)) mo))]))
        refine own_Fin.step (fun _ => XS.iconst X90.here hx rfl (hb hby at_413)) ?_
        show own_Fin p e below s _ _ _ (T90.setTop (mkF m 414 #[.val (.int p1), .val (.int p2), .val (.int p3), .val (.int p4), .val (.int p5), .val (.int p6), .val (.int mo), .val (.ref b3), .val (.ref b7), .val (.ref b17), .val (.ref b27), .val (.ref b49), .val (.int (he + (1 : Int32))), .val (.int (own_full (he + (1 : Int32)) mo)), .val (.int (1 : Int32)), .val (.int (1 : Int32))] [(.int (1 : Int32)), (.int (own_full (he + (1 : Int32)) mo))]))
        refine own_Fin.step (fun _ => XS.goto X90.here hx rfl (pc0 := 414) (pc' := 418) rfl (hb hby at_414) (by decide) (by decide)) ?_
        show own_Fin p e below s _ _ _ (T90.setTop (mkF m 418 #[.val (.int p1), .val (.int p2), .val (.int p3), .val (.int p4), .val (.int p5), .val (.int p6), .val (.int mo), .val (.ref b3), .val (.ref b7), .val (.ref b17), .val (.ref b27), .val (.ref b49), .val (.int (he + (1 : Int32))), .val (.int (own_full (he + (1 : Int32)) mo)), .val (.int (1 : Int32)), .val (.int (1 : Int32))] [(.int (1 : Int32)), (.int (own_full (he + (1 : Int32)) mo))]))
        refine own_Fin.step (fun _ => XS.icmpNo X90.here hx rfl (hb hby at_418) rfl (XT.ii_ne_f (if_pos hc410_91))) ?_
        show own_Fin p e below s _ _ _ (T90.setTop (mkF m 421 #[.val (.int p1), .val (.int p2), .val (.int p3), .val (.int p4), .val (.int p5), .val (.int p6), .val (.int mo), .val (.ref b3), .val (.ref b7), .val (.ref b17), .val (.ref b27), .val (.ref b49), .val (.int (he + (1 : Int32))), .val (.int (own_full (he + (1 : Int32)) mo)), .val (.int (1 : Int32)), .val (.int (1 : Int32))] []))
        refine own_Fin.step (fun _ => XS.iconst X90.here hx rfl (hb hby at_421)) ?_
        show own_Fin p e below s _ _ _ (T90.setTop (mkF m 422 #[.val (.int p1), .val (.int p2), .val (.int p3), .val (.int p4), .val (.int p5), .val (.int p6), .val (.int mo), .val (.ref b3), .val (.ref b7), .val (.ref b17), .val (.ref b27), .val (.ref b49), .val (.int (he + (1 : Int32))), .val (.int (own_full (he + (1 : Int32)) mo)), .val (.int (1 : Int32)), .val (.int (1 : Int32))] [(.int (1 : Int32))]))
        refine own_Fin.step (fun _ => XS.goto X90.here hx rfl (pc0 := 422) (pc' := 426) rfl (hb hby at_422) (by decide) (by decide)) ?_
        show own_Fin p e below s _ _ _ (T90.setTop (mkF m 426 #[.val (.int p1), .val (.int p2), .val (.int p3), .val (.int p4), .val (.int p5), .val (.int p6), .val (.int mo), .val (.ref b3), .val (.ref b7), .val (.ref b17), .val (.ref b27), .val (.ref b49), .val (.int (he + (1 : Int32))), .val (.int (own_full (he + (1 : Int32)) mo)), .val (.int (1 : Int32)), .val (.int (1 : Int32))] [(.int (1 : Int32))]))
        refine own_Fin.step (fun _ => XS.istore X90.here hx rfl (hb hby at_426) rfl (l' := #[.val (.int p1), .val (.int p2), .val (.int p3), .val (.int p4), .val (.int p5), .val (.int p6), .val (.int mo), .val (.ref b3), .val (.ref b7), .val (.ref b17), .val (.ref b27), .val (.ref b49), .val (.int (he + (1 : Int32))), .val (.int (own_full (he + (1 : Int32)) mo)), .val (.int (1 : Int32)), .val (.int (1 : Int32))]) rfl) ?_
        exact j428 _ _ _ _ _ _ X90 N90 e90 Z75 (One.val rfl) (own_inc jr (by decide)) (Or.inr (own_lt_le hlt)) A75 Fs75 Fm75 Fh75 V75 f81 f82 f83 f84 few75
      ·
        refine own_Fin.step (fun _ => XS.icmpYes X90.here hx rfl (pc0 := 410) (pc' := 417) rfl (hb hby at_410) rfl (XT.ii_ne_t hc410_91) (by decide) (by decide)) ?_
        show own_Fin p e below s _ _ _ (T90.setTop (mkF m 417 #[.val (.int p1), .val (.int p2), .val (.int p3), .val (.int p4), .val (.int p5), .val (.int p6), .val (.int mo), .val (.ref b3), .val (.ref b7), .val (.ref b17), .val (.ref b27), .val (.ref b49), .val (.int (he + (1 : Int32))), .val (.int (own_full (he + (1 : Int32)) mo)), .val (.int (1 : Int32)), .val (.int (1 : Int32))] [(.int (own_full (he + (1 : Int32)) mo))]))
        refine own_Fin.step (fun _ => XS.iconst X90.here hx rfl (hb hby at_417)) ?_
        show own_Fin p e below s _ _ _ (T90.setTop (mkF m 418 #[.val (.int p1), .val (.int p2), .val (.int p3), .val (.int p4), .val (.int p5), .val (.int p6), .val (.int mo), .val (.ref b3), .val (.ref b7), .val (.ref b17), .val (.ref b27), .val (.ref b49), .val (.int (he + (1 : Int32))), .val (.int (own_full (he + (1 : Int32)) mo)), .val (.int (1 : Int32)), .val (.int (1 : Int32))] [(.int (0 : Int32)), (.int (own_full (he + (1 : Int32)) mo))]))
        refine own_Fin.step (fun _ => XS.icmpNo X90.here hx rfl (hb hby at_418) rfl (XT.ii_ne_f (if_neg hc410_91))) ?_
        show own_Fin p e below s _ _ _ (T90.setTop (mkF m 421 #[.val (.int p1), .val (.int p2), .val (.int p3), .val (.int p4), .val (.int p5), .val (.int p6), .val (.int mo), .val (.ref b3), .val (.ref b7), .val (.ref b17), .val (.ref b27), .val (.ref b49), .val (.int (he + (1 : Int32))), .val (.int (own_full (he + (1 : Int32)) mo)), .val (.int (1 : Int32)), .val (.int (1 : Int32))] []))
        refine own_Fin.step (fun _ => XS.iconst X90.here hx rfl (hb hby at_421)) ?_
        show own_Fin p e below s _ _ _ (T90.setTop (mkF m 422 #[.val (.int p1), .val (.int p2), .val (.int p3), .val (.int p4), .val (.int p5), .val (.int p6), .val (.int mo), .val (.ref b3), .val (.ref b7), .val (.ref b17), .val (.ref b27), .val (.ref b49), .val (.int (he + (1 : Int32))), .val (.int (own_full (he + (1 : Int32)) mo)), .val (.int (1 : Int32)), .val (.int (1 : Int32))] [(.int (1 : Int32))]))
        refine own_Fin.step (fun _ => XS.goto X90.here hx rfl (pc0 := 422) (pc' := 426) rfl (hb hby at_422) (by decide) (by decide)) ?_
        show own_Fin p e below s _ _ _ (T90.setTop (mkF m 426 #[.val (.int p1), .val (.int p2), .val (.int p3), .val (.int p4), .val (.int p5), .val (.int p6), .val (.int mo), .val (.ref b3), .val (.ref b7), .val (.ref b17), .val (.ref b27), .val (.ref b49), .val (.int (he + (1 : Int32))), .val (.int (own_full (he + (1 : Int32)) mo)), .val (.int (1 : Int32)), .val (.int (1 : Int32))] [(.int (1 : Int32))]))
        refine own_Fin.step (fun _ => XS.istore X90.here hx rfl (hb hby at_426) rfl (l' := #[.val (.int p1), .val (.int p2), .val (.int p3), .val (.int p4), .val (.int p5), .val (.int p6), .val (.int mo), .val (.ref b3), .val (.ref b7), .val (.ref b17), .val (.ref b27), .val (.ref b49), .val (.int (he + (1 : Int32))), .val (.int (own_full (he + (1 : Int32)) mo)), .val (.int (1 : Int32)), .val (.int (1 : Int32))]) rfl) ?_
        exact j428 _ _ _ _ _ _ X90 N90 e90 Z75 (One.val rfl) (own_inc jr (by decide)) (Or.inr (own_lt_le hlt)) A75 Fs75 Fm75 Fh75 V75 f81 f82 f83 f84 few75
  have j274 : ∀ (TJ : State) (hJ : Heap) (LJ : List Loc) (he : Int32) (f : Nat → Int32) (s15 : Slot), Stand p l e room_1 s m #[(.int p1), (.int p2), (.int p3), (.int p4), (.int p5), (.int p6)] below meth c TJ LJ 6 65545 → Fr n0 LJ → TJ.heap = hJ → n0 ≤ hJ.size → One s15 → (0 ≤ he.toInt ∧ he.toInt ≤ 2) → (he = 0 ∨ ¬ mo < he) → (Exa Z hJ b49 "com/example/meterkeep/meterkeep/store/RecordedIds") → (Fld Z hJ b49 "com/example/meterkeep/meterkeep/store/RecordedIds" "slots" "[I" (.ref bb59)) → (Fld Z hJ b49 "com/example/meterkeep/meterkeep/store/RecordedIds" "most" "I" (.int mo)) → (Fld Z hJ b49 "com/example/meterkeep/meterkeep/store/RecordedIds" "held" "I" (.int he)) → (own_Arf Z hJ bb59 kb59 .int (65536 : Int32) f) → (own_Arf Z hJ b3 k3 .byte (1 : Int32) (fun i => ([(p3.toInt8.toInt32)] : List Int32).getD i 0)) → (own_Arf Z hJ b7 k7 .byte (2 : Int32) (fun i => ([(p4.toInt8.toInt32), (((p4.toUInt32 >>> ((8 : Int32) &&& 31).toUInt32).toInt32).toInt8.toInt32)] : List Int32).getD i 0)) → (own_Arf Z hJ b17 k17 .byte (1 : Int32) (fun i => ([(p5.toInt8.toInt32)] : List Int32).getD i 0)) → (own_Arf Z hJ b27 k27 .byte (2 : Int32) (fun i => ([(p6.toInt8.toInt32), (((p6.toUInt32 >>> ((8 : Int32) &&& 31).toUInt32).toInt32).toInt8.toInt32)] : List Int32).getD i 0)) → own_few f 3 → own_Fin p e below s (own_Q0 n0) room_1.cells room_1.slots (TJ.setTop (mkF m 274 #[.val (.int p1), .val (.int p2), .val (.int p3), .val (.int p4), .val (.int p5), .val (.int p6), .val (.int mo), .val (.ref b3), .val (.ref b7), .val (.ref b17), .val (.ref b27), .val (.ref b49), .val (.int he), .val (.int (own_full he mo)), .val (.int (1 : Int32)), s15] [])) := by
    intro TJ hJ LJ he f s15 XJ NJ eJ ZJ hs15 jr jm jE jFs jFm jFh jV jV0 jV1 jV2 jV3 jfew
    show own_Fin p e below s _ _ _ (TJ.setTop (mkF m 274 #[.val (.int p1), .val (.int p2), .val (.int p3), .val (.int p4), .val (.int p5), .val (.int p6), .val (.int mo), .val (.ref b3), .val (.ref b7), .val (.ref b17), .val (.ref b27), .val (.ref b49), .val (.int he), .val (.int (own_full he mo)), .val (.int (1 : Int32)), s15] []))
    refine own_Fin.step (fun _ => XS.aload XJ.here hx rfl (hb hby at_274) rfl rfl) ?_
    show own_Fin p e below s _ _ _ (TJ.setTop (mkF m 276 #[.val (.int p1), .val (.int p2), .val (.int p3), .val (.int p4), .val (.int p5), .val (.int p6), .val (.int mo), .val (.ref b3), .val (.ref b7), .val (.ref b17), .val (.ref b27), .val (.ref b49), .val (.int he), .val (.int (own_full he mo)), .val (.int (1 : Int32)), s15] [(.ref b49)]))
    refine own_Fin.step (fun _ => XS.aload XJ.here hx rfl (hb hby at_276) rfl rfl) ?_
    show own_Fin p e below s _ _ _ (TJ.setTop (mkF m 278 #[.val (.int p1), .val (.int p2), .val (.int p3), .val (.int p4), .val (.int p5), .val (.int p6), .val (.int mo), .val (.ref b3), .val (.ref b7), .val (.ref b17), .val (.ref b27), .val (.ref b49), .val (.int he), .val (.int (own_full he mo)), .val (.int (1 : Int32)), s15] [(.ref b17), (.ref b49)]))
    refine own_Fin.step (fun _ => XS.iconst XJ.here hx rfl (hb hby at_278)) ?_
    show own_Fin p e below s _ _ _ (TJ.setTop (mkF m 279 #[.val (.int p1), .val (.int p2), .val (.int p3), .val (.int p4), .val (.int p5), .val (.int p6), .val (.int mo), .val (.ref b3), .val (.ref b7), .val (.ref b17), .val (.ref b27), .val (.ref b49), .val (.int he), .val (.int (own_full he mo)), .val (.int (1 : Int32)), s15] [(.int (0 : Int32)), (.ref b17), (.ref b49)]))
    refine own_Fin.step (fun _ => XS.iconst XJ.here hx rfl (hb hby at_279)) ?_
    show own_Fin p e below s _ _ _ (TJ.setTop (mkF m 280 #[.val (.int p1), .val (.int p2), .val (.int p3), .val (.int p4), .val (.int p5), .val (.int p6), .val (.int mo), .val (.ref b3), .val (.ref b7), .val (.ref b17), .val (.ref b27), .val (.ref b49), .val (.int he), .val (.int (own_full he mo)), .val (.int (1 : Int32)), s15] [(.int (1 : Int32)), (.int (0 : Int32)), (.ref b17), (.ref b49)]))
    obtain ⟨_, T92, L92, X92, ⟨bz92, f92', rfl, N92q, K92, hb92, A92, Fs92, Fm92, Fh92, V92, few92⟩, st92⟩ := own_callV XJ hx hZ hown (own_w hw 23 rfl) (own_w hw 24 rfl) (own_w hw 26 rfl) (own_w hw 25 rfl) (own_w hw 3 rfl) (own_w hw 27 rfl) (by decide) (rm6 l Z a0 hw b49 b17 (1 : Int32) bb59 kb59 k17 mo he (1 : Int32) f (fun i => ([(p5.toInt8.toInt32)] : List Int32).getD i 0) 3 hJ n0 ZJ ge54 ge65 ne63 ne60 (Ne.symm ne50) jE jFs jFm jFh jV jV2 (by decide) jfew (by decide) (own_Hh ⟨jr.1, by omega⟩)) (by decide) (by decide) jE eJ (W := 0) (g := (mkF m 280 #[.val (.int p1), .val (.int p2), .val (.int p3), .val (.int p4), .val (.int p5), .val (.int p6), .val (.int mo), .val (.ref b3), .val (.ref b7), .val (.ref b17), .val (.ref b27), .val (.ref b49), .val (.int he), .val (.int (own_full he mo)), .val (.int (1 : Int32)), s15] [(.int (1 : Int32)), (.int (0 : Int32)), (.ref b17), (.ref b49)])) rfl (by rw [hml]; rfl) (argsL := [(.ref b17), (.int (0 : Int32)), (.int (1 : Int32))]) (rest := []) (lenOf pd_4 rfl) rfl rfl (by show 2 * 0 + _ ≤ _; exact Nat.le_of_eq rfl) (hb hby at_280) (by decide) (by decide)
    have N92 := Fr.app NJ N92q
    have f93 := jE.keep K92
    have f98 := jV0.keep K92 (ninS ne52 (ninS ne62 nin0))
    have f99 := jV1.keep K92 (ninS ne53 (ninS ne64 nin0))
    have f100 := jV2.keep K92 (ninS ne50 (ninS ne60 nin0))
    have f101 := jV3.keep K92 (ninS ne51 (ninS ne61 nin0))
    have Z92 : n0 ≤ T92.heap.size := Nat.le_trans ZJ K92.1
    refine own_Fin.step st92 ?_
    show own_Fin p e below s _ _ _ (T92.setTop (mkF m 283 #[.val (.int p1), .val (.int p2), .val (.int p3), .val (.int p4), .val (.int p5), .val (.int p6), .val (.int mo), .val (.ref b3), .val (.ref b7), .val (.ref b17), .val (.ref b27), .val (.ref b49), .val (.int he), .val (.int (own_full he mo)), .val (.int (1 : Int32)), s15] [(.int bz92)]))
    rcases hb92 with rfl | ⟨rfl, hlt⟩
    ·
      have Fh92' := own_sub0 Fh92
      show own_Fin p e below s _ _ _ (T92.setTop (mkF m 283 #[.val (.int p1), .val (.int p2), .val (.int p3), .val (.int p4), .val (.int p5), .val (.int p6), .val (.int mo), .val (.ref b3), .val (.ref b7), .val (.ref b17), .val (.ref b27), .val (.ref b49), .val (.int he), .val (.int (own_full he mo)), .val (.int (1 : Int32)), s15] [(.int (0 : Int32))]))
      refine own_Fin.step (fun _ => XS.istore X92.here hx rfl (hb hby at_283) rfl (l' := #[.val (.int p1), .val (.int p2), .val (.int p3), .val (.int p4), .val (.int p5), .val (.int p6), .val (.int mo), .val (.ref b3), .val (.ref b7), .val (.ref b17), .val (.ref b27), .val (.ref b49), .val (.int he), .val (.int (own_full he mo)), .val (.int (1 : Int32)), .val (.int (0 : Int32))]) (XS.store1 (o := s15) rfl hs15 rfl)) ?_
      show own_Fin p e below s _ _ _ (T92.setTop (mkF m 285 #[.val (.int p1), .val (.int p2), .val (.int p3), .val (.int p4), .val (.int p5), .val (.int p6), .val (.int mo), .val (.ref b3), .val (.ref b7), .val (.ref b17), .val (.ref b27), .val (.ref b49), .val (.int he), .val (.int (own_full he mo)), .val (.int (1 : Int32)), .val (.int (0 : Int32))] []))
      refine own_Fin.step (fun _ => XS.iload X92.here hx rfl (hb hby at_285) rfl) ?_
      show own_Fin p e below s _ _ _ (T92.setTop (mkF m 287 #[.val (.int p1), .val (.int p2), .val (.int p3), .val (.int p4), .val (.int p5), .val (.int p6), .val (.int mo), .val (.ref b3), .val (.ref b7), .val (.ref b17), .val (.ref b27), .val (.ref b49), .val (.int he), .val (.int (own_full he mo)), .val (.int (1 : Int32)), .val (.int (0 : Int32))] [(.int (1 : Int32))]))
      refine own_Fin.step (fun _ => XS.ifNo X92.here hx rfl (hb hby at_287) rfl (XT.i0_eq_f (by decide : ¬ ((1 : Int32) = (0 : Int32))))) ?_
      show own_Fin p e below s _ _ _ (T92.setTop (mkF m 290 #[.val (.int p1), .val (.int p2), .val (.int p3), .val (.int p4), .val (.int p5), .val (.int p6), .val (.int mo), .val (.ref b3), .val (.ref b7), .val (.ref b17), .val (.ref b27), .val (.ref b49), .val (.int he), .val (.int (own_full he mo)), .val (.int (1 : Int32)), .val (.int (0 : Int32))] []))
      refine own_Fin.step (fun _ => XS.iload X92.here hx rfl (hb hby at_290) rfl) ?_
      show own_Fin p e below s _ _ _ (T92.setTop (mkF m 292 #[.val (.int p1), .val (.int p2), .val (.int p3), .val (.int p4), .val (.int p5), .val (.int p6), .val (.int mo), .val (.ref b3), .val (.ref b7), .val (.ref b17), .val (.ref b27), .val (.ref b49), .val (.int he), .val (.int (own_full he mo)), .val (.int (1 : Int32)), .val (.int (0 : Int32))] [(.int (own_full he mo))]))
      by_cases hc292_102 : (own_full he mo) = (0 : Int32)
      ·
        refine own_Fin.step (fun _ => XS.ifYes X92.here hx rfl (pc0 := 292) (pc' := 300) rfl (hb hby at_292) rfl (XT.i0_eq_t hc292_102) (by decide) (by decide)) ?_
        show own_Fin p e below s _ _ _ (T92.setTop (mkF m 300 #[.val (.int p1), .val (.int p2), .val (.int p3), .val (.int p4), .val (.int p5), .val (.int p6), .val (.int mo), .val (.ref b3), .val (.ref b7), .val (.ref b17), .val (.ref b27), .val (.ref b49), .val (.int he), .val (.int (own_full he mo)), .val (.int (1 : Int32)), .val (.int (0 : Int32))] []))
        refine own_Fin.step (fun _ => XS.iconst X92.here hx rfl (hb hby at_300)) ?_
        show own_Fin p e below s _ _ _ (T92.setTop (mkF m 301 #[.val (.int p1), .val (.int p2), .val (.int p3), .val (.int p4), .val (.int p5), .val (.int p6), .val (.int mo), .val (.ref b3), .val (.ref b7), .val (.ref b17), .val (.ref b27), .val (.ref b49), .val (.int he), .val (.int (own_full he mo)), .val (.int (1 : Int32)), .val (.int (0 : Int32))] [(.int (1 : Int32))]))
        refine own_Fin.step (fun _ => XS.goto X92.here hx rfl (pc0 := 301) (pc' := 305) rfl (hb hby at_301) (by decide) (by decide)) ?_
        show own_Fin p e below s _ _ _ (T92.setTop (mkF m 305 #[.val (.int p1), .val (.int p2), .val (.int p3), .val (.int p4), .val (.int p5), .val (.int p6), .val (.int mo), .val (.ref b3), .val (.ref b7), .val (.ref b17), .val (.ref b27), .val (.ref b49), .val (.int he), .val (.int (own_full he mo)), .val (.int (1 : Int32)), .val (.int (0 : Int32))] [(.int (1 : Int32))]))
        refine own_Fin.step (fun _ => XS.istore X92.here hx rfl (hb hby at_305) rfl (l' := #[.val (.int p1), .val (.int p2), .val (.int p3), .val (.int p4), .val (.int p5), .val (.int p6), .val (.int mo), .val (.ref b3), .val (.ref b7), .val (.ref b17), .val (.ref b27), .val (.ref b49), .val (.int he), .val (.int (own_full he mo)), .val (.int (1 : Int32)), .val (.int (0 : Int32))]) rfl) ?_
        show own_Fin p e below s _ _ _ (T92.setTop (mkF m 307 #[.val (.int p1), .val (.int p2), .val (.int p3), .val (.int p4), .val (.int p5), .val (.int p6), .val (.int mo), .val (.ref b3), .val (.ref b7), .val (.ref b17), .val (.ref b27), .val (.ref b49), .val (.int he), .val (.int (own_full he mo)), .val (.int (1 : Int32)), .val (.int (0 : Int32))] []))
        refine own_Fin.step (fun _ => XS.iload X92.here hx rfl (hb hby at_307) rfl) ?_
        show own_Fin p e below s _ _ _ (T92.setTop (mkF m 309 #[.val (.int p1), .val (.int p2), .val (.int p3), .val (.int p4), .val (.int p5), .val (.int p6), .val (.int mo), .val (.ref b3), .val (.ref b7), .val (.ref b17), .val (.ref b27), .val (.ref b49), .val (.int he), .val (.int (own_full he mo)), .val (.int (1 : Int32)), .val (.int (0 : Int32))] [(.int (0 : Int32))]))
        refine own_Fin.step (fun _ => XS.ifYes X92.here hx rfl (pc0 := 309) (pc' := 315) rfl (hb hby at_309) rfl (XT.i0_eq_t (by decide : (0 : Int32) = (0 : Int32))) (by decide) (by decide)) ?_
        show own_Fin p e below s _ _ _ (T92.setTop (mkF m 315 #[.val (.int p1), .val (.int p2), .val (.int p3), .val (.int p4), .val (.int p5), .val (.int p6), .val (.int mo), .val (.ref b3), .val (.ref b7), .val (.ref b17), .val (.ref b27), .val (.ref b49), .val (.int he), .val (.int (own_full he mo)), .val (.int (1 : Int32)), .val (.int (0 : Int32))] []))
        refine own_Fin.step (fun _ => XS.aload X92.here hx rfl (hb hby at_315) rfl rfl) ?_
        show own_Fin p e below s _ _ _ (T92.setTop (mkF m 317 #[.val (.int p1), .val (.int p2), .val (.int p3), .val (.int p4), .val (.int p5), .val (.int p6), .val (.int mo), .val (.ref b3), .val (.ref b7), .val (.ref b17), .val (.ref b27), .val (.ref b49), .val (.int he), .val (.int (own_full he mo)), .val (.int (1 : Int32)), .val (.int (0 : Int32))] [(.ref b49)]))
        obtain ⟨_, T103, L103, X103, ⟨rfl, N103q, e103⟩, st103⟩ := own_callV X92 hx hZ hown (own_w hw 16 rfl) (own_w hw 17 rfl) (own_w hw 19 rfl) (own_w hw 18 rfl) (own_w hw 3 rfl) (own_w hw 20 rfl) (by decide) (rm2 l Z a0 hw b49 he mo T92.heap n0 Z92 Fh92' Fm92) (by decide) (by decide) A92 rfl (W := 0) (g := (mkF m 317 #[.val (.int p1), .val (.int p2), .val (.int p3), .val (.int p4), .val (.int p5), .val (.int p6), .val (.int mo), .val (.ref b3), .val (.ref b7), .val (.ref b17), .val (.ref b27), .val (.ref b49), .val (.int he), .val (.int (own_full he mo)), .val (.int (1 : Int32)), .val (.int (0 : Int32))] [(.ref b49)])) rfl (by rw [hml]; rfl) (argsL := []) (rest := []) (lenOf pd_5 rfl) rfl rfl (by show 2 * 0 + _ ≤ _; exact Nat.le_of_eq rfl) (hb hby at_317) (by decide) (by decide)
        have N103 := Fr.app N92 N103q
        refine own_Fin.step st103 ?_
        show own_Fin p e below s _ _ _ (T103.setTop (mkF m 320 #[.val (.int p1), .val (.int p2), .val (.int p3), .val (.int p4), .val (.int p5), .val (.int p6), .val (.int mo), .val (.ref b3), .val (.ref b7), .val (.ref b17), .val (.ref b27), .val (.ref b49), .val (.int he), .val (.int (own_full he mo)), .val (.int (1 : Int32)), .val (.int (0 : Int32))] [(.int (own_full he mo))]))
        refine own_Fin.step (fun _ => XS.istore X103.here hx rfl (hb hby at_320) rfl (l' := #[.val (.int p1), .val (.int p2), .val (.int p3), .val (.int p4), .val (.int p5), .val (.int p6), .val (.int mo), .val (.ref b3), .val (.ref b7), .val (.ref b17), .val (.ref b27), .val (.ref b49), .val (.int he), .val (.int (own_full he mo)), .val (.int (1 : Int32)), .val (.int (0 : Int32))]) rfl) ?_
        show own_Fin p e below s _ _ _ (T103.setTop (mkF m 322 #[.val (.int p1), .val (.int p2), .val (.int p3), .val (.int p4), .val (.int p5), .val (.int p6), .val (.int mo), .val (.ref b3), .val (.ref b7), .val (.ref b17), .val (.ref b27), .val (.ref b49), .val (.int he), .val (.int (own_full he mo)), .val (.int (1 : Int32)), .val (.int (0 : Int32))] []))
        refine own_Fin.step (fun _ => XS.iload X103.here hx rfl (hb hby at_322) rfl) ?_
        show own_Fin p e below s _ _ _ (T103.setTop (mkF m 324 #[.val (.int p1), .val (.int p2), .val (.int p3), .val (.int p4), .val (.int p5), .val (.int p6), .val (.int mo), .val (.ref b3), .val (.ref b7), .val (.ref b17), .val (.ref b27), .val (.ref b49), .val (.int he), .val (.int (own_full he mo)), .val (.int (1 : Int32)), .val (.int (0 : Int32))] [(.int (1 : Int32))]))
        refine own_Fin.step (fun _ => XS.ifNo X103.here hx rfl (hb hby at_324) rfl (XT.i0_eq_f (by decide : ¬ ((1 : Int32) = (0 : Int32))))) ?_
        show own_Fin p e below s _ _ _ (T103.setTop (mkF m 327 #[.val (.int p1), .val (.int p2), .val (.int p3), .val (.int p4), .val (.int p5), .val (.int p6), .val (.int mo), .val (.ref b3), .val (.ref b7), .val (.ref b17), .val (.ref b27), .val (.ref b49), .val (.int he), .val (.int (own_full he mo)), .val (.int (1 : Int32)), .val (.int (0 : Int32))] []))
        refine own_Fin.step (fun _ => XS.iload X103.here hx rfl (hb hby at_327) rfl) ?_
        show own_Fin p e below s _ _ _ (T103.setTop (mkF m 329 #[.val (.int p1), .val (.int p2), .val (.int p3), .val (.int p4), .val (.int p5), .val (.int p6), .val (.int mo), .val (.ref b3), .val (.ref b7), .val (.ref b17), .val (.ref b27), .val (.ref b49), .val (.int he), .val (.int (own_full he mo)), .val (.int (1 : Int32)), .val (.int (0 : Int32))] [(.int (own_full he mo))]))
        refine own_Fin.step (fun _ => XS.iload X103.here hx rfl (hb hby at_329) rfl) ?_
        show own_Fin p e below s _ _ _ (T103.setTop (mkF m 331 #[.val (.int p1), .val (.int p2), .val (.int p3), .val (.int p4), .val (.int p5), .val (.int p6), .val (.int mo), .val (.ref b3), .val (.ref b7), .val (.ref b17), .val (.ref b27), .val (.ref b49), .val (.int he), .val (.int (own_full he mo)), .val (.int (1 : Int32)), .val (.int (0 : Int32))] [(.int he), (.int (own_full he mo))]))
        refine own_Fin.step (fun _ => XS.iload X103.here hx rfl (hb hby at_331) rfl) ?_
        show own_Fin p e below s _ _ _ (T103.setTop (mkF m 333 #[.val (.int p1), .val (.int p2), .val (.int p3), .val (.int p4), .val (.int p5), .val (.int p6), .val (.int mo), .val (.ref b3), .val (.ref b7), .val (.ref b17), .val (.ref b27), .val (.ref b49), .val (.int he), .val (.int (own_full he mo)), .val (.int (1 : Int32)), .val (.int (0 : Int32))] [(.int mo), (.int he), (.int (own_full he mo))]))
        by_cases hc333_104 : he = mo
        ·
          refine own_Fin.step (fun _ => XS.icmpNo X103.here hx rfl (hb hby at_333) rfl (XT.ii_ne_f hc333_104)) ?_
          show own_Fin p e below s _ _ _ (T103.setTop (mkF m 336 #[.val (.int p1), .val (.int p2), .val (.int p3), .val (.int p4), .val (.int p5), .val (.int p6), .val (.int mo), .val (.ref b3), .val (.ref b7), .val (.ref b17), .val (.ref b27), .val (.ref b49), .val (.int he), .val (.int (own_full he mo)), .val (.int (1 : Int32)), .val (.int (0 : Int32))] [(.int (own_full he mo))]))
          refine own_Fin.step (fun _ => XS.iconst X103.here hx rfl (hb hby at_336)) ?_
          show own_Fin p e below s _ _ _ (T103.setTop (mkF m 337 #[.val (.int p1), .val (.int p2), .val (.int p3), .val (.int p4), .val (.int p5), .val (.int p6), .val (.int mo), .val (.ref b3), .val (.ref b7), .val (.ref b17), .val (.ref b27), .val (.ref b49), .val (.int he), .val (.int (own_full he mo)), .val (.int (1 : Int32)), .val (.int (0 : Int32))] [(.int (1 : Int32)), (.int (own_full he mo))]))
          refine own_Fin.step (fun _ => XS.goto X103.here hx rfl (pc0 := 337) (pc' := 341) rfl (hb hby at_337) (by decide) (by decide)) ?_
          show own_Fin p e below s _ _ _ (T103.setTop (mkF m 341 #[.val (.int p1), .val (.int p2), .val (.int p3), .val (.int p4), .val (.int p5), .val (.int p6), .val (.int mo), .val (.ref b3), .val (.ref b7), .val (.ref b17), .val (.ref b27), .val (.ref b49), .val (.int he), .val (.int (own_full he mo)), .val (.int (1 : Int32)), .val (.int (0 : Int32))] [(.int (1 : Int32)), (.int (own_full he mo))]))
          refine own_Fin.step (fun _ => XS.icmpNo X103.here hx rfl (hb hby at_341) rfl (XT.ii_ne_f (if_pos hc333_104))) ?_
          show own_Fin p e below s _ _ _ (T103.setTop (mkF m 344 #[.val (.int p1), .val (.int p2), .val (.int p3), .val (.int p4), .val (.int p5), .val (.int p6), .val (.int mo), .val (.ref b3), .val (.ref b7), .val (.ref b17), .val (.ref b27), .val (.ref b49), .val (.int he), .val (.int (own_full he mo)), .val (.int (1 : Int32)), .val (.int (0 : Int32))] []))
          refine own_Fin.step (fun _ => XS.iconst X103.here hx rfl (hb hby at_344)) ?_
          show own_Fin p e below s _ _ _ (T103.setTop (mkF m 345 #[.val (.int p1), .val (.int p2), .val (.int p3), .val (.int p4), .val (.int p5), .val (.int p6), .val (.int mo), .val (.ref b3), .val (.ref b7), .val (.ref b17), .val (.ref b27), .val (.ref b49), .val (.int he), .val (.int (own_full he mo)), .val (.int (1 : Int32)), .val (.int (0 : Int32))] [(.int (1 : Int32))]))
          refine own_Fin.step (fun _ => XS.goto X103.here hx rfl (pc0 := 345) (pc' := 349) rfl (hb hby at_345) (by decide) (by decide)) ?_
          show own_Fin p e below s _ _ _ (T103.setTop (mkF m 349 #[.val (.int p1), .val (.int p2), .val (.int p3), .val (.int p4), .val (.int p5), .val (.int p6), .val (.int mo), .val (.ref b3), .val (.ref b7), .val (.ref b17), .val (.ref b27), .val (.ref b49), .val (.int he), .val (.int (own_full he mo)), .val (.int (1 : Int32)), .val (.int (0 : Int32))] [(.int (1 : Int32))]))
          refine own_Fin.step (fun _ => XS.istore X103.here hx rfl (hb hby at_349) rfl (l' := #[.val (.int p1), .val (.int p2), .val (.int p3), .val (.int p4), .val (.int p5), .val (.int p6), .val (.int mo), .val (.ref b3), .val (.ref b7), .val (.ref b17), .val (.ref b27), .val (.ref b49), .val (.int he), .val (.int (own_full he mo)), .val (.int (1 : Int32)), .val (.int (0 : Int32))]) rfl) ?_
          exact j351 _ _ _ _ _ _ X103 N103 e103 Z92 (One.val rfl) ⟨jr.1, by omega⟩ jm A92 Fs92 Fm92 Fh92' V92 f98 f99 f100 f101 few92
        ·
          refine own_Fin.step (fun _ => XS.icmpYes X103.here hx rfl (pc0 := 333) (pc' := 340) rfl (hb hby at_333) rfl (XT.ii_ne_t hc333_104) (by decide) (by decide)) ?_
          show own_Fin p e below s _ _ _ (T103.setTop (mkF m 340 #[.val (.int p1), .val (.int p2), .val (.int p3), .val (.int p4), .val (.int p5), .val (.int p6), .val (.int mo), .val (.ref b3), .val (.ref b7), .val (.ref b17), .val (.ref b27), .val (.ref b49), .val (.int he), .val (.int (own_full he mo)), .val (.int (1 : Int32)), .val (.int (0 : Int32))] [(.int (own_full he mo))]))
          refine own_Fin.step (fun _ => XS.iconst X103.here hx rfl (hb hby at_340)) ?_
          show own_Fin p e below s _ _ _ (T103.setTop (mkF m 341 #[.val (.int p1), .val (.int p2), .val (.int p3), .val (.int p4), .val (.int p5), .val (.int p6), .val (.int mo), .val (.ref b3), .val (.ref b7), .val (.ref b17), .val (.ref b27), .val (.ref b49), .val (.int he), .val (.int (own_full he mo)), .val (.int (1 : Int32)), .val (.int (0 : Int32))] [(.int (0 : Int32)), (.int (own_full he mo))]))
          refine own_Fin.step (fun _ => XS.icmpNo X103.here hx rfl (hb hby at_341) rfl (XT.ii_ne_f (if_neg hc333_104))) ?_
          show own_Fin p e below s _ _ _ (T103.setTop (mkF m 344 #[.val (.int p1), .val (.int p2), .val (.int p3), .val (.int p4), .val (.int p5), .val (.int p6), .val (.int mo), .val (.ref b3), .val (.ref b7), .val (.ref b17), .val (.ref b27), .val (.ref b49), .val (.int he), .val (.int (own_full he mo)), .val (.int (1 : Int32)), .val (.int (0 : Int32))] []))
          refine own_Fin.step (fun _ => XS.iconst X103.here hx rfl (hb hby at_344)) ?_
          show own_Fin p e below s _ _ _ (T103.setTop (mkF m 345 #[.val (.int p1), .val (.int p2), .val (.int p3), .val (.int p4), .val (.int p5), .val (.int p6), .val (.int mo), .val (.ref b3), .val (.ref b7), .val (.ref b17), .val (.ref b27), .val (.ref b49), .val (.int he), .val (.int (own_full he mo)), .val (.int (1 : Int32)), .val (.int (0 : Int32))] [(.int (1 : Int32))]))
          refine own_Fin.step (fun _ => XS.goto X103.here hx rfl (pc0 := 345) (pc' := 349) rfl (hb hby at_345) (by decide) (by decide)) ?_
          show own_Fin p e below s _ _ _ (T103.setTop (mkF m 349 #[.val (.int p1), .val (.int p2), .val (.int p3), .val (.int p4), .val (.int p5), .val (.int p6), .val (.int mo), .val (.ref b3), .val (.ref b7), .val (.ref b17), .val (.ref b27), .val (.ref b49), .val (.int he), .val (.int (own_full he mo)), .val (.int (1 : Int32)), .val (.int (0 : Int32))] [(.int (1 : Int32))]))
          refine own_Fin.step (fun _ => XS.istore X103.here hx rfl (hb hby at_349) rfl (l' := #[.val (.int p1), .val (.int p2), .val (.int p3), .val (.int p4), .val (.int p5), .val (.int p6), .val (.int mo), .val (.ref b3), .val (.ref b7), .val (.ref b17), .val (.ref b27), .val (.ref b49), .val (.int he), .val (.int (own_full he mo)), .val (.int (1 : Int32)), .val (.int (0 : Int32))]) rfl) ?_
          exact j351 _ _ _ _ _ _ X103 N103 e103 Z92 (One.val rfl) ⟨jr.1, by omega⟩ jm A92 Fs92 Fm92 Fh92' V92 f98 f99 f100 f101 few92
      ·
        refine own_Fin.step (fun _ => XS.ifNo X92.here hx rfl (hb hby at_292) rfl (XT.i0_eq_f hc292_102)) ?_
        show own_Fin p e below s _ _ _ (T92.setTop (mkF m 295 #[.val (.int p1), .val (.int p2), .val (.int p3), .val (.int p4), .val (.int p5), .val (.int p6), .val (.int mo), .val (.ref b3), .val (.ref b7), .val (.ref b17), .val (.ref b27), .val (.ref b49), .val (.int he), .val (.int (own_full he mo)), .val (.int (1 : Int32)), .val (.int (0 : Int32))] []))
        refine own_Fin.step (fun _ => XS.iload X92.here hx rfl (hb hby at_295) rfl) ?_
        show own_Fin p e below s _ _ _ (T92.setTop (mkF m 297 #[.val (.int p1), .val (.int p2), .val (.int p3), .val (.int p4), .val (.int p5), .val (.int p6), .val (.int mo), .val (.ref b3), .val (.ref b7), .val (.ref b17), .val (.ref b27), .val (.ref b49), .val (.int he), .val (.int (own_full he mo)), .val (.int (1 : Int32)), .val (.int (0 : Int32))] [(.int (0 : Int32))]))
        refine own_Fin.step (fun _ => XS.ifNo X92.here hx rfl (hb hby at_297) rfl (XT.i0_ne_f (by decide : (0 : Int32) = (0 : Int32)))) ?_
        show own_Fin p e below s _ _ _ (T92.setTop (mkF m 300 #[.val (.int p1), .val (.int p2), .val (.int p3), .val (.int p4), .val (.int p5), .val (.int p6), .val (.int mo), .val (.ref b3), .val (.ref b7), .val (.ref b17), .val (.ref b27), .val (.ref b49), .val (.int he), .val (.int (own_full he mo)), .val (.int (1 : Int32)), .val (.int (0 : Int32))] []))
        refine own_Fin.step (fun _ => XS.iconst X92.here hx rfl (hb hby at_300)) ?_
        show own_Fin p e below s _ _ _ (T92.setTop (mkF m 301 #[.val (.int p1), .val (.int p2), .val (.int p3), .val (.int p4), .val (.int p5), .val (.int p6), .val (.int mo), .val (.ref b3), .val (.ref b7), .val (.ref b17), .val (.ref b27), .val (.ref b49), .val (.int he), .val (.int (own_full he mo)), .val (.int (1 : Int32)), .val (.int (0 : Int32))] [(.int (1 : Int32))]))
        refine own_Fin.step (fun _ => XS.goto X92.here hx rfl (pc0 := 301) (pc' := 305) rfl (hb hby at_301) (by decide) (by decide)) ?_
        show own_Fin p e below s _ _ _ (T92.setTop (mkF m 305 #[.val (.int p1), .val (.int p2), .val (.int p3), .val (.int p4), .val (.int p5), .val (.int p6), .val (.int mo), .val (.ref b3), .val (.ref b7), .val (.ref b17), .val (.ref b27), .val (.ref b49), .val (.int he), .val (.int (own_full he mo)), .val (.int (1 : Int32)), .val (.int (0 : Int32))] [(.int (1 : Int32))]))
        refine own_Fin.step (fun _ => XS.istore X92.here hx rfl (hb hby at_305) rfl (l' := #[.val (.int p1), .val (.int p2), .val (.int p3), .val (.int p4), .val (.int p5), .val (.int p6), .val (.int mo), .val (.ref b3), .val (.ref b7), .val (.ref b17), .val (.ref b27), .val (.ref b49), .val (.int he), .val (.int (own_full he mo)), .val (.int (1 : Int32)), .val (.int (0 : Int32))]) rfl) ?_
        show own_Fin p e below s _ _ _ (T92.setTop (mkF m 307 #[.val (.int p1), .val (.int p2), .val (.int p3), .val (.int p4), .val (.int p5), .val (.int p6), .val (.int mo), .val (.ref b3), .val (.ref b7), .val (.ref b17), .val (.ref b27), .val (.ref b49), .val (.int he), .val (.int (own_full he mo)), .val (.int (1 : Int32)), .val (.int (0 : Int32))] []))
        refine own_Fin.step (fun _ => XS.iload X92.here hx rfl (hb hby at_307) rfl) ?_
        show own_Fin p e below s _ _ _ (T92.setTop (mkF m 309 #[.val (.int p1), .val (.int p2), .val (.int p3), .val (.int p4), .val (.int p5), .val (.int p6), .val (.int mo), .val (.ref b3), .val (.ref b7), .val (.ref b17), .val (.ref b27), .val (.ref b49), .val (.int he), .val (.int (own_full he mo)), .val (.int (1 : Int32)), .val (.int (0 : Int32))] [(.int (0 : Int32))]))
        refine own_Fin.step (fun _ => XS.ifYes X92.here hx rfl (pc0 := 309) (pc' := 315) rfl (hb hby at_309) rfl (XT.i0_eq_t (by decide : (0 : Int32) = (0 : Int32))) (by decide) (by decide)) ?_
        show own_Fin p e below s _ _ _ (T92.setTop (mkF m 315 #[.val (.int p1), .val (.int p2), .val (.int p3), .val (.int p4), .val (.int p5), .val (.int p6), .val (.int mo), .val (.ref b3), .val (.ref b7), .val (.ref b17), .val (.ref b27), .val (.ref b49), .val (.int he), .val (.int (own_full he mo)), .val (.int (1 : Int32)), .val (.int (0 : Int32))] []))
        refine own_Fin.step (fun _ => XS.aload X92.here hx rfl (hb hby at_315) rfl rfl) ?_
        show own_Fin p e below s _ _ _ (T92.setTop (mkF m 317 #[.val (.int p1), .val (.int p2), .val (.int p3), .val (.int p4), .val (.int p5), .val (.int p6), .val (.int mo), .val (.ref b3), .val (.ref b7), .val (.ref b17), .val (.ref b27), .val (.ref b49), .val (.int he), .val (.int (own_full he mo)), .val (.int (1 : Int32)), .val (.int (0 : Int32))] [(.ref b49)]))
        obtain ⟨_, T105, L105, X105, ⟨rfl, N105q, e105⟩, st105⟩ := own_callV X92 hx hZ hown (own_w hw 16 rfl) (own_w hw 17 rfl) (own_w hw 19 rfl) (own_w hw 18 rfl) (own_w hw 3 rfl) (own_w hw 20 rfl) (by decide) (rm2 l Z a0 hw b49 he mo T92.heap n0 Z92 Fh92' Fm92) (by decide) (by decide) A92 rfl (W := 0) (g := (mkF m 317 #[.val (.int p1), .val (.int p2), .val (.int p3), .val (.int p4), .val (.int p5), .val (.int p6), .val (.int mo), .val (.ref b3), .val (.ref b7), .val (.ref b17), .val (.ref b27), .val (.ref b49), .val (.int he), .val (.int (own_full he mo)), .val (.int (1 : Int32)), .val (.int (0 : Int32))] [(.ref b49)])) rfl (by rw [hml]; rfl) (argsL := []) (rest := []) (lenOf pd_5 rfl) rfl rfl (by show 2 * 0 + _ ≤ _; exact Nat.le_of_eq rfl) (hb hby at_317) (by decide) (by decide)
        have N105 := Fr.app N92 N105q
        refine own_Fin.step st105 ?_
        show own_Fin p e below s _ _ _ (T105.setTop (mkF m 320 #[.val (.int p1), .val (.int p2), .val (.int p3), .val (.int p4), .val (.int p5), .val (.int p6), .val (.int mo), .val (.ref b3), .val (.ref b7), .val (.ref b17), .val (.ref b27), .val (.ref b49), .val (.int he), .val (.int (own_full he mo)), .val (.int (1 : Int32)), .val (.int (0 : Int32))] [(.int (own_full he mo))]))
        refine own_Fin.step (fun _ => XS.istore X105.here hx rfl (hb hby at_320) rfl (l' := #[.val (.int p1), .val (.int p2), .val (.int p3), .val (.int p4), .val (.int p5), .val (.int p6), .val (.int mo), .val (.ref b3), .val (.ref b7), .val (.ref b17), .val (.ref b27), .val (.ref b49), .val (.int he), .val (.int (own_full he mo)), .val (.int (1 : Int32)), .val (.int (0 : Int32))]) rfl) ?_
        show own_Fin p e below s _ _ _ (T105.setTop (mkF m 322 #[.val (.int p1), .val (.int p2), .val (.int p3), .val (.int p4), .val (.int p5), .val (.int p6), .val (.int mo), .val (.ref b3), .val (.ref b7), .val (.ref b17), .val (.ref b27), .val (.ref b49), .val (.int he), .val (.int (own_full he mo)), .val (.int (1 : Int32)), .val (.int (0 : Int32))] []))
        refine own_Fin.step (fun _ => XS.iload X105.here hx rfl (hb hby at_322) rfl) ?_
        show own_Fin p e below s _ _ _ (T105.setTop (mkF m 324 #[.val (.int p1), .val (.int p2), .val (.int p3), .val (.int p4), .val (.int p5), .val (.int p6), .val (.int mo), .val (.ref b3), .val (.ref b7), .val (.ref b17), .val (.ref b27), .val (.ref b49), .val (.int he), .val (.int (own_full he mo)), .val (.int (1 : Int32)), .val (.int (0 : Int32))] [(.int (1 : Int32))]))
        refine own_Fin.step (fun _ => XS.ifNo X105.here hx rfl (hb hby at_324) rfl (XT.i0_eq_f (by decide : ¬ ((1 : Int32) = (0 : Int32))))) ?_
        show own_Fin p e below s _ _ _ (T105.setTop (mkF m 327 #[.val (.int p1), .val (.int p2), .val (.int p3), .val (.int p4), .val (.int p5), .val (.int p6), .val (.int mo), .val (.ref b3), .val (.ref b7), .val (.ref b17), .val (.ref b27), .val (.ref b49), .val (.int he), .val (.int (own_full he mo)), .val (.int (1 : Int32)), .val (.int (0 : Int32))] []))
        refine own_Fin.step (fun _ => XS.iload X105.here hx rfl (hb hby at_327) rfl) ?_
        show own_Fin p e below s _ _ _ (T105.setTop (mkF m 329 #[.val (.int p1), .val (.int p2), .val (.int p3), .val (.int p4), .val (.int p5), .val (.int p6), .val (.int mo), .val (.ref b3), .val (.ref b7), .val (.ref b17), .val (.ref b27), .val (.ref b49), .val (.int he), .val (.int (own_full he mo)), .val (.int (1 : Int32)), .val (.int (0 : Int32))] [(.int (own_full he mo))]))
        refine own_Fin.step (fun _ => XS.iload X105.here hx rfl (hb hby at_329) rfl) ?_
        show own_Fin p e below s _ _ _ (T105.setTop (mkF m 331 #[.val (.int p1), .val (.int p2), .val (.int p3), .val (.int p4), .val (.int p5), .val (.int p6), .val (.int mo), .val (.ref b3), .val (.ref b7), .val (.ref b17), .val (.ref b27), .val (.ref b49), .val (.int he), .val (.int (own_full he mo)), .val (.int (1 : Int32)), .val (.int (0 : Int32))] [(.int he), (.int (own_full he mo))]))
        refine own_Fin.step (fun _ => XS.iload X105.here hx rfl (hb hby at_331) rfl) ?_
        show own_Fin p e below s _ _ _ (T105.setTop (mkF m 333 #[.val (.int p1), .val (.int p2), .val (.int p3), .val (.int p4), .val (.int p5), .val (.int p6), .val (.int mo), .val (.ref b3), .val (.ref b7), .val (.ref b17), .val (.ref b27), .val (.ref b49), .val (.int he), .val (.int (own_full he mo)), .val (.int (1 : Int32)), .val (.int (0 : Int32))] [(.int mo), (.int he), (.int (own_full he mo))]))
        by_cases hc333_106 : he = mo
        ·
          refine own_Fin.step (fun _ => XS.icmpNo X105.here hx rfl (hb hby at_333) rfl (XT.ii_ne_f hc333_106)) ?_
          show own_Fin p e below s _ _ _ (T105.setTop (mkF m 336 #[.val (.int p1), .val (.int p2), .val (.int p3), .val (.int p4), .val (.int p5), .val (.int p6), .val (.int mo), .val (.ref b3), .val (.ref b7), .val (.ref b17), .val (.ref b27), .val (.ref b49), .val (.int he), .val (.int (own_full he mo)), .val (.int (1 : Int32)), .val (.int (0 : Int32))] [(.int (own_full he mo))]))
          refine own_Fin.step (fun _ => XS.iconst X105.here hx rfl (hb hby at_336)) ?_
          show own_Fin p e below s _ _ _ (T105.setTop (mkF m 337 #[.val (.int p1), .val (.int p2), .val (.int p3), .val (.int p4), .val (.int p5), .val (.int p6), .val (.int mo), .val (.ref b3), .val (.ref b7), .val (.ref b17), .val (.ref b27), .val (.ref b49), .val (.int he), .val (.int (own_full he mo)), .val (.int (1 : Int32)), .val (.int (0 : Int32))] [(.int (1 : Int32)), (.int (own_full he mo))]))
          refine own_Fin.step (fun _ => XS.goto X105.here hx rfl (pc0 := 337) (pc' := 341) rfl (hb hby at_337) (by decide) (by decide)) ?_
          show own_Fin p e below s _ _ _ (T105.setTop (mkF m 341 #[.val (.int p1), .val (.int p2), .val (.int p3), .val (.int p4), .val (.int p5), .val (.int p6), .val (.int mo), .val (.ref b3), .val (.ref b7), .val (.ref b17), .val (.ref b27), .val (.ref b49), .val (.int he), .val (.int (own_full he mo)), .val (.int (1 : Int32)), .val (.int (0 : Int32))] [(.int (1 : Int32)), (.int (own_full he mo))]))
          refine own_Fin.step (fun _ => XS.icmpNo X105.here hx rfl (hb hby at_341) rfl (XT.ii_ne_f (if_pos hc333_106))) ?_
          show own_Fin p e below s _ _ _ (T105.setTop (mkF m 344 #[.val (.int p1), .val (.int p2), .val (.int p3), .val (.int p4), .val (.int p5), .val (.int p6), .val (.int mo), .val (.ref b3), .val (.ref b7), .val (.ref b17), .val (.ref b27), .val (.ref b49), .val (.int he), .val (.int (own_full he mo)), .val (.int (1 : Int32)), .val (.int (0 : Int32))] []))
          refine own_Fin.step (fun _ => XS.iconst X105.here hx rfl (hb hby at_344)) ?_
          show own_Fin p e below s _ _ _ (T105.setTop (mkF m 345 #[.val (.int p1), .val (.int p2), .val (.int p3), .val (.int p4), .val (.int p5), .val (.int p6), .val (.int mo), .val (.ref b3), .val (.ref b7), .val (.ref b17), .val (.ref b27), .val (.ref b49), .val (.int he), .val (.int (own_full he mo)), .val (.int (1 : Int32)), .val (.int (0 : Int32))] [(.int (1 : Int32))]))
          refine own_Fin.step (fun _ => XS.goto X105.here hx rfl (pc0 := 345) (pc' := 349) rfl (hb hby at_345) (by decide) (by decide)) ?_
          show own_Fin p e below s _ _ _ (T105.setTop (mkF m 349 #[.val (.int p1), .val (.int p2), .val (.int p3), .val (.int p4), .val (.int p5), .val (.int p6), .val (.int mo), .val (.ref b3), .val (.ref b7), .val (.ref b17), .val (.ref b27), .val (.ref b49), .val (.int he), .val (.int (own_full he mo)), .val (.int (1 : Int32)), .val (.int (0 : Int32))] [(.int (1 : Int32))]))
          refine own_Fin.step (fun _ => XS.istore X105.here hx rfl (hb hby at_349) rfl (l' := #[.val (.int p1), .val (.int p2), .val (.int p3), .val (.int p4), .val (.int p5), .val (.int p6), .val (.int mo), .val (.ref b3), .val (.ref b7), .val (.ref b17), .val (.ref b27), .val (.ref b49), .val (.int he), .val (.int (own_full he mo)), .val (.int (1 : Int32)), .val (.int (0 : Int32))]) rfl) ?_
          exact j351 _ _ _ _ _ _ X105 N105 e105 Z92 (One.val rfl) ⟨jr.1, by omega⟩ jm A92 Fs92 Fm92 Fh92' V92 f98 f99 f100 f101 few92
        ·
          refine own_Fin.step (fun _ => XS.icmpYes X105.here hx rfl (pc0 := 333) (pc' := 340) rfl (hb hby at_333) rfl (XT.ii_ne_t hc333_106) (by decide) (by decide)) ?_
          show own_Fin p e below s _ _ _ (T105.setTop (mkF m 340 #[.val (.int p1), .val (.int p2), .val (.int p3), .val (.int p4), .val (.int p5), .val (.int p6), .val (.int mo), .val (.ref b3), .val (.ref b7), .val (.ref b17), .val (.ref b27), .val (.ref b49), .val (.int he), .val (.int (own_full he mo)), .val (.int (1 : Int32)), .val (.int (0 : Int32))] [(.int (own_full he mo))]))
          refine own_Fin.step (fun _ => XS.iconst X105.here hx rfl (hb hby at_340)) ?_
          show own_Fin p e below s _ _ _ (T105.setTop (mkF m 341 #[.val (.int p1), .val (.int p2), .val (.int p3), .val (.int p4), .val (.int p5), .val (.int p6), .val (.int mo), .val (.ref b3), .val (.ref b7), .val (.ref b17), .val (.ref b27), .val (.ref b49), .val (.int he), .val (.int (own_full he mo)), .val (.int (1 : Int32)), .val (.int (0 : Int32))] [(.int (0 : Int32)), (.int (own_full he mo))]))
          refine own_Fin.step (fun _ => XS.icmpNo X105.here hx rfl (hb hby at_341) rfl (XT.ii_ne_f (if_neg hc333_106))) ?_
          show own_Fin p e below s _ _ _ (T105.setTop (mkF m 344 #[.val (.int p1), .val (.int p2), .val (.int p3), .val (.int p4), .val (.int p5), .val (.int p6), .val (.int mo), .val (.ref b3), .val (.ref b7), .val (.ref b17), .val (.ref b27), .val (.ref b49), .val (.int he), .val (.int (own_full he mo)), .val (.int (1 : Int32)), .val (.int (0 : Int32))] []))
          refine own_Fin.step (fun _ => XS.iconst X105.here hx rfl (hb hby at_344)) ?_
          show own_Fin p e below s _ _ _ (T105.setTop (mkF m 345 #[.val (.int p1), .val (.int p2), .val (.int p3), .val (.int p4), .val (.int p5), .val (.int p6), .val (.int mo), .val (.ref b3), .val (.ref b7), .val (.ref b17), .val (.ref b27), .val (.ref b49), .val (.int he), .val (.int (own_full he mo)), .val (.int (1 : Int32)), .val (.int (0 : Int32))] [(.int (1 : Int32))]))
          refine own_Fin.step (fun _ => XS.goto X105.here hx rfl (pc0 := 345) (pc' := 349) rfl (hb hby at_345) (by decide) (by decide)) ?_
          show own_Fin p e below s _ _ _ (T105.setTop (mkF m 349 #[.val (.int p1), .val (.int p2), .val (.int p3), .val (.int p4), .val (.int p5), .val (.int p6), .val (.int mo), .val (.ref b3), .val (.ref b7), .val (.ref b17), .val (.ref b27), .val (.ref b49), .val (.int he), .val (.int (own_full he mo)), .val (.int (1 : Int32)), .val (.int (0 : Int32))] [(.int (1 : Int32))]))
          refine own_Fin.step (fun _ => XS.istore X105.here hx rfl (hb hby at_349) rfl (l' := #[.val (.int p1), .val (.int p2), .val (.int p3), .val (.int p4), .val (.int p5), .val (.int p6), .val (.int mo), .val (.ref b3), .val (.ref b7), .val (.ref b17), .val (.ref b27), .val (.ref b49), .val (.int he), .val (.int (own_full he mo)), .val (.int (1 : Int32)), .val (.int (0 : Int32))]) rfl) ?_
          exact j351 _ _ _ _ _ _ X105 N105 e105 Z92 (One.val rfl) ⟨jr.1, by omega⟩ jm A92 Fs92 Fm92 Fh92' V92 f98 f99 f100 f101 few92
    ·
      show own_Fin p e below s _ _ _ (T92.setTop (mkF m 283 #[.val (.int p1), .val (.int p2), .val (.int p3), .val (.int p4), .val (.int p5), .val (.int p6), .val (.int mo), .val (.ref b3), .val (.ref b7), .val (.ref b17), .val (.ref b27), .val (.ref b49), .val (.int he), .val (.int (own_full he mo)), .val (.int (1 : Int32)), s15] [(.int (1 : Int32))]))
      refine own_Fin.step (fun _ => XS.istore X92.here hx rfl (hb hby at_283) rfl (l' := #[.val (.int p1), .val (.int p2), .val (.int p3), .val (.int p4), .val (.int p5), .val (.int p6), .val (.int mo), .val (.ref b3), .val (.ref b7), .val (.ref b17), .val (.ref b27), .val (.ref b49), .val (.int he), .val (.int (own_full he mo)), .val (.int (1 : Int32)), .val (.int (1 : Int32))]) (XS.store1 (o := s15) rfl hs15 rfl)) ?_
      show own_Fin p e below s _ _ _ (T92.setTop (mkF m 285 #[.val (.int p1), .val (.int p2), .val (.int p3), .val (.int p4), .val (.int p5), .val (.int p6), .val (.int mo), .val (.ref b3), .val (.ref b7), .val (.ref b17), .val (.ref b27), .val (.ref b49), .val (.int he), .val (.int (own_full he mo)), .val (.int (1 : Int32)), .val (.int (1 : Int32))] []))
      refine own_Fin.step (fun _ => XS.iload X92.here hx rfl (hb hby at_285) rfl) ?_
      show own_Fin p e below s _ _ _ (T92.setTop (mkF m 287 #[.val (.int p1), .val (.int p2), .val (.int p3), .val (.int p4), .val (.int p5), .val (.int p6), .val (.int mo), .val (.ref b3), .val (.ref b7), .val (.ref b17), .val (.ref b27), .val (.ref b49), .val (.int he), .val (.int (own_full he mo)), .val (.int (1 : Int32)), .val (.int (1 : Int32))] [(.int (1 : Int32))]))
      refine own_Fin.step (fun _ => XS.ifNo X92.here hx rfl (hb hby at_287) rfl (XT.i0_eq_f (by decide : ¬ ((1 : Int32) = (0 : Int32))))) ?_
      show own_Fin p e below s _ _ _ (T92.setTop (mkF m 290 #[.val (.int p1), .val (.int p2), .val (.int p3), .val (.int p4), .val (.int p5), .val (.int p6), .val (.int mo), .val (.ref b3), .val (.ref b7), .val (.ref b17), .val (.ref b27), .val (.ref b49), .val (.int he), .val (.int (own_full he mo)), .val (.int (1 : Int32)), .val (.int (1 : Int32))] []))
      refine own_Fin.step (fun _ => XS.iload X92.here hx rfl (hb hby at_290) rfl) ?_
      show own_Fin p e below s _ _ _ (T92.setTop (mkF m 292 #[.val (.int p1), .val (.int p2), .val (.int p3), .val (.int p4), .val (.int p5), .val (.int p6), .val (.int mo), .val (.ref b3), .val (.ref b7), .val (.ref b17), .val (.ref b27), .val (.ref b49), .val (.int he), .val (.int (own_full he mo)), .val (.int (1 : Int32)), .val (.int (1 : Int32))] [(.int (own_full he mo))]))
      refine own_Fin.step (fun _ => XS.ifYes X92.here hx rfl (pc0 := 292) (pc' := 300) rfl (hb hby at_292) rfl (XT.i0_eq_t (own_full_lt hlt)) (by decide) (by decide)) ?_
      show own_Fin p e below s _ _ _ (T92.setTop (mkF m 300 #[.val (.int p1), .val (.int p2), .val (.int p3), .val (.int p4), .val (.int p5), .val (.int p6), .val (.int mo), .val (.ref b3), .val (.ref b7), .val (.ref b17), .val (.ref b27), .val (.ref b49), .val (.int he), .val (.int (own_full he mo)), .val (.int (1 : Int32)), .val (.int (1 : Int32))] []))
      refine own_Fin.step (fun _ => XS.iconst X92.here hx rfl (hb hby at_300)) ?_
      show own_Fin p e below s _ _ _ (T92.setTop (mkF m 301 #[.val (.int p1), .val (.int p2), .val (.int p3), .val (.int p4), .val (.int p5), .val (.int p6), .val (.int mo), .val (.ref b3), .val (.ref b7), .val (.ref b17), .val (.ref b27), .val (.ref b49), .val (.int he), .val (.int (own_full he mo)), .val (.int (1 : Int32)), .val (.int (1 : Int32))] [(.int (1 : Int32))]))
      refine own_Fin.step (fun _ => XS.goto X92.here hx rfl (pc0 := 301) (pc' := 305) rfl (hb hby at_301) (by decide) (by decide)) ?_
      show own_Fin p e below s _ _ _ (T92.setTop (mkF m 305 #[.val (.int p1), .val (.int p2), .val (.int p3), .val (.int p4), .val (.int p5), .val (.int p6), .val (.int mo), .val (.ref b3), .val (.ref b7), .val (.ref b17), .val (.ref b27), .val (.ref b49), .val (.int he), .val (.int (own_full he mo)), .val (.int (1 : Int32)), .val (.int (1 : Int32))] [(.int (1 : Int32))]))
      refine own_Fin.step (fun _ => XS.istore X92.here hx rfl (hb hby at_305) rfl (l' := #[.val (.int p1), .val (.int p2), .val (.int p3), .val (.int p4), .val (.int p5), .val (.int p6), .val (.int mo), .val (.ref b3), .val (.ref b7), .val (.ref b17), .val (.ref b27), .val (.ref b49), .val (.int he), .val (.int (own_full he mo)), .val (.int (1 : Int32)), .val (.int (1 : Int32))]) rfl) ?_
      show own_Fin p e below s _ _ _ (T92.setTop (mkF m 307 #[.val (.int p1), .val (.int p2), .val (.int p3), .val (.int p4), .val (.int p5), .val (.int p6), .val (.int mo), .val (.ref b3), .val (.ref b7), .val (.ref b17), .val (.ref b27), .val (.ref b49), .val (.int he), .val (.int (own_full he mo)), .val (.int (1 : Int32)), .val (.int (1 : Int32))] []))
      refine own_Fin.step (fun _ => XS.iload X92.here hx rfl (hb hby at_307) rfl) ?_
      show own_Fin p e below s _ _ _ (T92.setTop (mkF m 309 #[.val (.int p1), .val (.int p2), .val (.int p3), .val (.int p4), .val (.int p5), .val (.int p6), .val (.int mo), .val (.ref b3), .val (.ref b7), .val (.ref b17), .val (.ref b27), .val (.ref b49), .val (.int he), .val (.int (own_full he mo)), .val (.int (1 : Int32)), .val (.int (1 : Int32))] [(.int (1 : Int32))]))
      refine own_Fin.step (fun _ => XS.ifNo X92.here hx rfl (hb hby at_309) rfl (XT.i0_eq_f (by decide : ¬ ((1 : Int32) = (0 : Int32))))) ?_
      show own_Fin p e below s _ _ _ (T92.setTop (mkF m 312 #[.val (.int p1), .val (.int p2), .val (.int p3), .val (.int p4), .val (.int p5), .val (.int p6), .val (.int mo), .val (.ref b3), .val (.ref b7), .val (.ref b17), .val (.ref b27), .val (.ref b49), .val (.int he), .val (.int (own_full he mo)), .val (.int (1 : Int32)), .val (.int (1 : Int32))] []))
      refine own_Fin.step (fun _ => XS.iinc X92.here hx rfl (hb hby at_312) rfl (l' := #[.val (.int p1), .val (.int p2), .val (.int p3), .val (.int p4), .val (.int p5), .val (.int p6), .val (.int mo), .val (.ref b3), .val (.ref b7), .val (.ref b17), .val (.ref b27), .val (.ref b49), .val (.int (he + (1 : Int32))), .val (.int (own_full he mo)), .val (.int (1 : Int32)), .val (.int (1 : Int32))]) rfl) ?_
      show own_Fin p e below s _ _ _ (T92.setTop (mkF m 315 #[.val (.int p1), .val (.int p2), .val (.int p3), .val (.int p4), .val (.int p5), .val (.int p6), .val (.int mo), .val (.ref b3), .val (.ref b7), .val (.ref b17), .val (.ref b27), .val (.ref b49), .val (.int (he + (1 : Int32))), .val (.int (own_full he mo)), .val (.int (1 : Int32)), .val (.int (1 : Int32))] []))
      refine own_Fin.step (fun _ => XS.aload X92.here hx rfl (hb hby at_315) rfl rfl) ?_
      show own_Fin p e below s _ _ _ (T92.setTop (mkF m 317 #[.val (.int p1), .val (.int p2), .val (.int p3), .val (.int p4), .val (.int p5), .val (.int p6), .val (.int mo), .val (.ref b3), .val (.ref b7), .val (.ref b17), .val (.ref b27), .val (.ref b49), .val (.int (he + (1 : Int32))), .val (.int (own_full he mo)), .val (.int (1 : Int32)), .val (.int (1 : Int32))] [(.ref b49)]))
      obtain ⟨_, T107, L107, X107, ⟨rfl, N107q, e107⟩, st107⟩ := own_callV X92 hx hZ hown (own_w hw 16 rfl) (own_w hw 17 rfl) (own_w hw 19 rfl) (own_w hw 18 rfl) (own_w hw 3 rfl) (own_w hw 20 rfl) (by decide) (rm2 l Z a0 hw b49 (he + (1 : Int32)) mo T92.heap n0 Z92 Fh92 Fm92) (by decide) (by decide) A92 rfl (W := 0) (g := (mkF m 317 #[.val (.int p1), .val (.int p2), .val (.int p3), .val (.int p4), .val (.int p5), .val (.int p6), .val (.int mo), .val (.ref b3), .val (.ref b7), .val (.ref b17), .val (.ref b27), .val (.ref b49), .val (.int (he + (1 : Int32))), .val (.int (own_full he mo)), .val (.int (1 : Int32)), .val (.int (1 : Int32))] [(.ref b49)])) rfl (by rw [hml]; rfl) (argsL := []) (rest := []) (lenOf pd_5 rfl) rfl rfl (by show 2 * 0 + _ ≤ _; exact Nat.le_of_eq rfl) (hb hby at_317) (by decide) (by decide)
      have N107 := Fr.app N92 N107q
      refine own_Fin.step st107 ?_
      show own_Fin p e below s _ _ _ (T107.setTop (mkF m 320 #[.val (.int p1), .val (.int p2), .val (.int p3), .val (.int p4), .val (.int p5), .val (.int p6), .val (.int mo), .val (.ref b3), .val (.ref b7), .val (.ref b17), .val (.ref b27), .val (.ref b49), .val (.int (he + (1 : Int32))), .val (.int (own_full he mo)), .val (.int (1 : Int32)), .val (.int (1 : Int32))] [(.int (own_full (he + (1 : Int32)) mo))]))
      refine own_Fin.step (fun _ => XS.istore X107.here hx rfl (hb hby at_320) rfl (l' := #[.val (.int p1), .val (.int p2), .val (.int p3), .val (.int p4), .val (.int p5), .val (.int p6), .val (.int mo), .val (.ref b3), .val (.ref b7), .val (.ref b17), .val (.ref b27), .val (.ref b49), .val (.int (he + (1 : Int32))), .val (.int (own_full (he + (1 : Int32)) mo)), .val (.int (1 : Int32)), .val (.int (1 : Int32))]) rfl) ?_
      show own_Fin p e below s _ _ _ (T107.setTop (mkF m 322 #[.val (.int p1), .val (.int p2), .val (.int p3), .val (.int p4), .val (.int p5), .val (.int p6), .val (.int mo), .val (.ref b3), .val (.ref b7), .val (.ref b17), .val (.ref b27), .val (.ref b49), .val (.int (he + (1 : Int32))), .val (.int (own_full (he + (1 : Int32)) mo)), .val (.int (1 : Int32)), .val (.int (1 : Int32))] []))
      refine own_Fin.step (fun _ => XS.iload X107.here hx rfl (hb hby at_322) rfl) ?_
      show own_Fin p e below s _ _ _ (T107.setTop (mkF m 324 #[.val (.int p1), .val (.int p2), .val (.int p3), .val (.int p4), .val (.int p5), .val (.int p6), .val (.int mo), .val (.ref b3), .val (.ref b7), .val (.ref b17), .val (.ref b27), .val (.ref b49), .val (.int (he + (1 : Int32))), .val (.int (own_full (he + (1 : Int32)) mo)), .val (.int (1 : Int32)), .val (.int (1 : Int32))] [(.int (1 : Int32))]))
      refine own_Fin.step (fun _ => XS.ifNo X107.here hx rfl (hb hby at_324) rfl (XT.i0_eq_f (by decide : ¬ ((1 : Int32) = (0 : Int32))))) ?_
      show own_Fin p e below s _ _ _ (T107.setTop (mkF m 327 #[.val (.int p1), .val (.int p2), .val (.int p3), .val (.int p4), .val (.int p5), .val (.int p6), .val (.int mo), .val (.ref b3), .val (.ref b7), .val (.ref b17), .val (.ref b27), .val (.ref b49), .val (.int (he + (1 : Int32))), .val (.int (own_full (he + (1 : Int32)) mo)), .val (.int (1 : Int32)), .val (.int (1 : Int32))] []))
      refine own_Fin.step (fun _ => XS.iload X107.here hx rfl (hb hby at_327) rfl) ?_
      show own_Fin p e below s _ _ _ (T107.setTop (mkF m 329 #[.val (.int p1), .val (.int p2), .val (.int p3), .val (.int p4), .val (.int p5), .val (.int p6), .val (.int mo), .val (.ref b3), .val (.ref b7), .val (.ref b17), .val (.ref b27), .val (.ref b49), .val (.int (he + (1 : Int32))), .val (.int (own_full (he + (1 : Int32)) mo)), .val (.int (1 : Int32)), .val (.int (1 : Int32))] [(.int (own_full (he + (1 : Int32)) mo))]))
      refine own_Fin.step (fun _ => XS.iload X107.here hx rfl (hb hby at_329) rfl) ?_
      show own_Fin p e below s _ _ _ (T107.setTop (mkF m 331 #[.val (.int p1), .val (.int p2), .val (.int p3), .val (.int p4), .val (.int p5), .val (.int p6), .val (.int mo), .val (.ref b3), .val (.ref b7), .val (.ref b17), .val (.ref b27), .val (.ref b49), .val (.int (he + (1 : Int32))), .val (.int (own_full (he + (1 : Int32)) mo)), .val (.int (1 : Int32)), .val (.int (1 : Int32))] [(.int (he + (1 : Int32))), (.int (own_full (he + (1 : Int32)) mo))]))
      refine own_Fin.step (fun _ => XS.iload X107.here hx rfl (hb hby at_331) rfl) ?_
      show own_Fin p e below s _ _ _ (T107.setTop (mkF m 333 #[.val (.int p1), .val (.int p2), .val (.int p3), .val (.int p4), .val (.int p5), .val (.int p6), .val (.int mo), .val (.ref b3), .val (.ref b7), .val (.ref b17), .val (.ref b27), .val (.ref b49), .val (.int (he + (1 : Int32))), .val (.int (own_full (he + (1 : Int32)) mo)), .val (.int (1 : Int32)), .val (.int (1 : Int32))] [(.int mo), (.int (he + (1 : Int32))), (.int (own_full (he + (1 : Int32)) mo))]))
      by_cases hc333_108 : (he + (1 : Int32)) = mo
      ·
        refine own_Fin.step (fun _ => XS.icmpNo X107.here hx rfl (hb hby at_333) rfl (XT.ii_ne_f hc333_108)) ?_
        show own_Fin p e below s _ _ _ (T107.setTop (mkF m 336 #[.val (.int p1), .val (.int p2), .val (.int p3), .val (.int p4), .val (.int p5), .val (.int p6), .val (.int mo), .val (.ref b3), .val (.ref b7), .val (.ref b17), .val (.ref b27), .val (.ref b49), .val (.int (he + (1 : Int32))), .val (.int (own_full (he + (1 : Int32)) mo)), .val (.int (1 : Int32)), .val (.int (1 : Int32))] [(.int (own_full (he + (1 : Int32)) mo))]))
        refine own_Fin.step (fun _ => XS.iconst X107.here hx rfl (hb hby at_336)) ?_
        show own_Fin p e below s _ _ _ (T107.setTop (mkF m 337 #[.val (.int p1), .val (.int p2), .val (.int p3), .val (.int p4), .val (.int p5), .val (.int p6), .val (.int mo), .val (.ref b3), .val (.ref b7), .val (.ref b17), .val (.ref b27), .val (.ref b49), .val (.int (he + (1 : Int32))), .val (.int (own_full (he + (1 : Int32)) mo)), .val (.int (1 : Int32)), .val (.int (1 : Int32))] [(.int (1 : Int32)), (.int (own_full (he + (1 : Int32)) mo))]))
        refine own_Fin.step (fun _ => XS.goto X107.here hx rfl (pc0 := 337) (pc' := 341) rfl (hb hby at_337) (by decide) (by decide)) ?_
        show own_Fin p e below s _ _ _ (T107.setTop (mkF m 341 #[.val (.int p1), .val (.int p2), .val (.int p3), .val (.int p4), .val (.int p5), .val (.int p6), .val (.int mo), .val (.ref b3), .val (.ref b7), .val (.ref b17), .val (.ref b27), .val (.ref b49), .val (.int (he + (1 : Int32))), .val (.int (own_full (he + (1 : Int32)) mo)), .val (.int (1 : Int32)), .val (.int (1 : Int32))] [(.int (1 : Int32)), (.int (own_full (he + (1 : Int32)) mo))]))
        refine own_Fin.step (fun _ => XS.icmpNo X107.here hx rfl (hb hby at_341) rfl (XT.ii_ne_f (if_pos hc333_108))) ?_
        show own_Fin p e below s _ _ _ (T107.setTop (mkF m 344 #[.val (.int p1), .val (.int p2), .val (.int p3), .val (.int p4), .val (.int p5), .val (.int p6), .val (.int mo), .val (.ref b3), .val (.ref b7), .val (.ref b17), .val (.ref b27), .val (.ref b49), .val (.int (he + (1 : Int32))), .val (.int (own_full (he + (1 : Int32)) mo)), .val (.int (1 : Int32)), .val (.int (1 : Int32))] []))
        refine own_Fin.step (fun _ => XS.iconst X107.here hx rfl (hb hby at_344)) ?_
        show own_Fin p e below s _ _ _ (T107.setTop (mkF m 345 #[.val (.int p1), .val (.int p2), .val (.int p3), .val (.int p4), .val (.int p5), .val (.int p6), .val (.int mo), .val (.ref b3), .val (.ref b7), .val (.ref b17), .val (.ref b27), .val (.ref b49), .val (.int (he + (1 : Int32))), .val (.int (own_full (he + (1 : Int32)) mo)), .val (.int (1 : Int32)), .val (.int (1 : Int32))] [(.int (1 : Int32))]))
        refine own_Fin.step (fun _ => XS.goto X107.here hx rfl (pc0 := 345) (pc' := 349) rfl (hb hby at_345) (by decide) (by decide)) ?_
        show own_Fin p e below s _ _ _ (T107.setTop (mkF m 349 #[.val (.int p1), .val (.int p2), .val (.int p3), .val (.int p4), .val (.int p5), .val (.int p6), .val (.int mo), .val (.ref b3), .val (.ref b7), .val (.ref b17), .val (.ref b27), .val (.ref b49), .val (.int (he + (1 : Int32))), .val (.int (own_full (he + (1 : Int32)) mo)), .val (.int (1 : Int32)), .val (.int (1 : Int32))] [(.int (1 : Int32))]))
        refine own_Fin.step (fun _ => XS.istore X107.here hx rfl (hb hby at_349) rfl (l' := #[.val (.int p1), .val (.int p2), .val (.int p3), .val (.int p4), .val (.int p5), .val (.int p6), .val (.int mo), .val (.ref b3), .val (.ref b7), .val (.ref b17), .val (.ref b27), .val (.ref b49), .val (.int (he + (1 : Int32))), .val (.int (own_full (he + (1 : Int32)) mo)), .val (.int (1 : Int32)), .val (.int (1 : Int32))]) rfl) ?_
        exact j351 _ _ _ _ _ _ X107 N107 e107 Z92 (One.val rfl) (own_inc jr (by decide)) (Or.inr (own_lt_le hlt)) A92 Fs92 Fm92 Fh92 V92 f98 f99 f100 f101 few92
      ·
        refine own_Fin.step (fun _ => XS.icmpYes X107.here hx rfl (pc0 := 333) (pc' := 340) rfl (hb hby at_333) rfl (XT.ii_ne_t hc333_108) (by decide) (by decide)) ?_
        show own_Fin p e below s _ _ _ (T107.setTop (mkF m 340 #[.val (.int p1), .val (.int p2), .val (.int p3), .val (.int p4), .val (.int p5), .val (.int p6), .val (.int mo), .val (.ref b3), .val (.ref b7), .val (.ref b17), .val (.ref b27), .val (.ref b49), .val (.int (he + (1 : Int32))), .val (.int (own_full (he + (1 : Int32)) mo)), .val (.int (1 : Int32)), .val (.int (1 : Int32))] [(.int (own_full (he + (1 : Int32)) mo))]))
        refine own_Fin.step (fun _ => XS.iconst X107.here hx rfl (hb hby at_340)) ?_
        show own_Fin p e below s _ _ _ (T107.setTop (mkF m 341 #[.val (.int p1), .val (.int p2), .val (.int p3), .val (.int p4), .val (.int p5), .val (.int p6), .val (.int mo), .val (.ref b3), .val (.ref b7), .val (.ref b17), .val (.ref b27), .val (.ref b49), .val (.int (he + (1 : Int32))), .val (.int (own_full (he + (1 : Int32)) mo)), .val (.int (1 : Int32)), .val (.int (1 : Int32))] [(.int (0 : Int32)), (.int (own_full (he + (1 : Int32)) mo))]))
        refine own_Fin.step (fun _ => XS.icmpNo X107.here hx rfl (hb hby at_341) rfl (XT.ii_ne_f (if_neg hc333_108))) ?_
        show own_Fin p e below s _ _ _ (T107.setTop (mkF m 344 #[.val (.int p1), .val (.int p2), .val (.int p3), .val (.int p4), .val (.int p5), .val (.int p6), .val (.int mo), .val (.ref b3), .val (.ref b7), .val (.ref b17), .val (.ref b27), .val (.ref b49), .val (.int (he + (1 : Int32))), .val (.int (own_full (he + (1 : Int32)) mo)), .val (.int (1 : Int32)), .val (.int (1 : Int32))] []))
        refine own_Fin.step (fun _ => XS.iconst X107.here hx rfl (hb hby at_344)) ?_
        show own_Fin p e below s _ _ _ (T107.setTop (mkF m 345 #[.val (.int p1), .val (.int p2), .val (.int p3), .val (.int p4), .val (.int p5), .val (.int p6), .val (.int mo), .val (.ref b3), .val (.ref b7), .val (.ref b17), .val (.ref b27), .val (.ref b49), .val (.int (he + (1 : Int32))), .val (.int (own_full (he + (1 : Int32)) mo)), .val (.int (1 : Int32)), .val (.int (1 : Int32))] [(.int (1 : Int32))]))
        refine own_Fin.step (fun _ => XS.goto X107.here hx rfl (pc0 := 345) (pc' := 349) rfl (hb hby at_345) (by decide) (by decide)) ?_
        show own_Fin p e below s _ _ _ (T107.setTop (mkF m 349 #[.val (.int p1), .val (.int p2), .val (.int p3), .val (.int p4), .val (.int p5), .val (.int p6), .val (.int mo), .val (.ref b3), .val (.ref b7), .val (.ref b17), .val (.ref b27), .val (.ref b49), .val (.int (he + (1 : Int32))), .val (.int (own_full (he + (1 : Int32)) mo)), .val (.int (1 : Int32)), .val (.int (1 : Int32))] [(.int (1 : Int32))]))
        refine own_Fin.step (fun _ => XS.istore X107.here hx rfl (hb hby at_349) rfl (l' := #[.val (.int p1), .val (.int p2), .val (.int p3), .val (.int p4), .val (.int p5), .val (.int p6), .val (.int mo), .val (.ref b3), .val (.ref b7), .val (.ref b17), .val (.ref b27), .val (.ref b49), .val (.int (he + (1 : Int32))), .val (.int (own_full (he + (1 : Int32)) mo)), .val (.int (1 : Int32)), .val (.int (1 : Int32))]) rfl) ?_
        exact j351 _ _ _ _ _ _ X107 N107 e107 Z92 (One.val rfl) (own_inc jr (by decide)) (Or.inr (own_lt_le hlt)) A92 Fs92 Fm92 Fh92 V92 f98 f99 f100 f101 few92
  have j197 : ∀ (TJ : State) (hJ : Heap) (LJ : List Loc) (he : Int32) (f : Nat → Int32) (s15 : Slot), Stand p l e room_1 s m #[(.int p1), (.int p2), (.int p3), (.int p4), (.int p5), (.int p6)] below meth c TJ LJ 6 65545 → Fr n0 LJ → TJ.heap = hJ → n0 ≤ hJ.size → One s15 → (0 ≤ he.toInt ∧ he.toInt ≤ 1) → (he = 0 ∨ ¬ mo < he) → (Exa Z hJ b49 "com/example/meterkeep/meterkeep/store/RecordedIds") → (Fld Z hJ b49 "com/example/meterkeep/meterkeep/store/RecordedIds" "slots" "[I" (.ref bb59)) → (Fld Z hJ b49 "com/example/meterkeep/meterkeep/store/RecordedIds" "most" "I" (.int mo)) → (Fld Z hJ b49 "com/example/meterkeep/meterkeep/store/RecordedIds" "held" "I" (.int he)) → (own_Arf Z hJ bb59 kb59 .int (65536 : Int32) f) → (own_Arf Z hJ b3 k3 .byte (1 : Int32) (fun i => ([(p3.toInt8.toInt32)] : List Int32).getD i 0)) → (own_Arf Z hJ b7 k7 .byte (2 : Int32) (fun i => ([(p4.toInt8.toInt32), (((p4.toUInt32 >>> ((8 : Int32) &&& 31).toUInt32).toInt32).toInt8.toInt32)] : List Int32).getD i 0)) → (own_Arf Z hJ b17 k17 .byte (1 : Int32) (fun i => ([(p5.toInt8.toInt32)] : List Int32).getD i 0)) → (own_Arf Z hJ b27 k27 .byte (2 : Int32) (fun i => ([(p6.toInt8.toInt32), (((p6.toUInt32 >>> ((8 : Int32) &&& 31).toUInt32).toInt32).toInt8.toInt32)] : List Int32).getD i 0)) → own_few f 1 → own_Fin p e below s (own_Q0 n0) room_1.cells room_1.slots (TJ.setTop (mkF m 197 #[.val (.int p1), .val (.int p2), .val (.int p3), .val (.int p4), .val (.int p5), .val (.int p6), .val (.int mo), .val (.ref b3), .val (.ref b7), .val (.ref b17), .val (.ref b27), .val (.ref b49), .val (.int he), .val (.int (own_full he mo)), .val (.int (1 : Int32)), s15] [])) := by
    intro TJ hJ LJ he f s15 XJ NJ eJ ZJ hs15 jr jm jE jFs jFm jFh jV jV0 jV1 jV2 jV3 jfew
    show own_Fin p e below s _ _ _ (TJ.setTop (mkF m 197 #[.val (.int p1), .val (.int p2), .val (.int p3), .val (.int p4), .val (.int p5), .val (.int p6), .val (.int mo), .val (.ref b3), .val (.ref b7), .val (.ref b17), .val (.ref b27), .val (.ref b49), .val (.int he), .val (.int (own_full he mo)), .val (.int (1 : Int32)), s15] []))
    refine own_Fin.step (fun _ => XS.aload XJ.here hx rfl (hb hby at_197) rfl rfl) ?_
    show own_Fin p e below s _ _ _ (TJ.setTop (mkF m 199 #[.val (.int p1), .val (.int p2), .val (.int p3), .val (.int p4), .val (.int p5), .val (.int p6), .val (.int mo), .val (.ref b3), .val (.ref b7), .val (.ref b17), .val (.ref b27), .val (.ref b49), .val (.int he), .val (.int (own_full he mo)), .val (.int (1 : Int32)), s15] [(.ref b49)]))
    refine own_Fin.step (fun _ => XS.aload XJ.here hx rfl (hb hby at_199) rfl rfl) ?_
    show own_Fin p e below s _ _ _ (TJ.setTop (mkF m 201 #[.val (.int p1), .val (.int p2), .val (.int p3), .val (.int p4), .val (.int p5), .val (.int p6), .val (.int mo), .val (.ref b3), .val (.ref b7), .val (.ref b17), .val (.ref b27), .val (.ref b49), .val (.int he), .val (.int (own_full he mo)), .val (.int (1 : Int32)), s15] [(.ref b7), (.ref b49)]))
    refine own_Fin.step (fun _ => XS.iconst XJ.here hx rfl (hb hby at_201)) ?_
    show own_Fin p e below s _ _ _ (TJ.setTop (mkF m 202 #[.val (.int p1), .val (.int p2), .val (.int p3), .val (.int p4), .val (.int p5), .val (.int p6), .val (.int mo), .val (.ref b3), .val (.ref b7), .val (.ref b17), .val (.ref b27), .val (.ref b49), .val (.int he), .val (.int (own_full he mo)), .val (.int (1 : Int32)), s15] [(.int (0 : Int32)), (.ref b7), (.ref b49)]))
    refine own_Fin.step (fun _ => XS.iconst XJ.here hx rfl (hb hby at_202)) ?_
    show own_Fin p e below s _ _ _ (TJ.setTop (mkF m 203 #[.val (.int p1), .val (.int p2), .val (.int p3), .val (.int p4), .val (.int p5), .val (.int p6), .val (.int mo), .val (.ref b3), .val (.ref b7), .val (.ref b17), .val (.ref b27), .val (.ref b49), .val (.int he), .val (.int (own_full he mo)), .val (.int (1 : Int32)), s15] [(.int (2 : Int32)), (.int (0 : Int32)), (.ref b7), (.ref b49)]))
    obtain ⟨_, T109, L109, X109, ⟨bz109, f109', rfl, N109q, K109, hb109, A109, Fs109, Fm109, Fh109, V109, few109⟩, st109⟩ := own_callV XJ hx hZ hown (own_w hw 23 rfl) (own_w hw 24 rfl) (own_w hw 26 rfl) (own_w hw 25 rfl) (own_w hw 3 rfl) (own_w hw 27 rfl) (by decide) (rm6 l Z a0 hw b49 b7 (2 : Int32) bb59 kb59 k7 mo he (2 : Int32) f (fun i => ([(p4.toInt8.toInt32), (((p4.toUInt32 >>> ((8 : Int32) &&& 31).toUInt32).toInt32).toInt8.toInt32)] : List Int32).getD i 0) 1 hJ n0 ZJ ge54 ge65 ne63 ne64 (Ne.symm ne53) jE jFs jFm jFh jV jV1 (by decide) jfew (by decide) (own_Hh ⟨jr.1, by omega⟩)) (by decide) (by decide) jE eJ (W := 0) (g := (mkF m 203 #[.val (.int p1), .val (.int p2), .val (.int p3), .val (.int p4), .val (.int p5), .val (.int p6), .val (.int mo), .val (.ref b3), .val (.ref b7), .val (.ref b17), .val (.ref b27), .val (.ref b49), .val (.int he), .val (.int (own_full he mo)), .val (.int (1 : Int32)), s15] [(.int (2 : Int32)), (.int (0 : Int32)), (.ref b7), (.ref b49)])) rfl (by rw [hml]; rfl) (argsL := [(.ref b7), (.int (0 : Int32)), (.int (2 : Int32))]) (rest := []) (lenOf pd_4 rfl) rfl rfl (by show 2 * 0 + _ ≤ _; exact Nat.le_of_eq rfl) (hb hby at_203) (by decide) (by decide)
    have N109 := Fr.app NJ N109q
    have f110 := jE.keep K109
    have f115 := jV0.keep K109 (ninS ne52 (ninS ne62 nin0))
    have f116 := jV1.keep K109 (ninS ne53 (ninS ne64 nin0))
    have f117 := jV2.keep K109 (ninS ne50 (ninS ne60 nin0))
    have f118 := jV3.keep K109 (ninS ne51 (ninS ne61 nin0))
    have Z109 : n0 ≤ T109.heap.size := Nat.le_trans ZJ K109.1
    refine own_Fin.step st109 ?_
    show own_Fin p e below s _ _ _ (T109.setTop (mkF m 206 #[.val (.int p1), .val (.int p2), .val (.int p3), .val (.int p4), .val (.int p5), .val (.int p6), .val (.int mo), .val (.ref b3), .val (.ref b7), .val (.ref b17), .val (.ref b27), .val (.ref b49), .val (.int he), .val (.int (own_full he mo)), .val (.int (1 : Int32)), s15] [(.int bz109)]))
    rcases hb109 with rfl | ⟨rfl, hlt⟩
    ·
      have Fh109' := own_sub0 Fh109
      show own_Fin p e below s _ _ _ (T109.setTop (mkF m 206 #[.val (.int p1), .val (.int p2), .val (.int p3), .val (.int p4), .val (.int p5), .val (.int p6), .val (.int mo), .val (.ref b3), .val (.ref b7), .val (.ref b17), .val (.ref b27), .val (.ref b49), .val (.int he), .val (.int (own_full he mo)), .val (.int (1 : Int32)), s15] [(.int (0 : Int32))]))
      refine own_Fin.step (fun _ => XS.istore X109.here hx rfl (hb hby at_206) rfl (l' := #[.val (.int p1), .val (.int p2), .val (.int p3), .val (.int p4), .val (.int p5), .val (.int p6), .val (.int mo), .val (.ref b3), .val (.ref b7), .val (.ref b17), .val (.ref b27), .val (.ref b49), .val (.int he), .val (.int (own_full he mo)), .val (.int (1 : Int32)), .val (.int (0 : Int32))]) (XS.store1 (o := s15) rfl hs15 rfl)) ?_
      show own_Fin p e below s _ _ _ (T109.setTop (mkF m 208 #[.val (.int p1), .val (.int p2), .val (.int p3), .val (.int p4), .val (.int p5), .val (.int p6), .val (.int mo), .val (.ref b3), .val (.ref b7), .val (.ref b17), .val (.ref b27), .val (.ref b49), .val (.int he), .val (.int (own_full he mo)), .val (.int (1 : Int32)), .val (.int (0 : Int32))] []))
      refine own_Fin.step (fun _ => XS.iload X109.here hx rfl (hb hby at_208) rfl) ?_
      show own_Fin p e below s _ _ _ (T109.setTop (mkF m 210 #[.val (.int p1), .val (.int p2), .val (.int p3), .val (.int p4), .val (.int p5), .val (.int p6), .val (.int mo), .val (.ref b3), .val (.ref b7), .val (.ref b17), .val (.ref b27), .val (.ref b49), .val (.int he), .val (.int (own_full he mo)), .val (.int (1 : Int32)), .val (.int (0 : Int32))] [(.int (1 : Int32))]))
      refine own_Fin.step (fun _ => XS.ifNo X109.here hx rfl (hb hby at_210) rfl (XT.i0_eq_f (by decide : ¬ ((1 : Int32) = (0 : Int32))))) ?_
      show own_Fin p e below s _ _ _ (T109.setTop (mkF m 213 #[.val (.int p1), .val (.int p2), .val (.int p3), .val (.int p4), .val (.int p5), .val (.int p6), .val (.int mo), .val (.ref b3), .val (.ref b7), .val (.ref b17), .val (.ref b27), .val (.ref b49), .val (.int he), .val (.int (own_full he mo)), .val (.int (1 : Int32)), .val (.int (0 : Int32))] []))
      refine own_Fin.step (fun _ => XS.iload X109.here hx rfl (hb hby at_213) rfl) ?_
      show own_Fin p e below s _ _ _ (T109.setTop (mkF m 215 #[.val (.int p1), .val (.int p2), .val (.int p3), .val (.int p4), .val (.int p5), .val (.int p6), .val (.int mo), .val (.ref b3), .val (.ref b7), .val (.ref b17), .val (.ref b27), .val (.ref b49), .val (.int he), .val (.int (own_full he mo)), .val (.int (1 : Int32)), .val (.int (0 : Int32))] [(.int (own_full he mo))]))
      by_cases hc215_119 : (own_full he mo) = (0 : Int32)
      ·
        refine own_Fin.step (fun _ => XS.ifYes X109.here hx rfl (pc0 := 215) (pc' := 223) rfl (hb hby at_215) rfl (XT.i0_eq_t hc215_119) (by decide) (by decide)) ?_
        show own_Fin p e below s _ _ _ (T109.setTop (mkF m 223 #[.val (.int p1), .val (.int p2), .val (.int p3), .val (.int p4), .val (.int p5), .val (.int p6), .val (.int mo), .val (.ref b3), .val (.ref b7), .val (.ref b17), .val (.ref b27), .val (.ref b49), .val (.int he), .val (.int (own_full he mo)), .val (.int (1 : Int32)), .val (.int (0 : Int32))] []))
        refine own_Fin.step (fun _ => XS.iconst X109.here hx rfl (hb hby at_223)) ?_
        show own_Fin p e below s _ _ _ (T109.setTop (mkF m 224 #[.val (.int p1), .val (.int p2), .val (.int p3), .val (.int p4), .val (.int p5), .val (.int p6), .val (.int mo), .val (.ref b3), .val (.ref b7), .val (.ref b17), .val (.ref b27), .val (.ref b49), .val (.int he), .val (.int (own_full he mo)), .val (.int (1 : Int32)), .val (.int (0 : Int32))] [(.int (1 : Int32))]))
        refine own_Fin.step (fun _ => XS.goto X109.here hx rfl (pc0 := 224) (pc' := 228) rfl (hb hby at_224) (by decide) (by decide)) ?_
        show own_Fin p e below s _ _ _ (T109.setTop (mkF m 228 #[.val (.int p1), .val (.int p2), .val (.int p3), .val (.int p4), .val (.int p5), .val (.int p6), .val (.int mo), .val (.ref b3), .val (.ref b7), .val (.ref b17), .val (.ref b27), .val (.ref b49), .val (.int he), .val (.int (own_full he mo)), .val (.int (1 : Int32)), .val (.int (0 : Int32))] [(.int (1 : Int32))]))
        refine own_Fin.step (fun _ => XS.istore X109.here hx rfl (hb hby at_228) rfl (l' := #[.val (.int p1), .val (.int p2), .val (.int p3), .val (.int p4), .val (.int p5), .val (.int p6), .val (.int mo), .val (.ref b3), .val (.ref b7), .val (.ref b17), .val (.ref b27), .val (.ref b49), .val (.int he), .val (.int (own_full he mo)), .val (.int (1 : Int32)), .val (.int (0 : Int32))]) rfl) ?_
        show own_Fin p e below s _ _ _ (T109.setTop (mkF m 230 #[.val (.int p1), .val (.int p2), .val (.int p3), .val (.int p4), .val (.int p5), .val (.int p6), .val (.int mo), .val (.ref b3), .val (.ref b7), .val (.ref b17), .val (.ref b27), .val (.ref b49), .val (.int he), .val (.int (own_full he mo)), .val (.int (1 : Int32)), .val (.int (0 : Int32))] []))
        refine own_Fin.step (fun _ => XS.iload X109.here hx rfl (hb hby at_230) rfl) ?_
        show own_Fin p e below s _ _ _ (T109.setTop (mkF m 232 #[.val (.int p1), .val (.int p2), .val (.int p3), .val (.int p4), .val (.int p5), .val (.int p6), .val (.int mo), .val (.ref b3), .val (.ref b7), .val (.ref b17), .val (.ref b27), .val (.ref b49), .val (.int he), .val (.int (own_full he mo)), .val (.int (1 : Int32)), .val (.int (0 : Int32))] [(.int (0 : Int32))]))
        refine own_Fin.step (fun _ => XS.ifYes X109.here hx rfl (pc0 := 232) (pc' := 238) rfl (hb hby at_232) rfl (XT.i0_eq_t (by decide : (0 : Int32) = (0 : Int32))) (by decide) (by decide)) ?_
        show own_Fin p e below s _ _ _ (T109.setTop (mkF m 238 #[.val (.int p1), .val (.int p2), .val (.int p3), .val (.int p4), .val (.int p5), .val (.int p6), .val (.int mo), .val (.ref b3), .val (.ref b7), .val (.ref b17), .val (.ref b27), .val (.ref b49), .val (.int he), .val (.int (own_full he mo)), .val (.int (1 : Int32)), .val (.int (0 : Int32))] []))
        refine own_Fin.step (fun _ => XS.aload X109.here hx rfl (hb hby at_238) rfl rfl) ?_
        show own_Fin p e below s _ _ _ (T109.setTop (mkF m 240 #[.val (.int p1), .val (.int p2), .val (.int p3), .val (.int p4), .val (.int p5), .val (.int p6), .val (.int mo), .val (.ref b3), .val (.ref b7), .val (.ref b17), .val (.ref b27), .val (.ref b49), .val (.int he), .val (.int (own_full he mo)), .val (.int (1 : Int32)), .val (.int (0 : Int32))] [(.ref b49)]))
        obtain ⟨_, T120, L120, X120, ⟨rfl, N120q, e120⟩, st120⟩ := own_callV X109 hx hZ hown (own_w hw 16 rfl) (own_w hw 17 rfl) (own_w hw 19 rfl) (own_w hw 18 rfl) (own_w hw 3 rfl) (own_w hw 20 rfl) (by decide) (rm2 l Z a0 hw b49 he mo T109.heap n0 Z109 Fh109' Fm109) (by decide) (by decide) A109 rfl (W := 0) (g := (mkF m 240 #[.val (.int p1), .val (.int p2), .val (.int p3), .val (.int p4), .val (.int p5), .val (.int p6), .val (.int mo), .val (.ref b3), .val (.ref b7), .val (.ref b17), .val (.ref b27), .val (.ref b49), .val (.int he), .val (.int (own_full he mo)), .val (.int (1 : Int32)), .val (.int (0 : Int32))] [(.ref b49)])) rfl (by rw [hml]; rfl) (argsL := []) (rest := []) (lenOf pd_5 rfl) rfl rfl (by show 2 * 0 + _ ≤ _; exact Nat.le_of_eq rfl) (hb hby at_240) (by decide) (by decide)
        have N120 := Fr.app N109 N120q
        refine own_Fin.step st120 ?_
        show own_Fin p e below s _ _ _ (T120.setTop (mkF m 243 #[.val (.int p1), .val (.int p2), .val (.int p3), .val (.int p4), .val (.int p5), .val (.int p6), .val (.int mo), .val (.ref b3), .val (.ref b7), .val (.ref b17), .val (.ref b27), .val (.ref b49), .val (.int he), .val (.int (own_full he mo)), .val (.int (1 : Int32)), .val (.int (0 : Int32))] [(.int (own_full he mo))]))
        refine own_Fin.step (fun _ => XS.istore X120.here hx rfl (hb hby at_243) rfl (l' := #[.val (.int p1), .val (.int p2), .val (.int p3), .val (.int p4), .val (.int p5), .val (.int p6), .val (.int mo), .val (.ref b3), .val (.ref b7), .val (.ref b17), .val (.ref b27), .val (.ref b49), .val (.int he), .val (.int (own_full he mo)), .val (.int (1 : Int32)), .val (.int (0 : Int32))]) rfl) ?_
        show own_Fin p e below s _ _ _ (T120.setTop (mkF m 245 #[.val (.int p1), .val (.int p2), .val (.int p3), .val (.int p4), .val (.int p5), .val (.int p6), .val (.int mo), .val (.ref b3), .val (.ref b7), .val (.ref b17), .val (.ref b27), .val (.ref b49), .val (.int he), .val (.int (own_full he mo)), .val (.int (1 : Int32)), .val (.int (0 : Int32))] []))
        refine own_Fin.step (fun _ => XS.iload X120.here hx rfl (hb hby at_245) rfl) ?_
        show own_Fin p e below s _ _ _ (T120.setTop (mkF m 247 #[.val (.int p1), .val (.int p2), .val (.int p3), .val (.int p4), .val (.int p5), .val (.int p6), .val (.int mo), .val (.ref b3), .val (.ref b7), .val (.ref b17), .val (.ref b27), .val (.ref b49), .val (.int he), .val (.int (own_full he mo)), .val (.int (1 : Int32)), .val (.int (0 : Int32))] [(.int (1 : Int32))]))
        refine own_Fin.step (fun _ => XS.ifNo X120.here hx rfl (hb hby at_247) rfl (XT.i0_eq_f (by decide : ¬ ((1 : Int32) = (0 : Int32))))) ?_
        show own_Fin p e below s _ _ _ (T120.setTop (mkF m 250 #[.val (.int p1), .val (.int p2), .val (.int p3), .val (.int p4), .val (.int p5), .val (.int p6), .val (.int mo), .val (.ref b3), .val (.ref b7), .val (.ref b17), .val (.ref b27), .val (.ref b49), .val (.int he), .val (.int (own_full he mo)), .val (.int (1 : Int32)), .val (.int (0 : Int32))] []))
        refine own_Fin.step (fun _ => XS.iload X120.here hx rfl (hb hby at_250) rfl) ?_
        show own_Fin p e below s _ _ _ (T120.setTop (mkF m 252 #[.val (.int p1), .val (.int p2), .val (.int p3), .val (.int p4), .val (.int p5), .val (.int p6), .val (.int mo), .val (.ref b3), .val (.ref b7), .val (.ref b17), .val (.ref b27), .val (.ref b49), .val (.int he), .val (.int (own_full he mo)), .val (.int (1 : Int32)), .val (.int (0 : Int32))] [(.int (own_full he mo))]))
        refine own_Fin.step (fun _ => XS.iload X120.here hx rfl (hb hby at_252) rfl) ?_
        show own_Fin p e below s _ _ _ (T120.setTop (mkF m 254 #[.val (.int p1), .val (.int p2), .val (.int p3), .val (.int p4), .val (.int p5), .val (.int p6), .val (.int mo), .val (.ref b3), .val (.ref b7), .val (.ref b17), .val (.ref b27), .val (.ref b49), .val (.int he), .val (.int (own_full he mo)), .val (.int (1 : Int32)), .val (.int (0 : Int32))] [(.int he), (.int (own_full he mo))]))
        refine own_Fin.step (fun _ => XS.iload X120.here hx rfl (hb hby at_254) rfl) ?_
        show own_Fin p e below s _ _ _ (T120.setTop (mkF m 256 #[.val (.int p1), .val (.int p2), .val (.int p3), .val (.int p4), .val (.int p5), .val (.int p6), .val (.int mo), .val (.ref b3), .val (.ref b7), .val (.ref b17), .val (.ref b27), .val (.ref b49), .val (.int he), .val (.int (own_full he mo)), .val (.int (1 : Int32)), .val (.int (0 : Int32))] [(.int mo), (.int he), (.int (own_full he mo))]))
        by_cases hc256_121 : he = mo
        ·
          refine own_Fin.step (fun _ => XS.icmpNo X120.here hx rfl (hb hby at_256) rfl (XT.ii_ne_f hc256_121)) ?_
          show own_Fin p e below s _ _ _ (T120.setTop (mkF m 259 #[.val (.int p1), .val (.int p2), .val (.int p3), .val (.int p4), .val (.int p5), .val (.int p6), .val (.int mo), .val (.ref b3), .val (.ref b7), .val (.ref b17), .val (.ref b27), .val (.ref b49), .val (.int he), .val (.int (own_full he mo)), .val (.int (1 : Int32)), .val (.int (0 : Int32))] [(.int (own_full he mo))]))
          refine own_Fin.step (fun _ => XS.iconst X120.here hx rfl (hb hby at_259)) ?_
          show own_Fin p e below s _ _ _ (T120.setTop (mkF m 260 #[.val (.int p1), .val (.int p2), .val (.int p3), .val (.int p4), .val (.int p5), .val (.int p6), .val (.int mo), .val (.ref b3), .val (.ref b7), .val (.ref b17), .val (.ref b27), .val (.ref b49), .val (.int he), .val (.int (own_full he mo)), .val (.int (1 : Int32)), .val (.int (0 : Int32))] [(.int (1 : Int32)), (.int (own_full he mo))]))
          refine own_Fin.step (fun _ => XS.goto X120.here hx rfl (pc0 := 260) (pc' := 264) rfl (hb hby at_260) (by decide) (by decide)) ?_
          show own_Fin p e below s _ _ _ (T120.setTop (mkF m 264 #[.val (.int p1), .val (.int p2), .val (.int p3), .val (.int p4), .val (.int p5), .val (.int p6), .val (.int mo), .val (.ref b3), .val (.ref b7), .val (.ref b17), .val (.ref b27), .val (.ref b49), .val (.int he), .val (.int (own_full he mo)), .val (.int (1 : Int32)), .val (.int (0 : Int32))] [(.int (1 : Int32)), (.int (own_full he mo))]))
          refine own_Fin.step (fun _ => XS.icmpNo X120.here hx rfl (hb hby at_264) rfl (XT.ii_ne_f (if_pos hc256_121))) ?_
          show own_Fin p e below s _ _ _ (T120.setTop (mkF m 267 #[.val (.int p1), .val (.int p2), .val (.int p3), .val (.int p4), .val (.int p5), .val (.int p6), .val (.int mo), .val (.ref b3), .val (.ref b7), .val (.ref b17), .val (.ref b27), .val (.ref b49), .val (.int he), .val (.int (own_full he mo)), .val (.int (1 : Int32)), .val (.int (0 : Int32))] []))
          refine own_Fin.step (fun _ => XS.iconst X120.here hx rfl (hb hby at_267)) ?_
          show own_Fin p e below s _ _ _ (T120.setTop (mkF m 268 #[.val (.int p1), .val (.int p2), .val (.int p3), .val (.int p4), .val (.int p5), .val (.int p6), .val (.int mo), .val (.ref b3), .val (.ref b7), .val (.ref b17), .val (.ref b27), .val (.ref b49), .val (.int he), .val (.int (own_full he mo)), .val (.int (1 : Int32)), .val (.int (0 : Int32))] [(.int (1 : Int32))]))
          refine own_Fin.step (fun _ => XS.goto X120.here hx rfl (pc0 := 268) (pc' := 272) rfl (hb hby at_268) (by decide) (by decide)) ?_
          show own_Fin p e below s _ _ _ (T120.setTop (mkF m 272 #[.val (.int p1), .val (.int p2), .val (.int p3), .val (.int p4), .val (.int p5), .val (.int p6), .val (.int mo), .val (.ref b3), .val (.ref b7), .val (.ref b17), .val (.ref b27), .val (.ref b49), .val (.int he), .val (.int (own_full he mo)), .val (.int (1 : Int32)), .val (.int (0 : Int32))] [(.int (1 : Int32))]))
          refine own_Fin.step (fun _ => XS.istore X120.here hx rfl (hb hby at_272) rfl (l' := #[.val (.int p1), .val (.int p2), .val (.int p3), .val (.int p4), .val (.int p5), .val (.int p6), .val (.int mo), .val (.ref b3), .val (.ref b7), .val (.ref b17), .val (.ref b27), .val (.ref b49), .val (.int he), .val (.int (own_full he mo)), .val (.int (1 : Int32)), .val (.int (0 : Int32))]) rfl) ?_
          exact j274 _ _ _ _ _ _ X120 N120 e120 Z109 (One.val rfl) ⟨jr.1, by omega⟩ jm A109 Fs109 Fm109 Fh109' V109 f115 f116 f117 f118 few109
        ·
          refine own_Fin.step (fun _ => XS.icmpYes X120.here hx rfl (pc0 := 256) (pc' := 263) rfl (hb hby at_256) rfl (XT.ii_ne_t hc256_121) (by decide) (by decide)) ?_
          show own_Fin p e below s _ _ _ (T120.setTop (mkF m 263 #[.val (.int p1), .val (.int p2), .val (.int p3), .val (.int p4), .val (.int p5), .val (.int p6), .val (.int mo), .val (.ref b3), .val (.ref b7), .val (.ref b17), .val (.ref b27), .val (.ref b49), .val (.int he), .val (.int (own_full he mo)), .val (.int (1 : Int32)), .val (.int (0 : Int32))] [(.int (own_full he mo))]))
          refine own_Fin.step (fun _ => XS.iconst X120.here hx rfl (hb hby at_263)) ?_
          show own_Fin p e below s _ _ _ (T120.setTop (mkF m 264 #[.val (.int p1), .val (.int p2), .val (.int p3), .val (.int p4), .val (.int p5), .val (.int p6), .val (.int mo), .val (.ref b3), .val (.ref b7), .val (.ref b17), .val (.ref b27), .val (.ref b49), .val (.int he), .val (.int (own_full he mo)), .val (.int (1 : Int32)), .val (.int (0 : Int32))] [(.int (0 : Int32)), (.int (own_full he mo))]))
          refine own_Fin.step (fun _ => XS.icmpNo X120.here hx rfl (hb hby at_264) rfl (XT.ii_ne_f (if_neg hc256_121))) ?_
          show own_Fin p e below s _ _ _ (T120.setTop (mkF m 267 #[.val (.int p1), .val (.int p2), .val (.int p3), .val (.int p4), .val (.int p5), .val (.int p6), .val (.int mo), .val (.ref b3), .val (.ref b7), .val (.ref b17), .val (.ref b27), .val (.ref b49), .val (.int he), .val (.int (own_full he mo)), .val (.int (1 : Int32)), .val (.int (0 : Int32))] []))
          refine own_Fin.step (fun _ => XS.iconst X120.here hx rfl (hb hby at_267)) ?_
          show own_Fin p e below s _ _ _ (T120.setTop (mkF m 268 #[.val (.int p1), .val (.int p2), .val (.int p3), .val (.int p4), .val (.int p5), .val (.int p6), .val (.int mo), .val (.ref b3), .val (.ref b7), .val (.ref b17), .val (.ref b27), .val (.ref b49), .val (.int he), .val (.int (own_full he mo)), .val (.int (1 : Int32)), .val (.int (0 : Int32))] [(.int (1 : Int32))]))
          refine own_Fin.step (fun _ => XS.goto X120.here hx rfl (pc0 := 268) (pc' := 272) rfl (hb hby at_268) (by decide) (by decide)) ?_
          show own_Fin p e below s _ _ _ (T120.setTop (mkF m 272 #[.val (.int p1), .val (.int p2), .val (.int p3), .val (.int p4), .val (.int p5), .val (.int p6), .val (.int mo), .val (.ref b3), .val (.ref b7), .val (.ref b17), .val (.ref b27), .val (.ref b49), .val (.int he), .val (.int (own_full he mo)), .val (.int (1 : Int32)), .val (.int (0 : Int32))] [(.int (1 : Int32))]))
          refine own_Fin.step (fun _ => XS.istore X120.here hx rfl (hb hby at_272) rfl (l' := #[.val (.int p1), .val (.int p2), .val (.int p3), .val (.int p4), .val (.int p5), .val (.int p6), .val (.int mo), .val (.ref b3), .val (.ref b7), .val (.ref b17), .val (.ref b27), .val (.ref b49), .val (.int he), .val (.int (own_full he mo)), .val (.int (1 : Int32)), .val (.int (0 : Int32))]) rfl) ?_
          exact j274 _ _ _ _ _ _ X120 N120 e120 Z109 (One.val rfl) ⟨jr.1, by omega⟩ jm A109 Fs109 Fm109 Fh109' V109 f115 f116 f117 f118 few109
      ·
        refine own_Fin.step (fun _ => XS.ifNo X109.here hx rfl (hb hby at_215) rfl (XT.i0_eq_f hc215_119)) ?_
        show own_Fin p e below s _ _ _ (T109.setTop (mkF m 218 #[.val (.int p1), .val (.int p2), .val (.int p3), .val (.int p4), .val (.int p5), .val (.int p6), .val (.int mo), .val (.ref b3), .val (.ref b7), .val (.ref b17), .val (.ref b27), .val (.ref b49), .val (.int he), .val (.int (own_full he mo)), .val (.int (1 : Int32)), .val (.int (0 : Int32))] []))
        refine own_Fin.step (fun _ => XS.iload X109.here hx rfl (hb hby at_218) rfl) ?_
        show own_Fin p e below s _ _ _ (T109.setTop (mkF m 220 #[.val (.int p1), .val (.int p2), .val (.int p3), .val (.int p4), .val (.int p5), .val (.int p6), .val (.int mo), .val (.ref b3), .val (.ref b7), .val (.ref b17), .val (.ref b27), .val (.ref b49), .val (.int he), .val (.int (own_full he mo)), .val (.int (1 : Int32)), .val (.int (0 : Int32))] [(.int (0 : Int32))]))
        refine own_Fin.step (fun _ => XS.ifNo X109.here hx rfl (hb hby at_220) rfl (XT.i0_ne_f (by decide : (0 : Int32) = (0 : Int32)))) ?_
        show own_Fin p e below s _ _ _ (T109.setTop (mkF m 223 #[.val (.int p1), .val (.int p2), .val (.int p3), .val (.int p4), .val (.int p5), .val (.int p6), .val (.int mo), .val (.ref b3), .val (.ref b7), .val (.ref b17), .val (.ref b27), .val (.ref b49), .val (.int he), .val (.int (own_full he mo)), .val (.int (1 : Int32)), .val (.int (0 : Int32))] []))
        refine own_Fin.step (fun _ => XS.iconst X109.here hx rfl (hb hby at_223)) ?_
        show own_Fin p e below s _ _ _ (T109.setTop (mkF m 224 #[.val (.int p1), .val (.int p2), .val (.int p3), .val (.int p4), .val (.int p5), .val (.int p6), .val (.int mo), .val (.ref b3), .val (.ref b7), .val (.ref b17), .val (.ref b27), .val (.ref b49), .val (.int he), .val (.int (own_full he mo)), .val (.int (1 : Int32)), .val (.int (0 : Int32))] [(.int (1 : Int32))]))
        refine own_Fin.step (fun _ => XS.goto X109.here hx rfl (pc0 := 224) (pc' := 228) rfl (hb hby at_224) (by decide) (by decide)) ?_
        show own_Fin p e below s _ _ _ (T109.setTop (mkF m 228 #[.val (.int p1), .val (.int p2), .val (.int p3), .val (.int p4), .val (.int p5), .val (.int p6), .val (.int mo), .val (.ref b3), .val (.ref b7), .val (.ref b17), .val (.ref b27), .val (.ref b49), .val (.int he), .val (.int (own_full he mo)), .val (.int (1 : Int32)), .val (.int (0 : Int32))] [(.int (1 : Int32))]))
        refine own_Fin.step (fun _ => XS.istore X109.here hx rfl (hb hby at_228) rfl (l' := #[.val (.int p1), .val (.int p2), .val (.int p3), .val (.int p4), .val (.int p5), .val (.int p6), .val (.int mo), .val (.ref b3), .val (.ref b7), .val (.ref b17), .val (.ref b27), .val (.ref b49), .val (.int he), .val (.int (own_full he mo)), .val (.int (1 : Int32)), .val (.int (0 : Int32))]) rfl) ?_
        show own_Fin p e below s _ _ _ (T109.setTop (mkF m 230 #[.val (.int p1), .val (.int p2), .val (.int p3), .val (.int p4), .val (.int p5), .val (.int p6), .val (.int mo), .val (.ref b3), .val (.ref b7), .val (.ref b17), .val (.ref b27), .val (.ref b49), .val (.int he), .val (.int (own_full he mo)), .val (.int (1 : Int32)), .val (.int (0 : Int32))] []))
        refine own_Fin.step (fun _ => XS.iload X109.here hx rfl (hb hby at_230) rfl) ?_
        show own_Fin p e below s _ _ _ (T109.setTop (mkF m 232 #[.val (.int p1), .val (.int p2), .val (.int p3), .val (.int p4), .val (.int p5), .val (.int p6), .val (.int mo), .val (.ref b3), .val (.ref b7), .val (.ref b17), .val (.ref b27), .val (.ref b49), .val (.int he), .val (.int (own_full he mo)), .val (.int (1 : Int32)), .val (.int (0 : Int32))] [(.int (0 : Int32))]))
        refine own_Fin.step (fun _ => XS.ifYes X109.here hx rfl (pc0 := 232) (pc' := 238) rfl (hb hby at_232) rfl (XT.i0_eq_t (by decide : (0 : Int32) = (0 : Int32))) (by decide) (by decide)) ?_
        show own_Fin p e below s _ _ _ (T109.setTop (mkF m 238 #[.val (.int p1), .val (.int p2), .val (.int p3), .val (.int p4), .val (.int p5), .val (.int p6), .val (.int mo), .val (.ref b3), .val (.ref b7), .val (.ref b17), .val (.ref b27), .val (.ref b49), .val (.int he), .val (.int (own_full he mo)), .val (.int (1 : Int32)), .val (.int (0 : Int32))] []))
        refine own_Fin.step (fun _ => XS.aload X109.here hx rfl (hb hby at_238) rfl rfl) ?_
        show own_Fin p e below s _ _ _ (T109.setTop (mkF m 240 #[.val (.int p1), .val (.int p2), .val (.int p3), .val (.int p4), .val (.int p5), .val (.int p6), .val (.int mo), .val (.ref b3), .val (.ref b7), .val (.ref b17), .val (.ref b27), .val (.ref b49), .val (.int he), .val (.int (own_full he mo)), .val (.int (1 : Int32)), .val (.int (0 : Int32))] [(.ref b49)]))
        obtain ⟨_, T122, L122, X122, ⟨rfl, N122q, e122⟩, st122⟩ := own_callV X109 hx hZ hown (own_w hw 16 rfl) (own_w hw 17 rfl) (own_w hw 19 rfl) (own_w hw 18 rfl) (own_w hw 3 rfl) (own_w hw 20 rfl) (by decide) (rm2 l Z a0 hw b49 he mo T109.heap n0 Z109 Fh109' Fm109) (by decide) (by decide) A109 rfl (W := 0) (g := (mkF m 240 #[.val (.int p1), .val (.int p2), .val (.int p3), .val (.int p4), .val (.int p5), .val (.int p6), .val (.int mo), .val (.ref b3), .val (.ref b7), .val (.ref b17), .val (.ref b27), .val (.ref b49), .val (.int he), .val (.int (own_full he mo)), .val (.int (1 : Int32)), .val (.int (0 : Int32))] [(.ref b49)])) rfl (by rw [hml]; rfl) (argsL := []) (rest := []) (lenOf pd_5 rfl) rfl rfl (by show 2 * 0 + _ ≤ _; exact Nat.le_of_eq rfl) (hb hby at_240) (by decide) (by decide)
        have N122 := Fr.app N109 N122q
        refine own_Fin.step st122 ?_
        show own_Fin p e below s _ _ _ (T122.setTop (mkF m 243 #[.val (.int p1), .val (.int p2), .val (.int p3), .val (.int p4), .val (.int p5), .val (.int p6), .val (.int mo), .val (.ref b3), .val (.ref b7), .val (.ref b17), .val (.ref b27), .val (.ref b49), .val (.int he), .val (.int (own_full he mo)), .val (.int (1 : Int32)), .val (.int (0 : Int32))] [(.int (own_full he mo))]))
        refine own_Fin.step (fun _ => XS.istore X122.here hx rfl (hb hby at_243) rfl (l' := #[.val (.int p1), .val (.int p2), .val (.int p3), .val (.int p4), .val (.int p5), .val (.int p6), .val (.int mo), .val (.ref b3), .val (.ref b7), .val (.ref b17), .val (.ref b27), .val (.ref b49), .val (.int he), .val (.int (own_full he mo)), .val (.int (1 : Int32)), .val (.int (0 : Int32))]) rfl) ?_
        show own_Fin p e below s _ _ _ (T122.setTop (mkF m 245 #[.val (.int p1), .val (.int p2), .val (.int p3), .val (.int p4), .val (.int p5), .val (.int p6), .val (.int mo), .val (.ref b3), .val (.ref b7), .val (.ref b17), .val (.ref b27), .val (.ref b49), .val (.int he), .val (.int (own_full he mo)), .val (.int (1 : Int32)), .val (.int (0 : Int32))] []))
        refine own_Fin.step (fun _ => XS.iload X122.here hx rfl (hb hby at_245) rfl) ?_
        show own_Fin p e below s _ _ _ (T122.setTop (mkF m 247 #[.val (.int p1), .val (.int p2), .val (.int p3), .val (.int p4), .val (.int p5), .val (.int p6), .val (.int mo), .val (.ref b3), .val (.ref b7), .val (.ref b17), .val (.ref b27), .val (.ref b49), .val (.int he), .val (.int (own_full he mo)), .val (.int (1 : Int32)), .val (.int (0 : Int32))] [(.int (1 : Int32))]))
        refine own_Fin.step (fun _ => XS.ifNo X122.here hx rfl (hb hby at_247) rfl (XT.i0_eq_f (by decide : ¬ ((1 : Int32) = (0 : Int32))))) ?_
        show own_Fin p e below s _ _ _ (T122.setTop (mkF m 250 #[.val (.int p1), .val (.int p2), .val (.int p3), .val (.int p4), .val (.int p5), .val (.int p6), .val (.int mo), .val (.ref b3), .val (.ref b7), .val (.ref b17), .val (.ref b27), .val (.ref b49), .val (.int he), .val (.int (own_full he mo)), .val (.int (1 : Int32)), .val (.int (0 : Int32))] []))
        refine own_Fin.step (fun _ => XS.iload X122.here hx rfl (hb hby at_250) rfl) ?_
        show own_Fin p e below s _ _ _ (T122.setTop (mkF m 252 #[.val (.int p1), .val (.int p2), .val (.int p3), .val (.int p4), .val (.int p5), .val (.int p6), .val (.int mo), .val (.ref b3), .val (.ref b7), .val (.ref b17), .val (.ref b27), .val (.ref b49), .val (.int he), .val (.int (own_full he mo)), .val (.int (1 : Int32)), .val (.int (0 : Int32))] [(.int (own_full he mo))]))
        refine own_Fin.step (fun _ => XS.iload X122.here hx rfl (hb hby at_252) rfl) ?_
        show own_Fin p e below s _ _ _ (T122.setTop (mkF m 254 #[.val (.int p1), .val (.int p2), .val (.int p3), .val (.int p4), .val (.int p5), .val (.int p6), .val (.int mo), .val (.ref b3), .val (.ref b7), .val (.ref b17), .val (.ref b27), .val (.ref b49), .val (.int he), .val (.int (own_full he mo)), .val (.int (1 : Int32)), .val (.int (0 : Int32))] [(.int he), (.int (own_full he mo))]))
        refine own_Fin.step (fun _ => XS.iload X122.here hx rfl (hb hby at_254) rfl) ?_
        show own_Fin p e below s _ _ _ (T122.setTop (mkF m 256 #[.val (.int p1), .val (.int p2), .val (.int p3), .val (.int p4), .val (.int p5), .val (.int p6), .val (.int mo), .val (.ref b3), .val (.ref b7), .val (.ref b17), .val (.ref b27), .val (.ref b49), .val (.int he), .val (.int (own_full he mo)), .val (.int (1 : Int32)), .val (.int (0 : Int32))] [(.int mo), (.int he), (.int (own_full he mo))]))
        by_cases hc256_123 : he = mo
        ·
          refine own_Fin.step (fun _ => XS.icmpNo X122.here hx rfl (hb hby at_256) rfl (XT.ii_ne_f hc256_123)) ?_
          show own_Fin p e below s _ _ _ (T122.setTop (mkF m 259 #[.val (.int p1), .val (.int p2), .val (.int p3), .val (.int p4), .val (.int p5), .val (.int p6), .val (.int mo), .val (.ref b3), .val (.ref b7), .val (.ref b17), .val (.ref b27), .val (.ref b49), .val (.int he), .val (.int (own_full he mo)), .val (.int (1 : Int32)), .val (.int (0 : Int32))] [(.int (own_full he mo))]))
          refine own_Fin.step (fun _ => XS.iconst X122.here hx rfl (hb hby at_259)) ?_
          show own_Fin p e below s _ _ _ (T122.setTop (mkF m 260 #[.val (.int p1), .val (.int p2), .val (.int p3), .val (.int p4), .val (.int p5), .val (.int p6), .val (.int mo), .val (.ref b3), .val (.ref b7), .val (.ref b17), .val (.ref b27), .val (.ref b49), .val (.int he), .val (.int (own_full he mo)), .val (.int (1 : Int32)), .val (.int (0 : Int32))] [(.int (1 : Int32)), (.int (own_full he mo))]))
          refine own_Fin.step (fun _ => XS.goto X122.here hx rfl (pc0 := 260) (pc' := 264) rfl (hb hby at_260) (by decide) (by decide)) ?_
          show own_Fin p e below s _ _ _ (T122.setTop (mkF m 264 #[.val (.int p1), .val (.int p2), .val (.int p3), .val (.int p4), .val (.int p5), .val (.int p6), .val (.int mo), .val (.ref b3), .val (.ref b7), .val (.ref b17), .val (.ref b27), .val (.ref b49), .val (.int he), .val (.int (own_full he mo)), .val (.int (1 : Int32)), .val (.int (0 : Int32))] [(.int (1 : Int32)), (.int (own_full he mo))]))
          refine own_Fin.step (fun _ => XS.icmpNo X122.here hx rfl (hb hby at_264) rfl (XT.ii_ne_f (if_pos hc256_123))) ?_
          show own_Fin p e below s _ _ _ (T122.setTop (mkF m 267 #[.val (.int p1), .val (.int p2), .val (.int p3), .val (.int p4), .val (.int p5), .val (.int p6), .val (.int mo), .val (.ref b3), .val (.ref b7), .val (.ref b17), .val (.ref b27), .val (.ref b49), .val (.int he), .val (.int (own_full he mo)), .val (.int (1 : Int32)), .val (.int (0 : Int32))] []))
          refine own_Fin.step (fun _ => XS.iconst X122.here hx rfl (hb hby at_267)) ?_
          show own_Fin p e below s _ _ _ (T122.setTop (mkF m 268 #[.val (.int p1), .val (.int p2), .val (.int p3), .val (.int p4), .val (.int p5), .val (.int p6), .val (.int mo), .val (.ref b3), .val (.ref b7), .val (.ref b17), .val (.ref b27), .val (.ref b49), .val (.int he), .val (.int (own_full he mo)), .val (.int (1 : Int32)), .val (.int (0 : Int32))] [(.int (1 : Int32))]))
          refine own_Fin.step (fun _ => XS.goto X122.here hx rfl (pc0 := 268) (pc' := 272) rfl (hb hby at_268) (by decide) (by decide)) ?_
          show own_Fin p e below s _ _ _ (T122.setTop (mkF m 272 #[.val (.int p1), .val (.int p2), .val (.int p3), .val (.int p4), .val (.int p5), .val (.int p6), .val (.int mo), .val (.ref b3), .val (.ref b7), .val (.ref b17), .val (.ref b27), .val (.ref b49), .val (.int he), .val (.int (own_full he mo)), .val (.int (1 : Int32)), .val (.int (0 : Int32))] [(.int (1 : Int32))]))
          refine own_Fin.step (fun _ => XS.istore X122.here hx rfl (hb hby at_272) rfl (l' := #[.val (.int p1), .val (.int p2), .val (.int p3), .val (.int p4), .val (.int p5), .val (.int p6), .val (.int mo), .val (.ref b3), .val (.ref b7), .val (.ref b17), .val (.ref b27), .val (.ref b49), .val (.int he), .val (.int (own_full he mo)), .val (.int (1 : Int32)), .val (.int (0 : Int32))]) rfl) ?_
          exact j274 _ _ _ _ _ _ X122 N122 e122 Z109 (One.val rfl) ⟨jr.1, by omega⟩ jm A109 Fs109 Fm109 Fh109' V109 f115 f116 f117 f118 few109
        ·
          refine own_Fin.step (fun _ => XS.icmpYes X122.here hx rfl (pc0 := 256) (pc' := 263) rfl (hb hby at_256) rfl (XT.ii_ne_t hc256_123) (by decide) (by decide)) ?_
          show own_Fin p e below s _ _ _ (T122.setTop (mkF m 263 #[.val (.int p1), .val (.int p2), .val (.int p3), .val (.int p4), .val (.int p5), .val (.int p6), .val (.int mo), .val (.ref b3), .val (.ref b7), .val (.ref b17), .val (.ref b27), .val (.ref b49), .val (.int he), .val (.int (own_full he mo)), .val (.int (1 : Int32)), .val (.int (0 : Int32))] [(.int (own_full he mo))]))
          refine own_Fin.step (fun _ => XS.iconst X122.here hx rfl (hb hby at_263)) ?_
          show own_Fin p e below s _ _ _ (T122.setTop (mkF m 264 #[.val (.int p1), .val (.int p2), .val (.int p3), .val (.int p4), .val (.int p5), .val (.int p6), .val (.int mo), .val (.ref b3), .val (.ref b7), .val (.ref b17), .val (.ref b27), .val (.ref b49), .val (.int he), .val (.int (own_full he mo)), .val (.int (1 : Int32)), .val (.int (0 : Int32))] [(.int (0 : Int32)), (.int (own_full he mo))]))
          refine own_Fin.step (fun _ => XS.icmpNo X122.here hx rfl (hb hby at_264) rfl (XT.ii_ne_f (if_neg hc256_123))) ?_
          show own_Fin p e below s _ _ _ (T122.setTop (mkF m 267 #[.val (.int p1), .val (.int p2), .val (.int p3), .val (.int p4), .val (.int p5), .val (.int p6), .val (.int mo), .val (.ref b3), .val (.ref b7), .val (.ref b17), .val (.ref b27), .val (.ref b49), .val (.int he), .val (.int (own_full he mo)), .val (.int (1 : Int32)), .val (.int (0 : Int32))] []))
          refine own_Fin.step (fun _ => XS.iconst X122.here hx rfl (hb hby at_267)) ?_
          show own_Fin p e below s _ _ _ (T122.setTop (mkF m 268 #[.val (.int p1), .val (.int p2), .val (.int p3), .val (.int p4), .val (.int p5), .val (.int p6), .val (.int mo), .val (.ref b3), .val (.ref b7), .val (.ref b17), .val (.ref b27), .val (.ref b49), .val (.int he), .val (.int (own_full he mo)), .val (.int (1 : Int32)), .val (.int (0 : Int32))] [(.int (1 : Int32))]))
          refine own_Fin.step (fun _ => XS.goto X122.here hx rfl (pc0 := 268) (pc' := 272) rfl (hb hby at_268) (by decide) (by decide)) ?_
          show own_Fin p e below s _ _ _ (T122.setTop (mkF m 272 #[.val (.int p1), .val (.int p2), .val (.int p3), .val (.int p4), .val (.int p5), .val (.int p6), .val (.int mo), .val (.ref b3), .val (.ref b7), .val (.ref b17), .val (.ref b27), .val (.ref b49), .val (.int he), .val (.int (own_full he mo)), .val (.int (1 : Int32)), .val (.int (0 : Int32))] [(.int (1 : Int32))]))
          refine own_Fin.step (fun _ => XS.istore X122.here hx rfl (hb hby at_272) rfl (l' := #[.val (.int p1), .val (.int p2), .val (.int p3), .val (.int p4), .val (.int p5), .val (.int p6), .val (.int mo), .val (.ref b3), .val (.ref b7), .val (.ref b17), .val (.ref b27), .val (.ref b49), .val (.int he), .val (.int (own_full he mo)), .val (.int (1 : Int32)), .val (.int (0 : Int32))]) rfl) ?_
          exact j274 _ _ _ _ _ _ X122 N122 e122 Z109 (One.val rfl) ⟨jr.1, by omega⟩ jm A109 Fs109 Fm109 Fh109' V109 f115 f116 f117 f118 few109
    ·
      show own_Fin p e below s _ _ _ (T109.setTop (mkF m 206 #[.val (.int p1), .val (.int p2), .val (.int p3), .val (.int p4), .val (.int p5), .val (.int p6), .val (.int mo), .val (.ref b3), .val (.ref b7), .val (.ref b17), .val (.ref b27), .val (.ref b49), .val (.int he), .val (.int (own_full he mo)), .val (.int (1 : Int32)), s15] [(.int (1 : Int32))]))
      refine own_Fin.step (fun _ => XS.istore X109.here hx rfl (hb hby at_206) rfl (l' := #[.val (.int p1), .val (.int p2), .val (.int p3), .val (.int p4), .val (.int p5), .val (.int p6), .val (.int mo), .val (.ref b3), .val (.ref b7), .val (.ref b17), .val (.ref b27), .val (.ref b49), .val (.int he), .val (.int (own_full he mo)), .val (.int (1 : Int32)), .val (.int (1 : Int32))]) (XS.store1 (o := s15) rfl hs15 rfl)) ?_
      show own_Fin p e below s _ _ _ (T109.setTop (mkF m 208 #[.val (.int p1), .val (.int p2), .val (.int p3), .val (.int p4), .val (.int p5), .val (.int p6), .val (.int mo), .val (.ref b3), .val (.ref b7), .val (.ref b17), .val (.ref b27), .val (.ref b49), .val (.int he), .val (.int (own_full he mo)), .val (.int (1 : Int32)), .val (.int (1 : Int32))] []))
      refine own_Fin.step (fun _ => XS.iload X109.here hx rfl (hb hby at_208) rfl) ?_
      show own_Fin p e below s _ _ _ (T109.setTop (mkF m 210 #[.val (.int p1), .val (.int p2), .val (.int p3), .val (.int p4), .val (.int p5), .val (.int p6), .val (.int mo), .val (.ref b3), .val (.ref b7), .val (.ref b17), .val (.ref b27), .val (.ref b49), .val (.int he), .val (.int (own_full he mo)), .val (.int (1 : Int32)), .val (.int (1 : Int32))] [(.int (1 : Int32))]))
      refine own_Fin.step (fun _ => XS.ifNo X109.here hx rfl (hb hby at_210) rfl (XT.i0_eq_f (by decide : ¬ ((1 : Int32) = (0 : Int32))))) ?_
      show own_Fin p e below s _ _ _ (T109.setTop (mkF m 213 #[.val (.int p1), .val (.int p2), .val (.int p3), .val (.int p4), .val (.int p5), .val (.int p6), .val (.int mo), .val (.ref b3), .val (.ref b7), .val (.ref b17), .val (.ref b27), .val (.ref b49), .val (.int he), .val (.int (own_full he mo)), .val (.int (1 : Int32)), .val (.int (1 : Int32))] []))
      refine own_Fin.step (fun _ => XS.iload X109.here hx rfl (hb hby at_213) rfl) ?_
      show own_Fin p e below s _ _ _ (T109.setTop (mkF m 215 #[.val (.int p1), .val (.int p2), .val (.int p3), .val (.int p4), .val (.int p5), .val (.int p6), .val (.int mo), .val (.ref b3), .val (.ref b7), .val (.ref b17), .val (.ref b27), .val (.ref b49), .val (.int he), .val (.int (own_full he mo)), .val (.int (1 : Int32)), .val (.int (1 : Int32))] [(.int (own_full he mo))]))
      refine own_Fin.step (fun _ => XS.ifYes X109.here hx rfl (pc0 := 215) (pc' := 223) rfl (hb hby at_215) rfl (XT.i0_eq_t (own_full_lt hlt)) (by decide) (by decide)) ?_
      show own_Fin p e below s _ _ _ (T109.setTop (mkF m 223 #[.val (.int p1), .val (.int p2), .val (.int p3), .val (.int p4), .val (.int p5), .val (.int p6), .val (.int mo), .val (.ref b3), .val (.ref b7), .val (.ref b17), .val (.ref b27), .val (.ref b49), .val (.int he), .val (.int (own_full he mo)), .val (.int (1 : Int32)), .val (.int (1 : Int32))] []))
      refine own_Fin.step (fun _ => XS.iconst X109.here hx rfl (hb hby at_223)) ?_
      show own_Fin p e below s _ _ _ (T109.setTop (mkF m 224 #[.val (.int p1), .val (.int p2), .val (.int p3), .val (.int p4), .val (.int p5), .val (.int p6), .val (.int mo), .val (.ref b3), .val (.ref b7), .val (.ref b17), .val (.ref b27), .val (.ref b49), .val (.int he), .val (.int (own_full he mo)), .val (.int (1 : Int32)), .val (.int (1 : Int32))] [(.int (1 : Int32))]))
      refine own_Fin.step (fun _ => XS.goto X109.here hx rfl (pc0 := 224) (pc' := 228) rfl (hb hby at_224) (by decide) (by decide)) ?_
      show own_Fin p e below s _ _ _ (T109.setTop (mkF m 228 #[.val (.int p1), .val (.int p2), .val (.int p3), .val (.int p4), .val (.int p5), .val (.int p6), .val (.int mo), .val (.ref b3), .val (.ref b7), .val (.ref b17), .val (.ref b27), .val (.ref b49), .val (.int he), .val (.int (own_full he mo)), .val (.int (1 : Int32)), .val (.int (1 : Int32))] [(.int (1 : Int32))]))
      refine own_Fin.step (fun _ => XS.istore X109.here hx rfl (hb hby at_228) rfl (l' := #[.val (.int p1), .val (.int p2), .val (.int p3), .val (.int p4), .val (.int p5), .val (.int p6), .val (.int mo), .val (.ref b3), .val (.ref b7), .val (.ref b17), .val (.ref b27), .val (.ref b49), .val (.int he), .val (.int (own_full he mo)), .val (.int (1 : Int32)), .val (.int (1 : Int32))]) rfl) ?_
      show own_Fin p e below s _ _ _ (T109.setTop (mkF m 230 #[.val (.int p1), .val (.int p2), .val (.int p3), .val (.int p4), .val (.int p5), .val (.int p6), .val (.int mo), .val (.ref b3), .val (.ref b7), .val (.ref b17), .val (.ref b27), .val (.ref b49), .val (.int he), .val (.int (own_full he mo)), .val (.int (1 : Int32)), .val (.int (1 : Int32))] []))
      refine own_Fin.step (fun _ => XS.iload X109.here hx rfl (hb hby at_230) rfl) ?_
      show own_Fin p e below s _ _ _ (T109.setTop (mkF m 232 #[.val (.int p1), .val (.int p2), .val (.int p3), .val (.int p4), .val (.int p5), .val (.int p6), .val (.int mo), .val (.ref b3), .val (.ref b7), .val (.ref b17), .val (.ref b27), .val (.ref b49), .val (.int he), .val (.int (own_full he mo)), .val (.int (1 : Int32)), .val (.int (1 : Int32))] [(.int (1 : Int32))]))
      refine own_Fin.step (fun _ => XS.ifNo X109.here hx rfl (hb hby at_232) rfl (XT.i0_eq_f (by decide : ¬ ((1 : Int32) = (0 : Int32))))) ?_
      show own_Fin p e below s _ _ _ (T109.setTop (mkF m 235 #[.val (.int p1), .val (.int p2), .val (.int p3), .val (.int p4), .val (.int p5), .val (.int p6), .val (.int mo), .val (.ref b3), .val (.ref b7), .val (.ref b17), .val (.ref b27), .val (.ref b49), .val (.int he), .val (.int (own_full he mo)), .val (.int (1 : Int32)), .val (.int (1 : Int32))] []))
      refine own_Fin.step (fun _ => XS.iinc X109.here hx rfl (hb hby at_235) rfl (l' := #[.val (.int p1), .val (.int p2), .val (.int p3), .val (.int p4), .val (.int p5), .val (.int p6), .val (.int mo), .val (.ref b3), .val (.ref b7), .val (.ref b17), .val (.ref b27), .val (.ref b49), .val (.int (he + (1 : Int32))), .val (.int (own_full he mo)), .val (.int (1 : Int32)), .val (.int (1 : Int32))]) rfl) ?_
      show own_Fin p e below s _ _ _ (T109.setTop (mkF m 238 #[.val (.int p1), .val (.int p2), .val (.int p3), .val (.int p4), .val (.int p5), .val (.int p6), .val (.int mo), .val (.ref b3), .val (.ref b7), .val (.ref b17), .val (.ref b27), .val (.ref b49), .val (.int (he + (1 : Int32))), .val (.int (own_full he mo)), .val (.int (1 : Int32)), .val (.int (1 : Int32))] []))
      refine own_Fin.step (fun _ => XS.aload X109.here hx rfl (hb hby at_238) rfl rfl) ?_
      show own_Fin p e below s _ _ _ (T109.setTop (mkF m 240 #[.val (.int p1), .val (.int p2), .val (.int p3), .val (.int p4), .val (.int p5), .val (.int p6), .val (.int mo), .val (.ref b3), .val (.ref b7), .val (.ref b17), .val (.ref b27), .val (.ref b49), .val (.int (he + (1 : Int32))), .val (.int (own_full he mo)), .val (.int (1 : Int32)), .val (.int (1 : Int32))] [(.ref b49)]))
      obtain ⟨_, T124, L124, X124, ⟨rfl, N124q, e124⟩, st124⟩ := own_callV X109 hx hZ hown (own_w hw 16 rfl) (own_w hw 17 rfl) (own_w hw 19 rfl) (own_w hw 18 rfl) (own_w hw 3 rfl) (own_w hw 20 rfl) (by decide) (rm2 l Z a0 hw b49 (he + (1 : Int32)) mo T109.heap n0 Z109 Fh109 Fm109) (by decide) (by decide) A109 rfl (W := 0) (g := (mkF m 240 #[.val (.int p1), .val (.int p2), .val (.int p3), .val (.int p4), .val (.int p5), .val (.int p6), .val (.int mo), .val (.ref b3), .val (.ref b7), .val (.ref b17), .val (.ref b27), .val (.ref b49), .val (.int (he + (1 : Int32))), .val (.int (own_full he mo)), .val (.int (1 : Int32)), .val (.int (1 : Int32))] [(.ref b49)])) rfl (by rw [hml]; rfl) (argsL := []) (rest := []) (lenOf pd_5 rfl) rfl rfl (by show 2 * 0 + _ ≤ _; exact Nat.le_of_eq rfl) (hb hby at_240) (by decide) (by decide)
      have N124 := Fr.app N109 N124q
      refine own_Fin.step st124 ?_
      show own_Fin p e below s _ _ _ (T124.setTop (mkF m 243 #[.val (.int p1), .val (.int p2), .val (.int p3), .val (.int p4), .val (.int p5), .val (.int p6), .val (.int mo), .val (.ref b3), .val (.ref b7), .val (.ref b17), .val (.ref b27), .val (.ref b49), .val (.int (he + (1 : Int32))), .val (.int (own_full he mo)), .val (.int (1 : Int32)), .val (.int (1 : Int32))] [(.int (own_full (he + (1 : Int32)) mo))]))
      refine own_Fin.step (fun _ => XS.istore X124.here hx rfl (hb hby at_243) rfl (l' := #[.val (.int p1), .val (.int p2), .val (.int p3), .val (.int p4), .val (.int p5), .val (.int p6), .val (.int mo), .val (.ref b3), .val (.ref b7), .val (.ref b17), .val (.ref b27), .val (.ref b49), .val (.int (he + (1 : Int32))), .val (.int (own_full (he + (1 : Int32)) mo)), .val (.int (1 : Int32)), .val (.int (1 : Int32))]) rfl) ?_
      show own_Fin p e below s _ _ _ (T124.setTop (mkF m 245 #[.val (.int p1), .val (.int p2), .val (.int p3), .val (.int p4), .val (.int p5), .val (.int p6), .val (.int mo), .val (.ref b3), .val (.ref b7), .val (.ref b17), .val (.ref b27), .val (.ref b49), .val (.int (he + (1 : Int32))), .val (.int (own_full (he + (1 : Int32)) mo)), .val (.int (1 : Int32)), .val (.int (1 : Int32))] []))
      refine own_Fin.step (fun _ => XS.iload X124.here hx rfl (hb hby at_245) rfl) ?_
      show own_Fin p e below s _ _ _ (T124.setTop (mkF m 247 #[.val (.int p1), .val (.int p2), .val (.int p3), .val (.int p4), .val (.int p5), .val (.int p6), .val (.int mo), .val (.ref b3), .val (.ref b7), .val (.ref b17), .val (.ref b27), .val (.ref b49), .val (.int (he + (1 : Int32))), .val (.int (own_full (he + (1 : Int32)) mo)), .val (.int (1 : Int32)), .val (.int (1 : Int32))] [(.int (1 : Int32))]))
      refine own_Fin.step (fun _ => XS.ifNo X124.here hx rfl (hb hby at_247) rfl (XT.i0_eq_f (by decide : ¬ ((1 : Int32) = (0 : Int32))))) ?_
      show own_Fin p e below s _ _ _ (T124.setTop (mkF m 250 #[.val (.int p1), .val (.int p2), .val (.int p3), .val (.int p4), .val (.int p5), .val (.int p6), .val (.int mo), .val (.ref b3), .val (.ref b7), .val (.ref b17), .val (.ref b27), .val (.ref b49), .val (.int (he + (1 : Int32))), .val (.int (own_full (he + (1 : Int32)) mo)), .val (.int (1 : Int32)), .val (.int (1 : Int32))] []))
      refine own_Fin.step (fun _ => XS.iload X124.here hx rfl (hb hby at_250) rfl) ?_
      show own_Fin p e below s _ _ _ (T124.setTop (mkF m 252 #[.val (.int p1), .val (.int p2), .val (.int p3), .val (.int p4), .val (.int p5), .val (.int p6), .val (.int mo), .val (.ref b3), .val (.ref b7), .val (.ref b17), .val (.ref b27), .val (.ref b49), .val (.int (he + (1 : Int32))), .val (.int (own_full (he + (1 : Int32)) mo)), .val (.int (1 : Int32)), .val (.int (1 : Int32))] [(.int (own_full (he + (1 : Int32)) mo))]))
      refine own_Fin.step (fun _ => XS.iload X124.here hx rfl (hb hby at_252) rfl) ?_
      show own_Fin p e below s _ _ _ (T124.setTop (mkF m 254 #[.val (.int p1), .val (.int p2), .val (.int p3), .val (.int p4), .val (.int p5), .val (.int p6), .val (.int mo), .val (.ref b3), .val (.ref b7), .val (.ref b17), .val (.ref b27), .val (.ref b49), .val (.int (he + (1 : Int32))), .val (.int (own_full (he + (1 : Int32)) mo)), .val (.int (1 : Int32)), .val (.int (1 : Int32))] [(.int (he + (1 : Int32))), (.int (own_full (he + (1 : Int32)) mo))]))
      refine own_Fin.step (fun _ => XS.iload X124.here hx rfl (hb hby at_254) rfl) ?_
      show own_Fin p e below s _ _ _ (T124.setTop (mkF m 256 #[.val (.int p1), .val (.int p2), .val (.int p3), .val (.int p4), .val (.int p5), .val (.int p6), .val (.int mo), .val (.ref b3), .val (.ref b7), .val (.ref b17), .val (.ref b27), .val (.ref b49), .val (.int (he + (1 : Int32))), .val (.int (own_full (he + (1 : Int32)) mo)), .val (.int (1 : Int32)), .val (.int (1 : Int32))] [(.int mo), (.int (he + (1 : Int32))), (.int (own_full (he + (1 : Int32)) mo))]))
      by_cases hc256_125 : (he + (1 : Int32)) = mo
      ·
        refine own_Fin.step (fun _ => XS.icmpNo X124.here hx rfl (hb hby at_256) rfl (XT.ii_ne_f hc256_125)) ?_
        show own_Fin p e below s _ _ _ (T124.setTop (mkF m 259 #[.val (.int p1), .val (.int p2), .val (.int p3), .val (.int p4), .val (.int p5), .val (.int p6), .val (.int mo), .val (.ref b3), .val (.ref b7), .val (.ref b17), .val (.ref b27), .val (.ref b49), .val (.int (he + (1 : Int32))), .val (.int (own_full (he + (1 : Int32)) mo)), .val (.int (1 : Int32)), .val (.int (1 : Int32))] [(.int (own_full (he + (1 : Int32)) mo))]))
        refine own_Fin.step (fun _ => XS.iconst X124.here hx rfl (hb hby at_259)) ?_
        show own_Fin p e below s _ _ _ (T124.setTop (mkF m 260 #[.val (.int p1), .val (.int p2), .val (.int p3), .val (.int p4), .val (.int p5), .val (.int p6), .val (.int mo), .val (.ref b3), .val (.ref b7), .val (.ref b17), .val (.ref b27), .val (.ref b49), .val (.int (he + (1 : Int32))), .val (.int (own_full (he + (1 : Int32)) mo)), .val (.int (1 : Int32)), .val (.int (1 : Int32))] [(.int (1 : Int32)), (.int (own_full (he + (1 : Int32)) mo))]))
        refine own_Fin.step (fun _ => XS.goto X124.here hx rfl (pc0 := 260) (pc' := 264) rfl (hb hby at_260) (by decide) (by decide)) ?_
        show own_Fin p e below s _ _ _ (T124.setTop (mkF m 264 #[.val (.int p1), .val (.int p2), .val (.int p3), .val (.int p4), .val (.int p5), .val (.int p6), .val (.int mo), .val (.ref b3), .val (.ref b7), .val (.ref b17), .val (.ref b27), .val (.ref b49), .val (.int (he + (1 : Int32))), .val (.int (own_full (he + (1 : Int32)) mo)), .val (.int (1 : Int32)), .val (.int (1 : Int32))] [(.int (1 : Int32)), (.int (own_full (he + (1 : Int32)) mo))]))
        refine own_Fin.step (fun _ => XS.icmpNo X124.here hx rfl (hb hby at_264) rfl (XT.ii_ne_f (if_pos hc256_125))) ?_
        show own_Fin p e below s _ _ _ (T124.setTop (mkF m 267 #[.val (.int p1), .val (.int p2), .val (.int p3), .val (.int p4), .val (.int p5), .val (.int p6), .val (.int mo), .val (.ref b3), .val (.ref b7), .val (.ref b17), .val (.ref b27), .val (.ref b49), .val (.int (he + (1 : Int32))), .val (.int (own_full (he + (1 : Int32)) mo)), .val (.int (1 : Int32)), .val (.int (1 : Int32))] []))
        refine own_Fin.step (fun _ => XS.iconst X124.here hx rfl (hb hby at_267)) ?_
        show own_Fin p e below s _ _ _ (T124.setTop (mkF m 268 #[.val (.int p1), .val (.int p2), .val (.int p3), .val (.int p4), .val (.int p5), .val (.int p6), .val (.int mo), .val (.ref b3), .val (.ref b7), .val (.ref b17), .val (.ref b27), .val (.ref b49), .val (.int (he + (1 : Int32))), .val (.int (own_full (he + (1 : Int32)) mo)), .val (.int (1 : Int32)), .val (.int (1 : Int32))] [(.int (1 : Int32))]))
        refine own_Fin.step (fun _ => XS.goto X124.here hx rfl (pc0 := 268) (pc' := 272) rfl (hb hby at_268) (by decide) (by decide)) ?_
        show own_Fin p e below s _ _ _ (T124.setTop (mkF m 272 #[.val (.int p1), .val (.int p2), .val (.int p3), .val (.int p4), .val (.int p5), .val (.int p6), .val (.int mo), .val (.ref b3), .val (.ref b7), .val (.ref b17), .val (.ref b27), .val (.ref b49), .val (.int (he + (1 : Int32))), .val (.int (own_full (he + (1 : Int32)) mo)), .val (.int (1 : Int32)), .val (.int (1 : Int32))] [(.int (1 : Int32))]))
        refine own_Fin.step (fun _ => XS.istore X124.here hx rfl (hb hby at_272) rfl (l' := #[.val (.int p1), .val (.int p2), .val (.int p3), .val (.int p4), .val (.int p5), .val (.int p6), .val (.int mo), .val (.ref b3), .val (.ref b7), .val (.ref b17), .val (.ref b27), .val (.ref b49), .val (.int (he + (1 : Int32))), .val (.int (own_full (he + (1 : Int32)) mo)), .val (.int (1 : Int32)), .val (.int (1 : Int32))]) rfl) ?_
        exact j274 _ _ _ _ _ _ X124 N124 e124 Z109 (One.val rfl) (own_inc jr (by decide)) (Or.inr (own_lt_le hlt)) A109 Fs109 Fm109 Fh109 V109 f115 f116 f117 f118 few109
      ·
        refine own_Fin.step (fun _ => XS.icmpYes X124.here hx rfl (pc0 := 256) (pc' := 263) rfl (hb hby at_256) rfl (XT.ii_ne_t hc256_125) (by decide) (by decide)) ?_
        show own_Fin p e below s _ _ _ (T124.setTop (mkF m 263 #[.val (.int p1), .val (.int p2), .val (.int p3), .val (.int p4), .val (.int p5), .val (.int p6), .val (.int mo), .val (.ref b3), .val (.ref b7), .val (.ref b17), .val (.ref b27), .val (.ref b49), .val (.int (he + (1 : Int32))), .val (.int (own_full (he + (1 : Int32)) mo)), .val (.int (1 : Int32)), .val (.int (1 : Int32))] [(.int (own_full (he + (1 : Int32)) mo))]))
        refine own_Fin.step (fun _ => XS.iconst X124.here hx rfl (hb hby at_263)) ?_
        show own_Fin p e below s _ _ _ (T124.setTop (mkF m 264 #[.val (.int p1), .val (.int p2), .val (.int p3), .val (.int p4), .val (.int p5), .val (.int p6), .val (.int mo), .val (.ref b3), .val (.ref b7), .val (.ref b17), .val (.ref b27), .val (.ref b49), .val (.int (he + (1 : Int32))), .val (.int (own_full (he + (1 : Int32)) mo)), .val (.int (1 : Int32)), .val (.int (1 : Int32))] [(.int (0 : Int32)), (.int (own_full (he + (1 : Int32)) mo))]))
        refine own_Fin.step (fun _ => XS.icmpNo X124.here hx rfl (hb hby at_264) rfl (XT.ii_ne_f (if_neg hc256_125))) ?_
        show own_Fin p e below s _ _ _ (T124.setTop (mkF m 267 #[.val (.int p1), .val (.int p2), .val (.int p3), .val (.int p4), .val (.int p5), .val (.int p6), .val (.int mo), .val (.ref b3), .val (.ref b7), .val (.ref b17), .val (.ref b27), .val (.ref b49), .val (.int (he + (1 : Int32))), .val (.int (own_full (he + (1 : Int32)) mo)), .val (.int (1 : Int32)), .val (.int (1 : Int32))] []))
        refine own_Fin.step (fun _ => XS.iconst X124.here hx rfl (hb hby at_267)) ?_
        show own_Fin p e below s _ _ _ (T124.setTop (mkF m 268 #[.val (.int p1), .val (.int p2), .val (.int p3), .val (.int p4), .val (.int p5), .val (.int p6), .val (.int mo), .val (.ref b3), .val (.ref b7), .val (.ref b17), .val (.ref b27), .val (.ref b49), .val (.int (he + (1 : Int32))), .val (.int (own_full (he + (1 : Int32)) mo)), .val (.int (1 : Int32)), .val (.int (1 : Int32))] [(.int (1 : Int32))]))
        refine own_Fin.step (fun _ => XS.goto X124.here hx rfl (pc0 := 268) (pc' := 272) rfl (hb hby at_268) (by decide) (by decide)) ?_
        show own_Fin p e below s _ _ _ (T124.setTop (mkF m 272 #[.val (.int p1), .val (.int p2), .val (.int p3), .val (.int p4), .val (.int p5), .val (.int p6), .val (.int mo), .val (.ref b3), .val (.ref b7), .val (.ref b17), .val (.ref b27), .val (.ref b49), .val (.int (he + (1 : Int32))), .val (.int (own_full (he + (1 : Int32)) mo)), .val (.int (1 : Int32)), .val (.int (1 : Int32))] [(.int (1 : Int32))]))
        refine own_Fin.step (fun _ => XS.istore X124.here hx rfl (hb hby at_272) rfl (l' := #[.val (.int p1), .val (.int p2), .val (.int p3), .val (.int p4), .val (.int p5), .val (.int p6), .val (.int mo), .val (.ref b3), .val (.ref b7), .val (.ref b17), .val (.ref b27), .val (.ref b49), .val (.int (he + (1 : Int32))), .val (.int (own_full (he + (1 : Int32)) mo)), .val (.int (1 : Int32)), .val (.int (1 : Int32))]) rfl) ?_
        exact j274 _ _ _ _ _ _ X124 N124 e124 Z109 (One.val rfl) (own_inc jr (by decide)) (Or.inr (own_lt_le hlt)) A109 Fs109 Fm109 Fh109 V109 f115 f116 f117 f118 few109
  have j120 : ∀ (TJ : State) (hJ : Heap) (LJ : List Loc) (he : Int32) (f : Nat → Int32) (s15 : Slot), Stand p l e room_1 s m #[(.int p1), (.int p2), (.int p3), (.int p4), (.int p5), (.int p6)] below meth c TJ LJ 6 65545 → Fr n0 LJ → TJ.heap = hJ → n0 ≤ hJ.size → One s15 → (0 ≤ he.toInt ∧ he.toInt ≤ 0) → (he = 0 ∨ ¬ mo < he) → (Exa Z hJ b49 "com/example/meterkeep/meterkeep/store/RecordedIds") → (Fld Z hJ b49 "com/example/meterkeep/meterkeep/store/RecordedIds" "slots" "[I" (.ref bb59)) → (Fld Z hJ b49 "com/example/meterkeep/meterkeep/store/RecordedIds" "most" "I" (.int mo)) → (Fld Z hJ b49 "com/example/meterkeep/meterkeep/store/RecordedIds" "held" "I" (.int he)) → (own_Arf Z hJ bb59 kb59 .int (65536 : Int32) f) → (own_Arf Z hJ b3 k3 .byte (1 : Int32) (fun i => ([(p3.toInt8.toInt32)] : List Int32).getD i 0)) → (own_Arf Z hJ b7 k7 .byte (2 : Int32) (fun i => ([(p4.toInt8.toInt32), (((p4.toUInt32 >>> ((8 : Int32) &&& 31).toUInt32).toInt32).toInt8.toInt32)] : List Int32).getD i 0)) → (own_Arf Z hJ b17 k17 .byte (1 : Int32) (fun i => ([(p5.toInt8.toInt32)] : List Int32).getD i 0)) → (own_Arf Z hJ b27 k27 .byte (2 : Int32) (fun i => ([(p6.toInt8.toInt32), (((p6.toUInt32 >>> ((8 : Int32) &&& 31).toUInt32).toInt32).toInt8.toInt32)] : List Int32).getD i 0)) → own_few f 0 → own_Fin p e below s (own_Q0 n0) room_1.cells room_1.slots (TJ.setTop (mkF m 120 #[.val (.int p1), .val (.int p2), .val (.int p3), .val (.int p4), .val (.int p5), .val (.int p6), .val (.int mo), .val (.ref b3), .val (.ref b7), .val (.ref b17), .val (.ref b27), .val (.ref b49), .val (.int he), .val (.int (own_full he mo)), .val (.int (1 : Int32)), s15] [])) := by
    intro TJ hJ LJ he f s15 XJ NJ eJ ZJ hs15 jr jm jE jFs jFm jFh jV jV0 jV1 jV2 jV3 jfew
    show own_Fin p e below s _ _ _ (TJ.setTop (mkF m 120 #[.val (.int p1), .val (.int p2), .val (.int p3), .val (.int p4), .val (.int p5), .val (.int p6), .val (.int mo), .val (.ref b3), .val (.ref b7), .val (.ref b17), .val (.ref b27), .val (.ref b49), .val (.int he), .val (.int (own_full he mo)), .val (.int (1 : Int32)), s15] []))
    refine own_Fin.step (fun _ => XS.aload XJ.here hx rfl (hb hby at_120) rfl rfl) ?_
    show own_Fin p e below s _ _ _ (TJ.setTop (mkF m 122 #[.val (.int p1), .val (.int p2), .val (.int p3), .val (.int p4), .val (.int p5), .val (.int p6), .val (.int mo), .val (.ref b3), .val (.ref b7), .val (.ref b17), .val (.ref b27), .val (.ref b49), .val (.int he), .val (.int (own_full he mo)), .val (.int (1 : Int32)), s15] [(.ref b49)]))
    refine own_Fin.step (fun _ => XS.aload XJ.here hx rfl (hb hby at_122) rfl rfl) ?_
    show own_Fin p e below s _ _ _ (TJ.setTop (mkF m 124 #[.val (.int p1), .val (.int p2), .val (.int p3), .val (.int p4), .val (.int p5), .val (.int p6), .val (.int mo), .val (.ref b3), .val (.ref b7), .val (.ref b17), .val (.ref b27), .val (.ref b49), .val (.int he), .val (.int (own_full he mo)), .val (.int (1 : Int32)), s15] [(.ref b3), (.ref b49)]))
    refine own_Fin.step (fun _ => XS.iconst XJ.here hx rfl (hb hby at_124)) ?_
    show own_Fin p e below s _ _ _ (TJ.setTop (mkF m 125 #[.val (.int p1), .val (.int p2), .val (.int p3), .val (.int p4), .val (.int p5), .val (.int p6), .val (.int mo), .val (.ref b3), .val (.ref b7), .val (.ref b17), .val (.ref b27), .val (.ref b49), .val (.int he), .val (.int (own_full he mo)), .val (.int (1 : Int32)), s15] [(.int (0 : Int32)), (.ref b3), (.ref b49)]))
    refine own_Fin.step (fun _ => XS.iconst XJ.here hx rfl (hb hby at_125)) ?_
    show own_Fin p e below s _ _ _ (TJ.setTop (mkF m 126 #[.val (.int p1), .val (.int p2), .val (.int p3), .val (.int p4), .val (.int p5), .val (.int p6), .val (.int mo), .val (.ref b3), .val (.ref b7), .val (.ref b17), .val (.ref b27), .val (.ref b49), .val (.int he), .val (.int (own_full he mo)), .val (.int (1 : Int32)), s15] [(.int (1 : Int32)), (.int (0 : Int32)), (.ref b3), (.ref b49)]))
    obtain ⟨_, T126, L126, X126, ⟨bz126, f126', rfl, N126q, K126, hb126, A126, Fs126, Fm126, Fh126, V126, few126⟩, st126⟩ := own_callV XJ hx hZ hown (own_w hw 23 rfl) (own_w hw 24 rfl) (own_w hw 26 rfl) (own_w hw 25 rfl) (own_w hw 3 rfl) (own_w hw 27 rfl) (by decide) (rm6 l Z a0 hw b49 b3 (1 : Int32) bb59 kb59 k3 mo he (1 : Int32) f (fun i => ([(p3.toInt8.toInt32)] : List Int32).getD i 0) 0 hJ n0 ZJ ge54 ge65 ne63 ne62 (Ne.symm ne52) jE jFs jFm jFh jV jV0 (by decide) jfew (by decide) (own_Hh ⟨jr.1, by omega⟩)) (by decide) (by decide) jE eJ (W := 0) (g := (mkF m 126 #[.val (.int p1), .val (.int p2), .val (.int p3), .val (.int p4), .val (.int p5), .val (.int p6), .val (.int mo), .val (.ref b3), .val (.ref b7), .val (.ref b17), .val (.ref b27), .val (.ref b49), .val (.int he), .val (.int (own_full he mo)), .val (.int (1 : Int32)), s15] [(.int (1 : Int32)), (.int (0 : Int32)), (.ref b3), (.ref b49)])) rfl (by rw [hml]; rfl) (argsL := [(.ref b3), (.int (0 : Int32)), (.int (1 : Int32))]) (rest := []) (lenOf pd_4 rfl) rfl rfl (by show 2 * 0 + _ ≤ _; exact Nat.le_of_eq rfl) (hb hby at_126) (by decide) (by decide)
    have N126 := Fr.app NJ N126q
    have f127 := jE.keep K126
    have f132 := jV0.keep K126 (ninS ne52 (ninS ne62 nin0))
    have f133 := jV1.keep K126 (ninS ne53 (ninS ne64 nin0))
    have f134 := jV2.keep K126 (ninS ne50 (ninS ne60 nin0))
    have f135 := jV3.keep K126 (ninS ne51 (ninS ne61 nin0))
    have Z126 : n0 ≤ T126.heap.size := Nat.le_trans ZJ K126.1
    refine own_Fin.step st126 ?_
    show own_Fin p e below s _ _ _ (T126.setTop (mkF m 129 #[.val (.int p1), .val (.int p2), .val (.int p3), .val (.int p4), .val (.int p5), .val (.int p6), .val (.int mo), .val (.ref b3), .val (.ref b7), .val (.ref b17), .val (.ref b27), .val (.ref b49), .val (.int he), .val (.int (own_full he mo)), .val (.int (1 : Int32)), s15] [(.int bz126)]))
    rcases hb126 with rfl | ⟨rfl, hlt⟩
    ·
      have Fh126' := own_sub0 Fh126
      show own_Fin p e below s _ _ _ (T126.setTop (mkF m 129 #[.val (.int p1), .val (.int p2), .val (.int p3), .val (.int p4), .val (.int p5), .val (.int p6), .val (.int mo), .val (.ref b3), .val (.ref b7), .val (.ref b17), .val (.ref b27), .val (.ref b49), .val (.int he), .val (.int (own_full he mo)), .val (.int (1 : Int32)), s15] [(.int (0 : Int32))]))
      refine own_Fin.step (fun _ => XS.istore X126.here hx rfl (hb hby at_129) rfl (l' := #[.val (.int p1), .val (.int p2), .val (.int p3), .val (.int p4), .val (.int p5), .val (.int p6), .val (.int mo), .val (.ref b3), .val (.ref b7), .val (.ref b17), .val (.ref b27), .val (.ref b49), .val (.int he), .val (.int (own_full he mo)), .val (.int (1 : Int32)), .val (.int (0 : Int32))]) (XS.store1 (o := s15) rfl hs15 rfl)) ?_
      show own_Fin p e below s _ _ _ (T126.setTop (mkF m 131 #[.val (.int p1), .val (.int p2), .val (.int p3), .val (.int p4), .val (.int p5), .val (.int p6), .val (.int mo), .val (.ref b3), .val (.ref b7), .val (.ref b17), .val (.ref b27), .val (.ref b49), .val (.int he), .val (.int (own_full he mo)), .val (.int (1 : Int32)), .val (.int (0 : Int32))] []))
      refine own_Fin.step (fun _ => XS.iload X126.here hx rfl (hb hby at_131) rfl) ?_
      show own_Fin p e below s _ _ _ (T126.setTop (mkF m 133 #[.val (.int p1), .val (.int p2), .val (.int p3), .val (.int p4), .val (.int p5), .val (.int p6), .val (.int mo), .val (.ref b3), .val (.ref b7), .val (.ref b17), .val (.ref b27), .val (.ref b49), .val (.int he), .val (.int (own_full he mo)), .val (.int (1 : Int32)), .val (.int (0 : Int32))] [(.int (1 : Int32))]))
      refine own_Fin.step (fun _ => XS.ifNo X126.here hx rfl (hb hby at_133) rfl (XT.i0_eq_f (by decide : ¬ ((1 : Int32) = (0 : Int32))))) ?_
      show own_Fin p e below s _ _ _ (T126.setTop (mkF m 136 #[.val (.int p1), .val (.int p2), .val (.int p3), .val (.int p4), .val (.int p5), .val (.int p6), .val (.int mo), .val (.ref b3), .val (.ref b7), .val (.ref b17), .val (.ref b27), .val (.ref b49), .val (.int he), .val (.int (own_full he mo)), .val (.int (1 : Int32)), .val (.int (0 : Int32))] []))
      refine own_Fin.step (fun _ => XS.iload X126.here hx rfl (hb hby at_136) rfl) ?_
      show own_Fin p e below s _ _ _ (T126.setTop (mkF m 138 #[.val (.int p1), .val (.int p2), .val (.int p3), .val (.int p4), .val (.int p5), .val (.int p6), .val (.int mo), .val (.ref b3), .val (.ref b7), .val (.ref b17), .val (.ref b27), .val (.ref b49), .val (.int he), .val (.int (own_full he mo)), .val (.int (1 : Int32)), .val (.int (0 : Int32))] [(.int (own_full he mo))]))
      by_cases hc138_136 : (own_full he mo) = (0 : Int32)
      ·
        refine own_Fin.step (fun _ => XS.ifYes X126.here hx rfl (pc0 := 138) (pc' := 146) rfl (hb hby at_138) rfl (XT.i0_eq_t hc138_136) (by decide) (by decide)) ?_
        show own_Fin p e below s _ _ _ (T126.setTop (mkF m 146 #[.val (.int p1), .val (.int p2), .val (.int p3), .val (.int p4), .val (.int p5), .val (.int p6), .val (.int mo), .val (.ref b3), .val (.ref b7), .val (.ref b17), .val (.ref b27), .val (.ref b49), .val (.int he), .val (.int (own_full he mo)), .val (.int (1 : Int32)), .val (.int (0 : Int32))] []))
        refine own_Fin.step (fun _ => XS.iconst X126.here hx rfl (hb hby at_146)) ?_
        show own_Fin p e below s _ _ _ (T126.setTop (mkF m 147 #[.val (.int p1), .val (.int p2), .val (.int p3), .val (.int p4), .val (.int p5), .val (.int p6), .val (.int mo), .val (.ref b3), .val (.ref b7), .val (.ref b17), .val (.ref b27), .val (.ref b49), .val (.int he), .val (.int (own_full he mo)), .val (.int (1 : Int32)), .val (.int (0 : Int32))] [(.int (1 : Int32))]))
        refine own_Fin.step (fun _ => XS.goto X126.here hx rfl (pc0 := 147) (pc' := 151) rfl (hb hby at_147) (by decide) (by decide)) ?_
        show own_Fin p e below s _ _ _ (T126.setTop (mkF m 151 #[.val (.int p1), .val (.int p2), .val (.int p3), .val (.int p4), .val (.int p5), .val (.int p6), .val (.int mo), .val (.ref b3), .val (.ref b7), .val (.ref b17), .val (.ref b27), .val (.ref b49), .val (.int he), .val (.int (own_full he mo)), .val (.int (1 : Int32)), .val (.int (0 : Int32))] [(.int (1 : Int32))]))
        refine own_Fin.step (fun _ => XS.istore X126.here hx rfl (hb hby at_151) rfl (l' := #[.val (.int p1), .val (.int p2), .val (.int p3), .val (.int p4), .val (.int p5), .val (.int p6), .val (.int mo), .val (.ref b3), .val (.ref b7), .val (.ref b17), .val (.ref b27), .val (.ref b49), .val (.int he), .val (.int (own_full he mo)), .val (.int (1 : Int32)), .val (.int (0 : Int32))]) rfl) ?_
        show own_Fin p e below s _ _ _ (T126.setTop (mkF m 153 #[.val (.int p1), .val (.int p2), .val (.int p3), .val (.int p4), .val (.int p5), .val (.int p6), .val (.int mo), .val (.ref b3), .val (.ref b7), .val (.ref b17), .val (.ref b27), .val (.ref b49), .val (.int he), .val (.int (own_full he mo)), .val (.int (1 : Int32)), .val (.int (0 : Int32))] []))
        refine own_Fin.step (fun _ => XS.iload X126.here hx rfl (hb hby at_153) rfl) ?_
        show own_Fin p e below s _ _ _ (T126.setTop (mkF m 155 #[.val (.int p1), .val (.int p2), .val (.int p3), .val (.int p4), .val (.int p5), .val (.int p6), .val (.int mo), .val (.ref b3), .val (.ref b7), .val (.ref b17), .val (.ref b27), .val (.ref b49), .val (.int he), .val (.int (own_full he mo)), .val (.int (1 : Int32)), .val (.int (0 : Int32))] [(.int (0 : Int32))]))
        refine own_Fin.step (fun _ => XS.ifYes X126.here hx rfl (pc0 := 155) (pc' := 161) rfl (hb hby at_155) rfl (XT.i0_eq_t (by decide : (0 : Int32) = (0 : Int32))) (by decide) (by decide)) ?_
        show own_Fin p e below s _ _ _ (T126.setTop (mkF m 161 #[.val (.int p1), .val (.int p2), .val (.int p3), .val (.int p4), .val (.int p5), .val (.int p6), .val (.int mo), .val (.ref b3), .val (.ref b7), .val (.ref b17), .val (.ref b27), .val (.ref b49), .val (.int he), .val (.int (own_full he mo)), .val (.int (1 : Int32)), .val (.int (0 : Int32))] []))
        refine own_Fin.step (fun _ => XS.aload X126.here hx rfl (hb hby at_161) rfl rfl) ?_
        show own_Fin p e below s _ _ _ (T126.setTop (mkF m 163 #[.val (.int p1), .val (.int p2), .val (.int p3), .val (.int p4), .val (.int p5), .val (.int p6), .val (.int mo), .val (.ref b3), .val (.ref b7), .val (.ref b17), .val (.ref b27), .val (.ref b49), .val (.int he), .val (.int (own_full he mo)), .val (.int (1 : Int32)), .val (.int (0 : Int32))] [(.ref b49)]))
        obtain ⟨_, T137, L137, X137, ⟨rfl, N137q, e137⟩, st137⟩ := own_callV X126 hx hZ hown (own_w hw 16 rfl) (own_w hw 17 rfl) (own_w hw 19 rfl) (own_w hw 18 rfl) (own_w hw 3 rfl) (own_w hw 20 rfl) (by decide) (rm2 l Z a0 hw b49 he mo T126.heap n0 Z126 Fh126' Fm126) (by decide) (by decide) A126 rfl (W := 0) (g := (mkF m 163 #[.val (.int p1), .val (.int p2), .val (.int p3), .val (.int p4), .val (.int p5), .val (.int p6), .val (.int mo), .val (.ref b3), .val (.ref b7), .val (.ref b17), .val (.ref b27), .val (.ref b49), .val (.int he), .val (.int (own_full he mo)), .val (.int (1 : Int32)), .val (.int (0 : Int32))] [(.ref b49)])) rfl (by rw [hml]; rfl) (argsL := []) (rest := []) (lenOf pd_5 rfl) rfl rfl (by show 2 * 0 + _ ≤ _; exact Nat.le_of_eq rfl) (hb hby at_163) (by decide) (by decide)
        have N137 := Fr.app N126 N137q
        refine own_Fin.step st137 ?_
        show own_Fin p e below s _ _ _ (T137.setTop (mkF m 166 #[.val (.int p1), .val (.int p2), .val (.int p3), .val (.int p4), .val (.int p5), .val (.int p6), .val (.int mo), .val (.ref b3), .val (.ref b7), .val (.ref b17), .val (.ref b27), .val (.ref b49), .val (.int he), .val (.int (own_full he mo)), .val (.int (1 : Int32)), .val (.int (0 : Int32))] [(.int (own_full he mo))]))
        refine own_Fin.step (fun _ => XS.istore X137.here hx rfl (hb hby at_166) rfl (l' := #[.val (.int p1), .val (.int p2), .val (.int p3), .val (.int p4), .val (.int p5), .val (.int p6), .val (.int mo), .val (.ref b3), .val (.ref b7), .val (.ref b17), .val (.ref b27), .val (.ref b49), .val (.int he), .val (.int (own_full he mo)), .val (.int (1 : Int32)), .val (.int (0 : Int32))]) rfl) ?_
        show own_Fin p e below s _ _ _ (T137.setTop (mkF m 168 #[.val (.int p1), .val (.int p2), .val (.int p3), .val (.int p4), .val (.int p5), .val (.int p6), .val (.int mo), .val (.ref b3), .val (.ref b7), .val (.ref b17), .val (.ref b27), .val (.ref b49), .val (.int he), .val (.int (own_full he mo)), .val (.int (1 : Int32)), .val (.int (0 : Int32))] []))
        refine own_Fin.step (fun _ => XS.iload X137.here hx rfl (hb hby at_168) rfl) ?_
        show own_Fin p e below s _ _ _ (T137.setTop (mkF m 170 #[.val (.int p1), .val (.int p2), .val (.int p3), .val (.int p4), .val (.int p5), .val (.int p6), .val (.int mo), .val (.ref b3), .val (.ref b7), .val (.ref b17), .val (.ref b27), .val (.ref b49), .val (.int he), .val (.int (own_full he mo)), .val (.int (1 : Int32)), .val (.int (0 : Int32))] [(.int (1 : Int32))]))
        refine own_Fin.step (fun _ => XS.ifNo X137.here hx rfl (hb hby at_170) rfl (XT.i0_eq_f (by decide : ¬ ((1 : Int32) = (0 : Int32))))) ?_
        show own_Fin p e below s _ _ _ (T137.setTop (mkF m 173 #[.val (.int p1), .val (.int p2), .val (.int p3), .val (.int p4), .val (.int p5), .val (.int p6), .val (.int mo), .val (.ref b3), .val (.ref b7), .val (.ref b17), .val (.ref b27), .val (.ref b49), .val (.int he), .val (.int (own_full he mo)), .val (.int (1 : Int32)), .val (.int (0 : Int32))] []))
        refine own_Fin.step (fun _ => XS.iload X137.here hx rfl (hb hby at_173) rfl) ?_
        show own_Fin p e below s _ _ _ (T137.setTop (mkF m 175 #[.val (.int p1), .val (.int p2), .val (.int p3), .val (.int p4), .val (.int p5), .val (.int p6), .val (.int mo), .val (.ref b3), .val (.ref b7), .val (.ref b17), .val (.ref b27), .val (.ref b49), .val (.int he), .val (.int (own_full he mo)), .val (.int (1 : Int32)), .val (.int (0 : Int32))] [(.int (own_full he mo))]))
        refine own_Fin.step (fun _ => XS.iload X137.here hx rfl (hb hby at_175) rfl) ?_
        show own_Fin p e below s _ _ _ (T137.setTop (mkF m 177 #[.val (.int p1), .val (.int p2), .val (.int p3), .val (.int p4), .val (.int p5), .val (.int p6), .val (.int mo), .val (.ref b3), .val (.ref b7), .val (.ref b17), .val (.ref b27), .val (.ref b49), .val (.int he), .val (.int (own_full he mo)), .val (.int (1 : Int32)), .val (.int (0 : Int32))] [(.int he), (.int (own_full he mo))]))
        refine own_Fin.step (fun _ => XS.iload X137.here hx rfl (hb hby at_177) rfl) ?_
        show own_Fin p e below s _ _ _ (T137.setTop (mkF m 179 #[.val (.int p1), .val (.int p2), .val (.int p3), .val (.int p4), .val (.int p5), .val (.int p6), .val (.int mo), .val (.ref b3), .val (.ref b7), .val (.ref b17), .val (.ref b27), .val (.ref b49), .val (.int he), .val (.int (own_full he mo)), .val (.int (1 : Int32)), .val (.int (0 : Int32))] [(.int mo), (.int he), (.int (own_full he mo))]))
        by_cases hc179_138 : he = mo
        ·
          refine own_Fin.step (fun _ => XS.icmpNo X137.here hx rfl (hb hby at_179) rfl (XT.ii_ne_f hc179_138)) ?_
          show own_Fin p e below s _ _ _ (T137.setTop (mkF m 182 #[.val (.int p1), .val (.int p2), .val (.int p3), .val (.int p4), .val (.int p5), .val (.int p6), .val (.int mo), .val (.ref b3), .val (.ref b7), .val (.ref b17), .val (.ref b27), .val (.ref b49), .val (.int he), .val (.int (own_full he mo)), .val (.int (1 : Int32)), .val (.int (0 : Int32))] [(.int (own_full he mo))]))
          refine own_Fin.step (fun _ => XS.iconst X137.here hx rfl (hb hby at_182)) ?_
          show own_Fin p e below s _ _ _ (T137.setTop (mkF m 183 #[.val (.int p1), .val (.int p2), .val (.int p3), .val (.int p4), .val (.int p5), .val (.int p6), .val (.int mo), .val (.ref b3), .val (.ref b7), .val (.ref b17), .val (.ref b27), .val (.ref b49), .val (.int he), .val (.int (own_full he mo)), .val (.int (1 : Int32)), .val (.int (0 : Int32))] [(.int (1 : Int32)), (.int (own_full he mo))]))
          refine own_Fin.step (fun _ => XS.goto X137.here hx rfl (pc0 := 183) (pc' := 187) rfl (hb hby at_183) (by decide) (by decide)) ?_
          show own_Fin p e below s _ _ _ (T137.setTop (mkF m 187 #[.val (.int p1), .val (.int p2), .val (.int p3), .val (.int p4), .val (.int p5), .val (.int p6), .val (.int mo), .val (.ref b3), .val (.ref b7), .val (.ref b17), .val (.ref b27), .val (.ref b49), .val (.int he), .val (.int (own_full he mo)), .val (.int (1 : Int32)), .val (.int (0 : Int32))] [(.int (1 : Int32)), (.int (own_full he mo))]))
          refine own_Fin.step (fun _ => XS.icmpNo X137.here hx rfl (hb hby at_187) rfl (XT.ii_ne_f (if_pos hc179_138))) ?_
          show own_Fin p e below s _ _ _ (T137.setTop (mkF m 190 #[.val (.int p1), .val (.int p2), .val (.int p3), .val (.int p4), .val (.int p5), .val (.int p6), .val (.int mo), .val (.ref b3), .val (.ref b7), .val (.ref b17), .val (.ref b27), .val (.ref b49), .val (.int he), .val (.int (own_full he mo)), .val (.int (1 : Int32)), .val (.int (0 : Int32))] []))
          refine own_Fin.step (fun _ => XS.iconst X137.here hx rfl (hb hby at_190)) ?_
          show own_Fin p e below s _ _ _ (T137.setTop (mkF m 191 #[.val (.int p1), .val (.int p2), .val (.int p3), .val (.int p4), .val (.int p5), .val (.int p6), .val (.int mo), .val (.ref b3), .val (.ref b7), .val (.ref b17), .val (.ref b27), .val (.ref b49), .val (.int he), .val (.int (own_full he mo)), .val (.int (1 : Int32)), .val (.int (0 : Int32))] [(.int (1 : Int32))]))
          refine own_Fin.step (fun _ => XS.goto X137.here hx rfl (pc0 := 191) (pc' := 195) rfl (hb hby at_191) (by decide) (by decide)) ?_
          show own_Fin p e below s _ _ _ (T137.setTop (mkF m 195 #[.val (.int p1), .val (.int p2), .val (.int p3), .val (.int p4), .val (.int p5), .val (.int p6), .val (.int mo), .val (.ref b3), .val (.ref b7), .val (.ref b17), .val (.ref b27), .val (.ref b49), .val (.int he), .val (.int (own_full he mo)), .val (.int (1 : Int32)), .val (.int (0 : Int32))] [(.int (1 : Int32))]))
          refine own_Fin.step (fun _ => XS.istore X137.here hx rfl (hb hby at_195) rfl (l' := #[.val (.int p1), .val (.int p2), .val (.int p3), .val (.int p4), .val (.int p5), .val (.int p6), .val (.int mo), .val (.ref b3), .val (.ref b7), .val (.ref b17), .val (.ref b27), .val (.ref b49), .val (.int he), .val (.int (own_full he mo)), .val (.int (1 : Int32)), .val (.int (0 : Int32))]) rfl) ?_
          exact j197 _ _ _ _ _ _ X137 N137 e137 Z126 (One.val rfl) ⟨jr.1, by omega⟩ jm A126 Fs126 Fm126 Fh126' V126 f132 f133 f134 f135 few126
        ·
          refine own_Fin.step (fun _ => XS.icmpYes X137.here hx rfl (pc0 := 179) (pc' := 186) rfl (hb hby at_179) rfl (XT.ii_ne_t hc179_138) (by decide) (by decide)) ?_
          show own_Fin p e below s _ _ _ (T137.setTop (mkF m 186 #[.val (.int p1), .val (.int p2), .val (.int p3), .val (.int p4), .val (.int p5), .val (.int p6), .val (.int mo), .val (.ref b3), .val (.ref b7), .val (.ref b17), .val (.ref b27), .val (.ref b49), .val (.int he), .val (.int (own_full he mo)), .val (.int (1 : Int32)), .val (.int (0 : Int32))] [(.int (own_full he mo))]))
          refine own_Fin.step (fun _ => XS.iconst X137.here hx rfl (hb hby at_186)) ?_
          show own_Fin p e below s _ _ _ (T137.setTop (mkF m 187 #[.val (.int p1), .val (.int p2), .val (.int p3), .val (.int p4), .val (.int p5), .val (.int p6), .val (.int mo), .val (.ref b3), .val (.ref b7), .val (.ref b17), .val (.ref b27), .val (.ref b49), .val (.int he), .val (.int (own_full he mo)), .val (.int (1 : Int32)), .val (.int (0 : Int32))] [(.int (0 : Int32)), (.int (own_full he mo))]))
          refine own_Fin.step (fun _ => XS.icmpNo X137.here hx rfl (hb hby at_187) rfl (XT.ii_ne_f (if_neg hc179_138))) ?_
          show own_Fin p e below s _ _ _ (T137.setTop (mkF m 190 #[.val (.int p1), .val (.int p2), .val (.int p3), .val (.int p4), .val (.int p5), .val (.int p6), .val (.int mo), .val (.ref b3), .val (.ref b7), .val (.ref b17), .val (.ref b27), .val (.ref b49), .val (.int he), .val (.int (own_full he mo)), .val (.int (1 : Int32)), .val (.int (0 : Int32))] []))
          refine own_Fin.step (fun _ => XS.iconst X137.here hx rfl (hb hby at_190)) ?_
          show own_Fin p e below s _ _ _ (T137.setTop (mkF m 191 #[.val (.int p1), .val (.int p2), .val (.int p3), .val (.int p4), .val (.int p5), .val (.int p6), .val (.int mo), .val (.ref b3), .val (.ref b7), .val (.ref b17), .val (.ref b27), .val (.ref b49), .val (.int he), .val (.int (own_full he mo)), .val (.int (1 : Int32)), .val (.int (0 : Int32))] [(.int (1 : Int32))]))
          refine own_Fin.step (fun _ => XS.goto X137.here hx rfl (pc0 := 191) (pc' := 195) rfl (hb hby at_191) (by decide) (by decide)) ?_
          show own_Fin p e below s _ _ _ (T137.setTop (mkF m 195 #[.val (.int p1), .val (.int p2), .val (.int p3), .val (.int p4), .val (.int p5), .val (.int p6), .val (.int mo), .val (.ref b3), .val (.ref b7), .val (.ref b17), .val (.ref b27), .val (.ref b49), .val (.int he), .val (.int (own_full he mo)), .val (.int (1 : Int32)), .val (.int (0 : Int32))] [(.int (1 : Int32))]))
          refine own_Fin.step (fun _ => XS.istore X137.here hx rfl (hb hby at_195) rfl (l' := #[.val (.int p1), .val (.int p2), .val (.int p3), .val (.int p4), .val (.int p5), .val (.int p6), .val (.int mo), .val (.ref b3), .val (.ref b7), .val (.ref b17), .val (.ref b27), .val (.ref b49), .val (.int he), .val (.int (own_full he mo)), .val (.int (1 : Int32)), .val (.int (0 : Int32))]) rfl) ?_
          exact j197 _ _ _ _ _ _ X137 N137 e137 Z126 (One.val rfl) ⟨jr.1, by omega⟩ jm A126 Fs126 Fm126 Fh126' V126 f132 f133 f134 f135 few126
      ·
        refine own_Fin.step (fun _ => XS.ifNo X126.here hx rfl (hb hby at_138) rfl (XT.i0_eq_f hc138_136)) ?_
        show own_Fin p e below s _ _ _ (T126.setTop (mkF m 141 #[.val (.int p1), .val (.int p2), .val (.int p3), .val (.int p4), .val (.int p5), .val (.int p6), .val (.int mo), .val (.ref b3), .val (.ref b7), .val (.ref b17), .val (.ref b27), .val (.ref b49), .val (.int he), .val (.int (own_full he mo)), .val (.int (1 : Int32)), .val (.int (0 : Int32))] []))
        refine own_Fin.step (fun _ => XS.iload X126.here hx rfl (hb hby at_141) rfl) ?_
        show own_Fin p e below s _ _ _ (T126.setTop (mkF m 143 #[.val (.int p1), .val (.int p2), .val (.int p3), .val (.int p4), .val (.int p5), .val (.int p6), .val (.int mo), .val (.ref b3), .val (.ref b7), .val (.ref b17), .val (.ref b27), .val (.ref b49), .val (.int he), .val (.int (own_full he mo)), .val (.int (1 : Int32)), .val (.int (0 : Int32))] [(.int (0 : Int32))]))
        refine own_Fin.step (fun _ => XS.ifNo X126.here hx rfl (hb hby at_143) rfl (XT.i0_ne_f (by decide : (0 : Int32) = (0 : Int32)))) ?_
        show own_Fin p e below s _ _ _ (T126.setTop (mkF m 146 #[.val (.int p1), .val (.int p2), .val (.int p3), .val (.int p4), .val (.int p5), .val (.int p6), .val (.int mo), .val (.ref b3), .val (.ref b7), .val (.ref b17), .val (.ref b27), .val (.ref b49), .val (.int he), .val (.int (own_full he mo)), .val (.int (1 : Int32)), .val (.int (0 : Int32))] []))
        refine own_Fin.step (fun _ => XS.iconst X126.here hx rfl (hb hby at_146)) ?_
        show own_Fin p e below s _ _ _ (T126.setTop (mkF m 147 #[.val (.int p1), .val (.int p2), .val (.int p3), .val (.int p4), .val (.int p5), .val (.int p6), .val (.int mo), .val (.ref b3), .val (.ref b7), .val (.ref b17), .val (.ref b27), .val (.ref b49), .val (.int he), .val (.int (own_full he mo)), .val (.int (1 : Int32)), .val (.int (0 : Int32))] [(.int (1 : Int32))]))
        refine own_Fin.step (fun _ => XS.goto X126.here hx rfl (pc0 := 147) (pc' := 151) rfl (hb hby at_147) (by decide) (by decide)) ?_
        show own_Fin p e below s _ _ _ (T126.setTop (mkF m 151 #[.val (.int p1), .val (.int p2), .val (.int p3), .val (.int p4), .val (.int p5), .val (.int p6), .val (.int mo), .val (.ref b3), .val (.ref b7), .val (.ref b17), .val (.ref b27), .val (.ref b49), .val (.int he), .val (.int (own_full he mo)), .val (.int (1 : Int32)), .val (.int (0 : Int32))] [(.int (1 : Int32))]))
        refine own_Fin.step (fun _ => XS.istore X126.here hx rfl (hb hby at_151) rfl (l' := #[.val (.int p1), .val (.int p2), .val (.int p3), .val (.int p4), .val (.int p5), .val (.int p6), .val (.int mo), .val (.ref b3), .val (.ref b7), .val (.ref b17), .val (.ref b27), .val (.ref b49), .val (.int he), .val (.int (own_full he mo)), .val (.int (1 : Int32)), .val (.int (0 : Int32))]) rfl) ?_
        show own_Fin p e below s _ _ _ (T126.setTop (mkF m 153 #[.val (.int p1), .val (.int p2), .val (.int p3), .val (.int p4), .val (.int p5), .val (.int p6), .val (.int mo), .val (.ref b3), .val (.ref b7), .val (.ref b17), .val (.ref b27), .val (.ref b49), .val (.int he), .val (.int (own_full he mo)), .val (.int (1 : Int32)), .val (.int (0 : Int32))] []))
        refine own_Fin.step (fun _ => XS.iload X126.here hx rfl (hb hby at_153) rfl) ?_
        show own_Fin p e below s _ _ _ (T126.setTop (mkF m 155 #[.val (.int p1), .val (.int p2), .val (.int p3), .val (.int p4), .val (.int p5), .val (.int p6), .val (.int mo), .val (.ref b3), .val (.ref b7), .val (.ref b17), .val (.ref b27), .val (.ref b49), .val (.int he), .val (.int (own_full he mo)), .val (.int (1 : Int32)), .val (.int (0 : Int32))] [(.int (0 : Int32))]))
        refine own_Fin.step (fun _ => XS.ifYes X126.here hx rfl (pc0 := 155) (pc' := 161) rfl (hb hby at_155) rfl (XT.i0_eq_t (by decide : (0 : Int32) = (0 : Int32))) (by decide) (by decide)) ?_
        show own_Fin p e below s _ _ _ (T126.setTop (mkF m 161 #[.val (.int p1), .val (.int p2), .val (.int p3), .val (.int p4), .val (.int p5), .val (.int p6), .val (.int mo), .val (.ref b3), .val (.ref b7), .val (.ref b17), .val (.ref b27), .val (.ref b49), .val (.int he), .val (.int (own_full he mo)), .val (.int (1 : Int32)), .val (.int (0 : Int32))] []))
        refine own_Fin.step (fun _ => XS.aload X126.here hx rfl (hb hby at_161) rfl rfl) ?_
        show own_Fin p e below s _ _ _ (T126.setTop (mkF m 163 #[.val (.int p1), .val (.int p2), .val (.int p3), .val (.int p4), .val (.int p5), .val (.int p6), .val (.int mo), .val (.ref b3), .val (.ref b7), .val (.ref b17), .val (.ref b27), .val (.ref b49), .val (.int he), .val (.int (own_full he mo)), .val (.int (1 : Int32)), .val (.int (0 : Int32))] [(.ref b49)]))
        obtain ⟨_, T139, L139, X139, ⟨rfl, N139q, e139⟩, st139⟩ := own_callV X126 hx hZ hown (own_w hw 16 rfl) (own_w hw 17 rfl) (own_w hw 19 rfl) (own_w hw 18 rfl) (own_w hw 3 rfl) (own_w hw 20 rfl) (by decide) (rm2 l Z a0 hw b49 he mo T126.heap n0 Z126 Fh126' Fm126) (by decide) (by decide) A126 rfl (W := 0) (g := (mkF m 163 #[.val (.int p1), .val (.int p2), .val (.int p3), .val (.int p4), .val (.int p5), .val (.int p6), .val (.int mo), .val (.ref b3), .val (.ref b7), .val (.ref b17), .val (.ref b27), .val (.ref b49), .val (.int he), .val (.int (own_full he mo)), .val (.int (1 : Int32)), .val (.int (0 : Int32))] [(.ref b49)])) rfl (by rw [hml]; rfl) (argsL := []) (rest := []) (lenOf pd_5 rfl) rfl rfl (by show 2 * 0 + _ ≤ _; exact Nat.le_of_eq rfl) (hb hby at_163) (by decide) (by decide)
        have N139 := Fr.app N126 N139q
        refine own_Fin.step st139 ?_
        show own_Fin p e below s _ _ _ (T139.setTop (mkF m 166 #[.val (.int p1), .val (.int p2), .val (.int p3), .val (.int p4), .val (.int p5), .val (.int p6), .val (.int mo), .val (.ref b3), .val (.ref b7), .val (.ref b17), .val (.ref b27), .val (.ref b49), .val (.int he), .val (.int (own_full he mo)), .val (.int (1 : Int32)), .val (.int (0 : Int32))] [(.int (own_full he mo))]))
        refine own_Fin.step (fun _ => XS.istore X139.here hx rfl (hb hby at_166) rfl (l' := #[.val (.int p1), .val (.int p2), .val (.int p3), .val (.int p4), .val (.int p5), .val (.int p6), .val (.int mo), .val (.ref b3), .val (.ref b7), .val (.ref b17), .val (.ref b27), .val (.ref b49), .val (.int he), .val (.int (own_full he mo)), .val (.int (1 : Int32)), .val (.int (0 : Int32))]) rfl) ?_
        show own_Fin p e below s _ _ _ (T139.setTop (mkF m 168 #[.val (.int p1), .val (.int p2), .val (.int p3), .val (.int p4), .val (.int p5), .val (.int p6), .val (.int mo), .val (.ref b3), .val (.ref b7), .val (.ref b17), .val (.ref b27), .val (.ref b49), .val (.int he), .val (.int (own_full he mo)), .val (.int (1 : Int32)), .val (.int (0 : Int32))] []))
        refine own_Fin.step (fun _ => XS.iload X139.here hx rfl (hb hby at_168) rfl) ?_
        show own_Fin p e below s _ _ _ (T139.setTop (mkF m 170 #[.val (.int p1), .val (.int p2), .val (.int p3), .val (.int p4), .val (.int p5), .val (.int p6), .val (.int mo), .val (.ref b3), .val (.ref b7), .val (.ref b17), .val (.ref b27), .val (.ref b49), .val (.int he), .val (.int (own_full he mo)), .val (.int (1 : Int32)), .val (.int (0 : Int32))] [(.int (1 : Int32))]))
        refine own_Fin.step (fun _ => XS.ifNo X139.here hx rfl (hb hby at_170) rfl (XT.i0_eq_f (by decide : ¬ ((1 : Int32) = (0 : Int32))))) ?_
        show own_Fin p e below s _ _ _ (T139.setTop (mkF m 173 #[.val (.int p1), .val (.int p2), .val (.int p3), .val (.int p4), .val (.int p5), .val (.int p6), .val (.int mo), .val (.ref b3), .val (.ref b7), .val (.ref b17), .val (.ref b27), .val (.ref b49), .val (.int he), .val (.int (own_full he mo)), .val (.int (1 : Int32)), .val (.int (0 : Int32))] []))
        refine own_Fin.step (fun _ => XS.iload X139.here hx rfl (hb hby at_173) rfl) ?_
        show own_Fin p e below s _ _ _ (T139.setTop (mkF m 175 #[.val (.int p1), .val (.int p2), .val (.int p3), .val (.int p4), .val (.int p5), .val (.int p6), .val (.int mo), .val (.ref b3), .val (.ref b7), .val (.ref b17), .val (.ref b27), .val (.ref b49), .val (.int he), .val (.int (own_full he mo)), .val (.int (1 : Int32)), .val (.int (0 : Int32))] [(.int (own_full he mo))]))
        refine own_Fin.step (fun _ => XS.iload X139.here hx rfl (hb hby at_175) rfl) ?_
        show own_Fin p e below s _ _ _ (T139.setTop (mkF m 177 #[.val (.int p1), .val (.int p2), .val (.int p3), .val (.int p4), .val (.int p5), .val (.int p6), .val (.int mo), .val (.ref b3), .val (.ref b7), .val (.ref b17), .val (.ref b27), .val (.ref b49), .val (.int he), .val (.int (own_full he mo)), .val (.int (1 : Int32)), .val (.int (0 : Int32))] [(.int he), (.int (own_full he mo))]))
        refine own_Fin.step (fun _ => XS.iload X139.here hx rfl (hb hby at_177) rfl) ?_
        show own_Fin p e below s _ _ _ (T139.setTop (mkF m 179 #[.val (.int p1), .val (.int p2), .val (.int p3), .val (.int p4), .val (.int p5), .val (.int p6), .val (.int mo), .val (.ref b3), .val (.ref b7), .val (.ref b17), .val (.ref b27), .val (.ref b49), .val (.int he), .val (.int (own_full he mo)), .val (.int (1 : Int32)), .val (.int (0 : Int32))] [(.int mo), (.int he), (.int (own_full he mo))]))
        by_cases hc179_140 : he = mo
        ·
          refine own_Fin.step (fun _ => XS.icmpNo X139.here hx rfl (hb hby at_179) rfl (XT.ii_ne_f hc179_140)) ?_
          show own_Fin p e below s _ _ _ (T139.setTop (mkF m 182 #[.val (.int p1), .val (.int p2), .val (.int p3), .val (.int p4), .val (.int p5), .val (.int p6), .val (.int mo), .val (.ref b3), .val (.ref b7), .val (.ref b17), .val (.ref b27), .val (.ref b49), .val (.int he), .val (.int (own_full he mo)), .val (.int (1 : Int32)), .val (.int (0 : Int32))] [(.int (own_full he mo))]))
          refine own_Fin.step (fun _ => XS.iconst X139.here hx rfl (hb hby at_182)) ?_
          show own_Fin p e below s _ _ _ (T139.setTop (mkF m 183 #[.val (.int p1), .val (.int p2), .val (.int p3), .val (.int p4), .val (.int p5), .val (.int p6), .val (.int mo), .val (.ref b3), .val (.ref b7), .val (.ref b17), .val (.ref b27), .val (.ref b49), .val (.int he), .val (.int (own_full he mo)), .val (.int (1 : Int32)), .val (.int (0 : Int32))] [(.int (1 : Int32)), (.int (own_full he mo))]))
          refine own_Fin.step (fun _ => XS.goto X139.here hx rfl (pc0 := 183) (pc' := 187) rfl (hb hby at_183) (by decide) (by decide)) ?_
          show own_Fin p e below s _ _ _ (T139.setTop (mkF m 187 #[.val (.int p1), .val (.int p2), .val (.int p3), .val (.int p4), .val (.int p5), .val (.int p6), .val (.int mo), .val (.ref b3), .val (.ref b7), .val (.ref b17), .val (.ref b27), .val (.ref b49), .val (.int he), .val (.int (own_full he mo)), .val (.int (1 : Int32)), .val (.int (0 : Int32))] [(.int (1 : Int32)), (.int (own_full he mo))]))
          refine own_Fin.step (fun _ => XS.icmpNo X139.here hx rfl (hb hby at_187) rfl (XT.ii_ne_f (if_pos hc179_140))) ?_
          show own_Fin p e below s _ _ _ (T139.setTop (mkF m 190 #[.val (.int p1), .val (.int p2), .val (.int p3), .val (.int p4), .val (.int p5), .val (.int p6), .val (.int mo), .val (.ref b3), .val (.ref b7), .val (.ref b17), .val (.ref b27), .val (.ref b49), .val (.int he), .val (.int (own_full he mo)), .val (.int (1 : Int32)), .val (.int (0 : Int32))] []))
          refine own_Fin.step (fun _ => XS.iconst X139.here hx rfl (hb hby at_190)) ?_
          show own_Fin p e below s _ _ _ (T139.setTop (mkF m 191 #[.val (.int p1), .val (.int p2), .val (.int p3), .val (.int p4), .val (.int p5), .val (.int p6), .val (.int mo), .val (.ref b3), .val (.ref b7), .val (.ref b17), .val (.ref b27), .val (.ref b49), .val (.int he), .val (.int (own_full he mo)), .val (.int (1 : Int32)), .val (.int (0 : Int32))] [(.int (1 : Int32))]))
          refine own_Fin.step (fun _ => XS.goto X139.here hx rfl (pc0 := 191) (pc' := 195) rfl (hb hby at_191) (by decide) (by decide)) ?_
          show own_Fin p e below s _ _ _ (T139.setTop (mkF m 195 #[.val (.int p1), .val (.int p2), .val (.int p3), .val (.int p4), .val (.int p5), .val (.int p6), .val (.int mo), .val (.ref b3), .val (.ref b7), .val (.ref b17), .val (.ref b27), .val (.ref b49), .val (.int he), .val (.int (own_full he mo)), .val (.int (1 : Int32)), .val (.int (0 : Int32))] [(.int (1 : Int32))]))
          refine own_Fin.step (fun _ => XS.istore X139.here hx rfl (hb hby at_195) rfl (l' := #[.val (.int p1), .val (.int p2), .val (.int p3), .val (.int p4), .val (.int p5), .val (.int p6), .val (.int mo), .val (.ref b3), .val (.ref b7), .val (.ref b17), .val (.ref b27), .val (.ref b49), .val (.int he), .val (.int (own_full he mo)), .val (.int (1 : Int32)), .val (.int (0 : Int32))]) rfl) ?_
          exact j197 _ _ _ _ _ _ X139 N139 e139 Z126 (One.val rfl) ⟨jr.1, by omega⟩ jm A126 Fs126 Fm126 Fh126' V126 f132 f133 f134 f135 few126
        ·
          refine own_Fin.step (fun _ => XS.icmpYes X139.here hx rfl (pc0 := 179) (pc' := 186) rfl (hb hby at_179) rfl (XT.ii_ne_t hc179_140) (by decide) (by decide)) ?_
          show own_Fin p e below s _ _ _ (T139.setTop (mkF m 186 #[.val (.int p1), .val (.int p2), .val (.int p3), .val (.int p4), .val (.int p5), .val (.int p6), .val (.int mo), .val (.ref b3), .val (.ref b7), .val (.ref b17), .val (.ref b27), .val (.ref b49), .val (.int he), .val (.int (own_full he mo)), .val (.int (1 : Int32)), .val (.int (0 : Int32))] [(.int (own_full he mo))]))
          refine own_Fin.step (fun _ => XS.iconst X139.here hx rfl (hb hby at_186)) ?_
          show own_Fin p e below s _ _ _ (T139.setTop (mkF m 187 #[.val (.int p1), .val (.int p2), .val (.int p3), .val (.int p4), .val (.int p5), .val (.int p6), .val (.int mo), .val (.ref b3), .val (.ref b7), .val (.ref b17), .val (.ref b27), .val (.ref b49), .val (.int he), .val (.int (own_full he mo)), .val (.int (1 : Int32)), .val (.int (0 : Int32))] [(.int (0 : Int32)), (.int (own_full he mo))]))
          refine own_Fin.step (fun _ => XS.icmpNo X139.here hx rfl (hb hby at_187) rfl (XT.ii_ne_f (if_neg hc179_140))) ?_
          show own_Fin p e below s _ _ _ (T139.setTop (mkF m 190 #[.val (.int p1), .val (.int p2), .val (.int p3), .val (.int p4), .val (.int p5), .val (.int p6), .val (.int mo), .val (.ref b3), .val (.ref b7), .val (.ref b17), .val (.ref b27), .val (.ref b49), .val (.int he), .val (.int (own_full he mo)), .val (.int (1 : Int32)), .val (.int (0 : Int32))] []))
          refine own_Fin.step (fun _ => XS.iconst X139.here hx rfl (hb hby at_190)) ?_
          show own_Fin p e below s _ _ _ (T139.setTop (mkF m 191 #[.val (.int p1), .val (.int p2), .val (.int p3), .val (.int p4), .val (.int p5), .val (.int p6), .val (.int mo), .val (.ref b3), .val (.ref b7), .val (.ref b17), .val (.ref b27), .val (.ref b49), .val (.int he), .val (.int (own_full he mo)), .val (.int (1 : Int32)), .val (.int (0 : Int32))] [(.int (1 : Int32))]))
          refine own_Fin.step (fun _ => XS.goto X139.here hx rfl (pc0 := 191) (pc' := 195) rfl (hb hby at_191) (by decide) (by decide)) ?_
          show own_Fin p e below s _ _ _ (T139.setTop (mkF m 195 #[.val (.int p1), .val (.int p2), .val (.int p3), .val (.int p4), .val (.int p5), .val (.int p6), .val (.int mo), .val (.ref b3), .val (.ref b7), .val (.ref b17), .val (.ref b27), .val (.ref b49), .val (.int he), .val (.int (own_full he mo)), .val (.int (1 : Int32)), .val (.int (0 : Int32))] [(.int (1 : Int32))]))
          refine own_Fin.step (fun _ => XS.istore X139.here hx rfl (hb hby at_195) rfl (l' := #[.val (.int p1), .val (.int p2), .val (.int p3), .val (.int p4), .val (.int p5), .val (.int p6), .val (.int mo), .val (.ref b3), .val (.ref b7), .val (.ref b17), .val (.ref b27), .val (.ref b49), .val (.int he), .val (.int (own_full he mo)), .val (.int (1 : Int32)), .val (.int (0 : Int32))]) rfl) ?_
          exact j197 _ _ _ _ _ _ X139 N139 e139 Z126 (One.val rfl) ⟨jr.1, by omega⟩ jm A126 Fs126 Fm126 Fh126' V126 f132 f133 f134 f135 few126
    ·
      show own_Fin p e below s _ _ _ (T126.setTop (mkF m 129 #[.val (.int p1), .val (.int p2), .val (.int p3), .val (.int p4), .val (.int p5), .val (.int p6), .val (.int mo), .val (.ref b3), .val (.ref b7), .val (.ref b17), .val (.ref b27), .val (.ref b49), .val (.int he), .val (.int (own_full he mo)), .val (.int (1 : Int32)), s15] [(.int (1 : Int32))]))
      refine own_Fin.step (fun _ => XS.istore X126.here hx rfl (hb hby at_129) rfl (l' := #[.val (.int p1), .val (.int p2), .val (.int p3), .val (.int p4), .val (.int p5), .val (.int p6), .val (.int mo), .val (.ref b3), .val (.ref b7), .val (.ref b17), .val (.ref b27), .val (.ref b49), .val (.int he), .val (.int (own_full he mo)), .val (.int (1 : Int32)), .val (.int (1 : Int32))]) (XS.store1 (o := s15) rfl hs15 rfl)) ?_
      show own_Fin p e below s _ _ _ (T126.setTop (mkF m 131 #[.val (.int p1), .val (.int p2), .val (.int p3), .val (.int p4), .val (.int p5), .val (.int p6), .val (.int mo), .val (.ref b3), .val (.ref b7), .val (.ref b17), .val (.ref b27), .val (.ref b49), .val (.int he), .val (.int (own_full he mo)), .val (.int (1 : Int32)), .val (.int (1 : Int32))] []))
      refine own_Fin.step (fun _ => XS.iload X126.here hx rfl (hb hby at_131) rfl) ?_
      show own_Fin p e below s _ _ _ (T126.setTop (mkF m 133 #[.val (.int p1), .val (.int p2), .val (.int p3), .val (.int p4), .val (.int p5), .val (.int p6), .val (.int mo), .val (.ref b3), .val (.ref b7), .val (.ref b17), .val (.ref b27), .val (.ref b49), .val (.int he), .val (.int (own_full he mo)), .val (.int (1 : Int32)), .val (.int (1 : Int32))] [(.int (1 : Int32))]))
      refine own_Fin.step (fun _ => XS.ifNo X126.here hx rfl (hb hby at_133) rfl (XT.i0_eq_f (by decide : ¬ ((1 : Int32) = (0 : Int32))))) ?_
      show own_Fin p e below s _ _ _ (T126.setTop (mkF m 136 #[.val (.int p1), .val (.int p2), .val (.int p3), .val (.int p4), .val (.int p5), .val (.int p6), .val (.int mo), .val (.ref b3), .val (.ref b7), .val (.ref b17), .val (.ref b27), .val (.ref b49), .val (.int he), .val (.int (own_full he mo)), .val (.int (1 : Int32)), .val (.int (1 : Int32))] []))
      refine own_Fin.step (fun _ => XS.iload X126.here hx rfl (hb hby at_136) rfl) ?_
      show own_Fin p e below s _ _ _ (T126.setTop (mkF m 138 #[.val (.int p1), .val (.int p2), .val (.int p3), .val (.int p4), .val (.int p5), .val (.int p6), .val (.int mo), .val (.ref b3), .val (.ref b7), .val (.ref b17), .val (.ref b27), .val (.ref b49), .val (.int he), .val (.int (own_full he mo)), .val (.int (1 : Int32)), .val (.int (1 : Int32))] [(.int (own_full he mo))]))
      refine own_Fin.step (fun _ => XS.ifYes X126.here hx rfl (pc0 := 138) (pc' := 146) rfl (hb hby at_138) rfl (XT.i0_eq_t (own_full_lt hlt)) (by decide) (by decide)) ?_
      show own_Fin p e below s _ _ _ (T126.setTop (mkF m 146 #[.val (.int p1), .val (.int p2), .val (.int p3), .val (.int p4), .val (.int p5), .val (.int p6), .val (.int mo), .val (.ref b3), .val (.ref b7), .val (.ref b17), .val (.ref b27), .val (.ref b49), .val (.int he), .val (.int (own_full he mo)), .val (.int (1 : Int32)), .val (.int (1 : Int32))] []))
      refine own_Fin.step (fun _ => XS.iconst X126.here hx rfl (hb hby at_146)) ?_
      show own_Fin p e below s _ _ _ (T126.setTop (mkF m 147 #[.val (.int p1), .val (.int p2), .val (.int p3), .val (.int p4), .val (.int p5), .val (.int p6), .val (.int mo), .val (.ref b3), .val (.ref b7), .val (.ref b17), .val (.ref b27), .val (.ref b49), .val (.int he), .val (.int (own_full he mo)), .val (.int (1 : Int32)), .val (.int (1 : Int32))] [(.int (1 : Int32))]))
      refine own_Fin.step (fun _ => XS.goto X126.here hx rfl (pc0 := 147) (pc' := 151) rfl (hb hby at_147) (by decide) (by decide)) ?_
      show own_Fin p e below s _ _ _ (T126.setTop (mkF m 151 #[.val (.int p1), .val (.int p2), .val (.int p3), .val (.int p4), .val (.int p5), .val (.int p6), .val (.int mo), .val (.ref b3), .val (.ref b7), .val (.ref b17), .val (.ref b27), .val (.ref b49), .val (.int he), .val (.int (own_full he mo)), .val (.int (1 : Int32)), .val (.int (1 : Int32))] [(.int (1 : Int32))]))
      refine own_Fin.step (fun _ => XS.istore X126.here hx rfl (hb hby at_151) rfl (l' := #[.val (.int p1), .val (.int p2), .val (.int p3), .val (.int p4), .val (.int p5), .val (.int p6), .val (.int mo), .val (.ref b3), .val (.ref b7), .val (.ref b17), .val (.ref b27), .val (.ref b49), .val (.int he), .val (.int (own_full he mo)), .val (.int (1 : Int32)), .val (.int (1 : Int32))]) rfl) ?_
      show own_Fin p e below s _ _ _ (T126.setTop (mkF m 153 #[.val (.int p1), .val (.int p2), .val (.int p3), .val (.int p4), .val (.int p5), .val (.int p6), .val (.int mo), .val (.ref b3), .val (.ref b7), .val (.ref b17), .val (.ref b27), .val (.ref b49), .val (.int he), .val (.int (own_full he mo)), .val (.int (1 : Int32)), .val (.int (1 : Int32))] []))
      refine own_Fin.step (fun _ => XS.iload X126.here hx rfl (hb hby at_153) rfl) ?_
      show own_Fin p e below s _ _ _ (T126.setTop (mkF m 155 #[.val (.int p1), .val (.int p2), .val (.int p3), .val (.int p4), .val (.int p5), .val (.int p6), .val (.int mo), .val (.ref b3), .val (.ref b7), .val (.ref b17), .val (.ref b27), .val (.ref b49), .val (.int he), .val (.int (own_full he mo)), .val (.int (1 : Int32)), .val (.int (1 : Int32))] [(.int (1 : Int32))]))
      refine own_Fin.step (fun _ => XS.ifNo X126.here hx rfl (hb hby at_155) rfl (XT.i0_eq_f (by decide : ¬ ((1 : Int32) = (0 : Int32))))) ?_
      show own_Fin p e below s _ _ _ (T126.setTop (mkF m 158 #[.val (.int p1), .val (.int p2), .val (.int p3), .val (.int p4), .val (.int p5), .val (.int p6), .val (.int mo), .val (.ref b3), .val (.ref b7), .val (.ref b17), .val (.ref b27), .val (.ref b49), .val (.int he), .val (.int (own_full he mo)), .val (.int (1 : Int32)), .val (.int (1 : Int32))] []))
      refine own_Fin.step (fun _ => XS.iinc X126.here hx rfl (hb hby at_158) rfl (l' := #[.val (.int p1), .val (.int p2), .val (.int p3), .val (.int p4), .val (.int p5), .val (.int p6), .val (.int mo), .val (.ref b3), .val (.ref b7), .val (.ref b17), .val (.ref b27), .val (.ref b49), .val (.int (he + (1 : Int32))), .val (.int (own_full he mo)), .val (.int (1 : Int32)), .val (.int (1 : Int32))]) rfl) ?_
      show own_Fin p e below s _ _ _ (T126.setTop (mkF m 161 #[.val (.int p1), .val (.int p2), .val (.int p3), .val (.int p4), .val (.int p5), .val (.int p6), .val (.int mo), .val (.ref b3), .val (.ref b7), .val (.ref b17), .val (.ref b27), .val (.ref b49), .val (.int (he + (1 : Int32))), .val (.int (own_full he mo)), .val (.int (1 : Int32)), .val (.int (1 : Int32))] []))
      refine own_Fin.step (fun _ => XS.aload X126.here hx rfl (hb hby at_161) rfl rfl) ?_
      show own_Fin p e below s _ _ _ (T126.setTop (mkF m 163 #[.val (.int p1), .val (.int p2), .val (.int p3), .val (.int p4), .val (.int p5), .val (.int p6), .val (.int mo), .val (.ref b3), .val (.ref b7), .val (.ref b17), .val (.ref b27), .val (.ref b49), .val (.int (he + (1 : Int32))), .val (.int (own_full he mo)), .val (.int (1 : Int32)), .val (.int (1 : Int32))] [(.ref b49)]))
      obtain ⟨_, T141, L141, X141, ⟨rfl, N141q, e141⟩, st141⟩ := own_callV X126 hx hZ hown (own_w hw 16 rfl) (own_w hw 17 rfl) (own_w hw 19 rfl) (own_w hw 18 rfl) (own_w hw 3 rfl) (own_w hw 20 rfl) (by decide) (rm2 l Z a0 hw b49 (he + (1 : Int32)) mo T126.heap n0 Z126 Fh126 Fm126) (by decide) (by decide) A126 rfl (W := 0) (g := (mkF m 163 #[.val (.int p1), .val (.int p2), .val (.int p3), .val (.int p4), .val (.int p5), .val (.int p6), .val (.int mo), .val (.ref b3), .val (.ref b7), .val (.ref b17), .val (.ref b27), .val (.ref b49), .val (.int (he + (1 : Int32))), .val (.int (own_full he mo)), .val (.int (1 : Int32)), .val (.int (1 : Int32))] [(.ref b49)])) rfl (by rw [hml]; rfl) (argsL := []) (rest := []) (lenOf pd_5 rfl) rfl rfl (by show 2 * 0 + _ ≤ _; exact Nat.le_of_eq rfl) (hb hby at_163) (by decide) (by decide)
      have N141 := Fr.app N126 N141q
      refine own_Fin.step st141 ?_
      show own_Fin p e below s _ _ _ (T141.setTop (mkF m 166 #[.val (.int p1), .val (.int p2), .val (.int p3), .val (.int p4), .val (.int p5), .val (.int p6), .val (.int mo), .val (.ref b3), .val (.ref b7), .val (.ref b17), .val (.ref b27), .val (.ref b49), .val (.int (he + (1 : Int32))), .val (.int (own_full he mo)), .val (.int (1 : Int32)), .val (.int (1 : Int32))] [(.int (own_full (he + (1 : Int32)) mo))]))
      refine own_Fin.step (fun _ => XS.istore X141.here hx rfl (hb hby at_166) rfl (l' := #[.val (.int p1), .val (.int p2), .val (.int p3), .val (.int p4), .val (.int p5), .val (.int p6), .val (.int mo), .val (.ref b3), .val (.ref b7), .val (.ref b17), .val (.ref b27), .val (.ref b49), .val (.int (he + (1 : Int32))), .val (.int (own_full (he + (1 : Int32)) mo)), .val (.int (1 : Int32)), .val (.int (1 : Int32))]) rfl) ?_
      show own_Fin p e below s _ _ _ (T141.setTop (mkF m 168 #[.val (.int p1), .val (.int p2), .val (.int p3), .val (.int p4), .val (.int p5), .val (.int p6), .val (.int mo), .val (.ref b3), .val (.ref b7), .val (.ref b17), .val (.ref b27), .val (.ref b49), .val (.int (he + (1 : Int32))), .val (.int (own_full (he + (1 : Int32)) mo)), .val (.int (1 : Int32)), .val (.int (1 : Int32))] []))
      refine own_Fin.step (fun _ => XS.iload X141.here hx rfl (hb hby at_168) rfl) ?_
      show own_Fin p e below s _ _ _ (T141.setTop (mkF m 170 #[.val (.int p1), .val (.int p2), .val (.int p3), .val (.int p4), .val (.int p5), .val (.int p6), .val (.int mo), .val (.ref b3), .val (.ref b7), .val (.ref b17), .val (.ref b27), .val (.ref b49), .val (.int (he + (1 : Int32))), .val (.int (own_full (he + (1 : Int32)) mo)), .val (.int (1 : Int32)), .val (.int (1 : Int32))] [(.int (1 : Int32))]))
      refine own_Fin.step (fun _ => XS.ifNo X141.here hx rfl (hb hby at_170) rfl (XT.i0_eq_f (by decide : ¬ ((1 : Int32) = (0 : Int32))))) ?_
      show own_Fin p e below s _ _ _ (T141.setTop (mkF m 173 #[.val (.int p1), .val (.int p2), .val (.int p3), .val (.int p4), .val (.int p5), .val (.int p6), .val (.int mo), .val (.ref b3), .val (.ref b7), .val (.ref b17), .val (.ref b27), .val (.ref b49), .val (.int (he + (1 : Int32))), .val (.int (own_full (he + (1 : Int32)) mo)), .val (.int (1 : Int32)), .val (.int (1 : Int32))] []))
      refine own_Fin.step (fun _ => XS.iload X141.here hx rfl (hb hby at_173) rfl) ?_
      show own_Fin p e below s _ _ _ (T141.setTop (mkF m 175 #[.val (.int p1), .val (.int p2), .val (.int p3), .val (.int p4), .val (.int p5), .val (.int p6), .val (.int mo), .val (.ref b3), .val (.ref b7), .val (.ref b17), .val (.ref b27), .val (.ref b49), .val (.int (he + (1 : Int32))), .val (.int (own_full (he + (1 : Int32)) mo)), .val (.int (1 : Int32)), .val (.int (1 : Int32))] [(.int (own_full (he + (1 : Int32)) mo))]))
      refine own_Fin.step (fun _ => XS.iload X141.here hx rfl (hb hby at_175) rfl) ?_
      show own_Fin p e below s _ _ _ (T141.setTop (mkF m 177 #[.val (.int p1), .val (.int p2), .val (.int p3), .val (.int p4), .val (.int p5), .val (.int p6), .val (.int mo), .val (.ref b3), .val (.ref b7), .val (.ref b17), .val (.ref b27), .val (.ref b49), .val (.int (he + (1 : Int32))), .val (.int (own_full (he + (1 : Int32)) mo)), .val (.int (1 : Int32)), .val (.int (1 : Int32))] [(.int (he + (1 : Int32))), (.int (own_full (he + (1 : Int32)) mo))]))
      refine own_Fin.step (fun _ => XS.iload X141.here hx rfl (hb hby at_177) rfl) ?_
      show own_Fin p e below s _ _ _ (T141.setTop (mkF m 179 #[.val (.int p1), .val (.int p2), .val (.int p3), .val (.int p4), .val (.int p5), .val (.int p6), .val (.int mo), .val (.ref b3), .val (.ref b7), .val (.ref b17), .val (.ref b27), .val (.ref b49), .val (.int (he + (1 : Int32))), .val (.int (own_full (he + (1 : Int32)) mo)), .val (.int (1 : Int32)), .val (.int (1 : Int32))] [(.int mo), (.int (he + (1 : Int32))), (.int (own_full (he + (1 : Int32)) mo))]))
      by_cases hc179_142 : (he + (1 : Int32)) = mo
      ·
        refine own_Fin.step (fun _ => XS.icmpNo X141.here hx rfl (hb hby at_179) rfl (XT.ii_ne_f hc179_142)) ?_
        show own_Fin p e below s _ _ _ (T141.setTop (mkF m 182 #[.val (.int p1), .val (.int p2), .val (.int p3), .val (.int p4), .val (.int p5), .val (.int p6), .val (.int mo), .val (.ref b3), .val (.ref b7), .val (.ref b17), .val (.ref b27), .val (.ref b49), .val (.int (he + (1 : Int32))), .val (.int (own_full (he + (1 : Int32)) mo)), .val (.int (1 : Int32)), .val (.int (1 : Int32))] [(.int (own_full (he + (1 : Int32)) mo))]))
        refine own_Fin.step (fun _ => XS.iconst X141.here hx rfl (hb hby at_182)) ?_
        show own_Fin p e below s _ _ _ (T141.setTop (mkF m 183 #[.val (.int p1), .val (.int p2), .val (.int p3), .val (.int p4), .val (.int p5), .val (.int p6), .val (.int mo), .val (.ref b3), .val (.ref b7), .val (.ref b17), .val (.ref b27), .val (.ref b49), .val (.int (he + (1 : Int32))), .val (.int (own_full (he + (1 : Int32)) mo)), .val (.int (1 : Int32)), .val (.int (1 : Int32))] [(.int (1 : Int32)), (.int (own_full (he + (1 : Int32)) mo))]))
        refine own_Fin.step (fun _ => XS.goto X141.here hx rfl (pc0 := 183) (pc' := 187) rfl (hb hby at_183) (by decide) (by decide)) ?_
        show own_Fin p e below s _ _ _ (T141.setTop (mkF m 187 #[.val (.int p1), .val (.int p2), .val (.int p3), .val (.int p4), .val (.int p5), .val (.int p6), .val (.int mo), .val (.ref b3), .val (.ref b7), .val (.ref b17), .val (.ref b27), .val (.ref b49), .val (.int (he + (1 : Int32))), .val (.int (own_full (he + (1 : Int32)) mo)), .val (.int (1 : Int32)), .val (.int (1 : Int32))] [(.int (1 : Int32)), (.int (own_full (he + (1 : Int32)) mo))]))
        refine own_Fin.step (fun _ => XS.icmpNo X141.here hx rfl (hb hby at_187) rfl (XT.ii_ne_f (if_pos hc179_142))) ?_
        show own_Fin p e below s _ _ _ (T141.setTop (mkF m 190 #[.val (.int p1), .val (.int p2), .val (.int p3), .val (.int p4), .val (.int p5), .val (.int p6), .val (.int mo), .val (.ref b3), .val (.ref b7), .val (.ref b17), .val (.ref b27), .val (.ref b49), .val (.int (he + (1 : Int32))), .val (.int (own_full (he + (1 : Int32)) mo)), .val (.int (1 : Int32)), .val (.int (1 : Int32))] []))
        refine own_Fin.step (fun _ => XS.iconst X141.here hx rfl (hb hby at_190)) ?_
        show own_Fin p e below s _ _ _ (T141.setTop (mkF m 191 #[.val (.int p1), .val (.int p2), .val (.int p3), .val (.int p4), .val (.int p5), .val (.int p6), .val (.int mo), .val (.ref b3), .val (.ref b7), .val (.ref b17), .val (.ref b27), .val (.ref b49), .val (.int (he + (1 : Int32))), .val (.int (own_full (he + (1 : Int32)) mo)), .val (.int (1 : Int32)), .val (.int (1 : Int32))] [(.int (1 : Int32))]))
        refine own_Fin.step (fun _ => XS.goto X141.here hx rfl (pc0 := 191) (pc' := 195) rfl (hb hby at_191) (by decide) (by decide)) ?_
        show own_Fin p e below s _ _ _ (T141.setTop (mkF m 195 #[.val (.int p1), .val (.int p2), .val (.int p3), .val (.int p4), .val (.int p5), .val (.int p6), .val (.int mo), .val (.ref b3), .val (.ref b7), .val (.ref b17), .val (.ref b27), .val (.ref b49), .val (.int (he + (1 : Int32))), .val (.int (own_full (he + (1 : Int32)) mo)), .val (.int (1 : Int32)), .val (.int (1 : Int32))] [(.int (1 : Int32))]))
        refine own_Fin.step (fun _ => XS.istore X141.here hx rfl (hb hby at_195) rfl (l' := #[.val (.int p1), .val (.int p2), .val (.int p3), .val (.int p4), .val (.int p5), .val (.int p6), .val (.int mo), .val (.ref b3), .val (.ref b7), .val (.ref b17), .val (.ref b27), .val (.ref b49), .val (.int (he + (1 : Int32))), .val (.int (own_full (he + (1 : Int32)) mo)), .val (.int (1 : Int32)), .val (.int (1 : Int32))]) rfl) ?_
        exact j197 _ _ _ _ _ _ X141 N141 e141 Z126 (One.val rfl) (own_inc jr (by decide)) (Or.inr (own_lt_le hlt)) A126 Fs126 Fm126 Fh126 V126 f132 f133 f134 f135 few126
      ·
        refine own_Fin.step (fun _ => XS.icmpYes X141.here hx rfl (pc0 := 179) (pc' := 186) rfl (hb hby at_179) rfl (XT.ii_ne_t hc179_142) (by decide) (by decide)) ?_
        show own_Fin p e below s _ _ _ (T141.setTop (mkF m 186 #[.val (.int p1), .val (.int p2), .val (.int p3), .val (.int p4), .val (.int p5), .val (.int p6), .val (.int mo), .val (.ref b3), .val (.ref b7), .val (.ref b17), .val (.ref b27), .val (.ref b49), .val (.int (he + (1 : Int32))), .val (.int (own_full (he + (1 : Int32)) mo)), .val (.int (1 : Int32)), .val (.int (1 : Int32))] [(.int (own_full (he + (1 : Int32)) mo))]))
        refine own_Fin.step (fun _ => XS.iconst X141.here hx rfl (hb hby at_186)) ?_
        show own_Fin p e below s _ _ _ (T141.setTop (mkF m 187 #[.val (.int p1), .val (.int p2), .val (.int p3), .val (.int p4), .val (.int p5), .val (.int p6), .val (.int mo), .val (.ref b3), .val (.ref b7), .val (.ref b17), .val (.ref b27), .val (.ref b49), .val (.int (he + (1 : Int32))), .val (.int (own_full (he + (1 : Int32)) mo)), .val (.int (1 : Int32)), .val (.int (1 : Int32))] [(.int (0 : Int32)), (.int (own_full (he + (1 : Int32)) mo))]))
        refine own_Fin.step (fun _ => XS.icmpNo X141.here hx rfl (hb hby at_187) rfl (XT.ii_ne_f (if_neg hc179_142))) ?_
        show own_Fin p e below s _ _ _ (T141.setTop (mkF m 190 #[.val (.int p1), .val (.int p2), .val (.int p3), .val (.int p4), .val (.int p5), .val (.int p6), .val (.int mo), .val (.ref b3), .val (.ref b7), .val (.ref b17), .val (.ref b27), .val (.ref b49), .val (.int (he + (1 : Int32))), .val (.int (own_full (he + (1 : Int32)) mo)), .val (.int (1 : Int32)), .val (.int (1 : Int32))] []))
        refine own_Fin.step (fun _ => XS.iconst X141.here hx rfl (hb hby at_190)) ?_
        show own_Fin p e below s _ _ _ (T141.setTop (mkF m 191 #[.val (.int p1), .val (.int p2), .val (.int p3), .val (.int p4), .val (.int p5), .val (.int p6), .val (.int mo), .val (.ref b3), .val (.ref b7), .val (.ref b17), .val (.ref b27), .val (.ref b49), .val (.int (he + (1 : Int32))), .val (.int (own_full (he + (1 : Int32)) mo)), .val (.int (1 : Int32)), .val (.int (1 : Int32))] [(.int (1 : Int32))]))
        refine own_Fin.step (fun _ => XS.goto X141.here hx rfl (pc0 := 191) (pc' := 195) rfl (hb hby at_191) (by decide) (by decide)) ?_
        show own_Fin p e below s _ _ _ (T141.setTop (mkF m 195 #[.val (.int p1), .val (.int p2), .val (.int p3), .val (.int p4), .val (.int p5), .val (.int p6), .val (.int mo), .val (.ref b3), .val (.ref b7), .val (.ref b17), .val (.ref b27), .val (.ref b49), .val (.int (he + (1 : Int32))), .val (.int (own_full (he + (1 : Int32)) mo)), .val (.int (1 : Int32)), .val (.int (1 : Int32))] [(.int (1 : Int32))]))
        refine own_Fin.step (fun _ => XS.istore X141.here hx rfl (hb hby at_195) rfl (l' := #[.val (.int p1), .val (.int p2), .val (.int p3), .val (.int p4), .val (.int p5), .val (.int p6), .val (.int mo), .val (.ref b3), .val (.ref b7), .val (.ref b17), .val (.ref b27), .val (.ref b49), .val (.int (he + (1 : Int32))), .val (.int (own_full (he + (1 : Int32)) mo)), .val (.int (1 : Int32)), .val (.int (1 : Int32))]) rfl) ?_
        exact j197 _ _ _ _ _ _ X141 N141 e141 Z126 (One.val rfl) (own_inc jr (by decide)) (Or.inr (own_lt_le hlt)) A126 Fs126 Fm126 Fh126 V126 f132 f133 f134 f135 few126
  refine own_Fin.step (fun _ => XS.iconst X59.here hx rfl (hb hby at_88)) ?_
  show own_Fin p e below s _ _ _ (T59.setTop (mkF m 89 #[.val (.int p1), .val (.int p2), .val (.int p3), .val (.int p4), .val (.int p5), .val (.int p6), .val (.int mo), .val (.ref b3), .val (.ref b7), .val (.ref b17), .val (.ref b27), .val (.ref b49), .unset, .unset, .unset, .unset] [(.int (0 : Int32))]))
  refine own_Fin.step (fun _ => XS.istore X59.here hx rfl (hb hby at_89) rfl (l' := #[.val (.int p1), .val (.int p2), .val (.int p3), .val (.int p4), .val (.int p5), .val (.int p6), .val (.int mo), .val (.ref b3), .val (.ref b7), .val (.ref b17), .val (.ref b27), .val (.ref b49), .val (.int (0 : Int32)), .unset, .unset, .unset]) rfl) ?_
  show own_Fin p e below s _ _ _ (T59.setTop (mkF m 91 #[.val (.int p1), .val (.int p2), .val (.int p3), .val (.int p4), .val (.int p5), .val (.int p6), .val (.int mo), .val (.ref b3), .val (.ref b7), .val (.ref b17), .val (.ref b27), .val (.ref b49), .val (.int (0 : Int32)), .unset, .unset, .unset] []))
  refine own_Fin.step (fun _ => XS.aload X59.here hx rfl (hb hby at_91) rfl rfl) ?_
  show own_Fin p e below s _ _ _ (T59.setTop (mkF m 93 #[.val (.int p1), .val (.int p2), .val (.int p3), .val (.int p4), .val (.int p5), .val (.int p6), .val (.int mo), .val (.ref b3), .val (.ref b7), .val (.ref b17), .val (.ref b27), .val (.ref b49), .val (.int (0 : Int32)), .unset, .unset, .unset] [(.ref b49)]))
  obtain ⟨_, T143, L143, X143, ⟨rfl, N143q, e143⟩, st143⟩ := own_callV X59 hx hZ hown (own_w hw 16 rfl) (own_w hw 17 rfl) (own_w hw 19 rfl) (own_w hw 18 rfl) (own_w hw 3 rfl) (own_w hw 20 rfl) (by decide) (rm2 l Z a0 hw b49 (0 : Int32) mo T59.heap n0 Z59 Fh59 Fm59) (by decide) (by decide) A59 rfl (W := 0) (g := (mkF m 93 #[.val (.int p1), .val (.int p2), .val (.int p3), .val (.int p4), .val (.int p5), .val (.int p6), .val (.int mo), .val (.ref b3), .val (.ref b7), .val (.ref b17), .val (.ref b27), .val (.ref b49), .val (.int (0 : Int32)), .unset, .unset, .unset] [(.ref b49)])) rfl (by rw [hml]; rfl) (argsL := []) (rest := []) (lenOf pd_5 rfl) rfl rfl (by show 2 * 0 + _ ≤ _; exact Nat.le_of_eq rfl) (hb hby at_93) (by decide) (by decide)
  have N143 := Fr.app N59 N143q
  refine own_Fin.step st143 ?_
  show own_Fin p e below s _ _ _ (T143.setTop (mkF m 96 #[.val (.int p1), .val (.int p2), .val (.int p3), .val (.int p4), .val (.int p5), .val (.int p6), .val (.int mo), .val (.ref b3), .val (.ref b7), .val (.ref b17), .val (.ref b27), .val (.ref b49), .val (.int (0 : Int32)), .unset, .unset, .unset] [(.int (own_full (0 : Int32) mo))]))
  refine own_Fin.step (fun _ => XS.istore X143.here hx rfl (hb hby at_96) rfl (l' := #[.val (.int p1), .val (.int p2), .val (.int p3), .val (.int p4), .val (.int p5), .val (.int p6), .val (.int mo), .val (.ref b3), .val (.ref b7), .val (.ref b17), .val (.ref b27), .val (.ref b49), .val (.int (0 : Int32)), .val (.int (own_full (0 : Int32) mo)), .unset, .unset]) rfl) ?_
  show own_Fin p e below s _ _ _ (T143.setTop (mkF m 98 #[.val (.int p1), .val (.int p2), .val (.int p3), .val (.int p4), .val (.int p5), .val (.int p6), .val (.int mo), .val (.ref b3), .val (.ref b7), .val (.ref b17), .val (.ref b27), .val (.ref b49), .val (.int (0 : Int32)), .val (.int (own_full (0 : Int32) mo)), .unset, .unset] []))
  refine own_Fin.step (fun _ => XS.iload X143.here hx rfl (hb hby at_98) rfl) ?_
  show own_Fin p e below s _ _ _ (T143.setTop (mkF m 100 #[.val (.int p1), .val (.int p2), .val (.int p3), .val (.int p4), .val (.int p5), .val (.int p6), .val (.int mo), .val (.ref b3), .val (.ref b7), .val (.ref b17), .val (.ref b27), .val (.ref b49), .val (.int (0 : Int32)), .val (.int (own_full (0 : Int32) mo)), .unset, .unset] [(.int (own_full (0 : Int32) mo))]))
  refine own_Fin.step (fun _ => XS.iload X143.here hx rfl (hb hby at_100) rfl) ?_
  show own_Fin p e below s _ _ _ (T143.setTop (mkF m 102 #[.val (.int p1), .val (.int p2), .val (.int p3), .val (.int p4), .val (.int p5), .val (.int p6), .val (.int mo), .val (.ref b3), .val (.ref b7), .val (.ref b17), .val (.ref b27), .val (.ref b49), .val (.int (0 : Int32)), .val (.int (own_full (0 : Int32) mo)), .unset, .unset] [(.int mo), (.int (own_full (0 : Int32) mo))]))
  by_cases hc102_144 : mo = (0 : Int32)
  ·
    refine own_Fin.step (fun _ => XS.ifNo X143.here hx rfl (hb hby at_102) rfl (XT.i0_ne_f hc102_144)) ?_
    show own_Fin p e below s _ _ _ (T143.setTop (mkF m 105 #[.val (.int p1), .val (.int p2), .val (.int p3), .val (.int p4), .val (.int p5), .val (.int p6), .val (.int mo), .val (.ref b3), .val (.ref b7), .val (.ref b17), .val (.ref b27), .val (.ref b49), .val (.int (0 : Int32)), .val (.int (own_full (0 : Int32) mo)), .unset, .unset] [(.int (own_full (0 : Int32) mo))]))
    refine own_Fin.step (fun _ => XS.iconst X143.here hx rfl (hb hby at_105)) ?_
    show own_Fin p e below s _ _ _ (T143.setTop (mkF m 106 #[.val (.int p1), .val (.int p2), .val (.int p3), .val (.int p4), .val (.int p5), .val (.int p6), .val (.int mo), .val (.ref b3), .val (.ref b7), .val (.ref b17), .val (.ref b27), .val (.ref b49), .val (.int (0 : Int32)), .val (.int (own_full (0 : Int32) mo)), .unset, .unset] [(.int (1 : Int32)), (.int (own_full (0 : Int32) mo))]))
    refine own_Fin.step (fun _ => XS.goto X143.here hx rfl (pc0 := 106) (pc' := 110) rfl (hb hby at_106) (by decide) (by decide)) ?_
    show own_Fin p e below s _ _ _ (T143.setTop (mkF m 110 #[.val (.int p1), .val (.int p2), .val (.int p3), .val (.int p4), .val (.int p5), .val (.int p6), .val (.int mo), .val (.ref b3), .val (.ref b7), .val (.ref b17), .val (.ref b27), .val (.ref b49), .val (.int (0 : Int32)), .val (.int (own_full (0 : Int32) mo)), .unset, .unset] [(.int (1 : Int32)), (.int (own_full (0 : Int32) mo))]))
    refine own_Fin.step (fun _ => XS.icmpNo X143.here hx rfl (hb hby at_110) rfl (XT.ii_ne_f (by rw [own_full0, if_pos hc102_144]))) ?_
    show own_Fin p e below s _ _ _ (T143.setTop (mkF m 113 #[.val (.int p1), .val (.int p2), .val (.int p3), .val (.int p4), .val (.int p5), .val (.int p6), .val (.int mo), .val (.ref b3), .val (.ref b7), .val (.ref b17), .val (.ref b27), .val (.ref b49), .val (.int (0 : Int32)), .val (.int (own_full (0 : Int32) mo)), .unset, .unset] []))
    refine own_Fin.step (fun _ => XS.iconst X143.here hx rfl (hb hby at_113)) ?_
    show own_Fin p e below s _ _ _ (T143.setTop (mkF m 114 #[.val (.int p1), .val (.int p2), .val (.int p3), .val (.int p4), .val (.int p5), .val (.int p6), .val (.int mo), .val (.ref b3), .val (.ref b7), .val (.ref b17), .val (.ref b27), .val (.ref b49), .val (.int (0 : Int32)), .val (.int (own_full (0 : Int32) mo)), .unset, .unset] [(.int (1 : Int32))]))
    refine own_Fin.step (fun _ => XS.goto X143.here hx rfl (pc0 := 114) (pc' := 118) rfl (hb hby at_114) (by decide) (by decide)) ?_
    show own_Fin p e below s _ _ _ (T143.setTop (mkF m 118 #[.val (.int p1), .val (.int p2), .val (.int p3), .val (.int p4), .val (.int p5), .val (.int p6), .val (.int mo), .val (.ref b3), .val (.ref b7), .val (.ref b17), .val (.ref b27), .val (.ref b49), .val (.int (0 : Int32)), .val (.int (own_full (0 : Int32) mo)), .unset, .unset] [(.int (1 : Int32))]))
    refine own_Fin.step (fun _ => XS.istore X143.here hx rfl (hb hby at_118) rfl (l' := #[.val (.int p1), .val (.int p2), .val (.int p3), .val (.int p4), .val (.int p5), .val (.int p6), .val (.int mo), .val (.ref b3), .val (.ref b7), .val (.ref b17), .val (.ref b27), .val (.ref b49), .val (.int (0 : Int32)), .val (.int (own_full (0 : Int32) mo)), .val (.int (1 : Int32)), .unset]) rfl) ?_
    exact j120 _ _ _ _ _ _ X143 N143 e143 Z59 One.u (by decide) (Or.inl rfl) A59 Fs59 Fm59 Fh59 V59 f66 f67 f68 f69 own_few0
  ·
    refine own_Fin.step (fun _ => XS.ifYes X143.here hx rfl (pc0 := 102) (pc' := 109) rfl (hb hby at_102) rfl (XT.i0_ne_t hc102_144) (by decide) (by decide)) ?_
    show own_Fin p e below s _ _ _ (T143.setTop (mkF m 109 #[.val (.int p1), .val (.int p2), .val (.int p3), .val (.int p4), .val (.int p5), .val (.int p6), .val (.int mo), .val (.ref b3), .val (.ref b7), .val (.ref b17), .val (.ref b27), .val (.ref b49), .val (.int (0 : Int32)), .val (.int (own_full (0 : Int32) mo)), .unset, .unset] [(.int (own_full (0 : Int32) mo))]))
    refine own_Fin.step (fun _ => XS.iconst X143.here hx rfl (hb hby at_109)) ?_
    show own_Fin p e below s _ _ _ (T143.setTop (mkF m 110 #[.val (.int p1), .val (.int p2), .val (.int p3), .val (.int p4), .val (.int p5), .val (.int p6), .val (.int mo), .val (.ref b3), .val (.ref b7), .val (.ref b17), .val (.ref b27), .val (.ref b49), .val (.int (0 : Int32)), .val (.int (own_full (0 : Int32) mo)), .unset, .unset] [(.int (0 : Int32)), (.int (own_full (0 : Int32) mo))]))
    refine own_Fin.step (fun _ => XS.icmpNo X143.here hx rfl (hb hby at_110) rfl (XT.ii_ne_f (by rw [own_full0, if_neg hc102_144]))) ?_
    show own_Fin p e below s _ _ _ (T143.setTop (mkF m 113 #[.val (.int p1), .val (.int p2), .val (.int p3), .val (.int p4), .val (.int p5), .val (.int p6), .val (.int mo), .val (.ref b3), .val (.ref b7), .val (.ref b17), .val (.ref b27), .val (.ref b49), .val (.int (0 : Int32)), .val (.int (own_full (0 : Int32) mo)), .unset, .unset] []))
    refine own_Fin.step (fun _ => XS.iconst X143.here hx rfl (hb hby at_113)) ?_
    show own_Fin p e below s _ _ _ (T143.setTop (mkF m 114 #[.val (.int p1), .val (.int p2), .val (.int p3), .val (.int p4), .val (.int p5), .val (.int p6), .val (.int mo), .val (.ref b3), .val (.ref b7), .val (.ref b17), .val (.ref b27), .val (.ref b49), .val (.int (0 : Int32)), .val (.int (own_full (0 : Int32) mo)), .unset, .unset] [(.int (1 : Int32))]))
    refine own_Fin.step (fun _ => XS.goto X143.here hx rfl (pc0 := 114) (pc' := 118) rfl (hb hby at_114) (by decide) (by decide)) ?_
    show own_Fin p e below s _ _ _ (T143.setTop (mkF m 118 #[.val (.int p1), .val (.int p2), .val (.int p3), .val (.int p4), .val (.int p5), .val (.int p6), .val (.int mo), .val (.ref b3), .val (.ref b7), .val (.ref b17), .val (.ref b27), .val (.ref b49), .val (.int (0 : Int32)), .val (.int (own_full (0 : Int32) mo)), .unset, .unset] [(.int (1 : Int32))]))
    refine own_Fin.step (fun _ => XS.istore X143.here hx rfl (hb hby at_118) rfl (l' := #[.val (.int p1), .val (.int p2), .val (.int p3), .val (.int p4), .val (.int p5), .val (.int p6), .val (.int mo), .val (.ref b3), .val (.ref b7), .val (.ref b17), .val (.ref b27), .val (.ref b49), .val (.int (0 : Int32)), .val (.int (own_full (0 : Int32) mo)), .val (.int (1 : Int32)), .unset]) rfl) ?_
    exact j120 _ _ _ _ _ _ X143 N143 e143 Z59 One.u (by decide) (Or.inl rfl) A59 Fs59 Fm59 Fh59 V59 f66 f67 f68 f69 own_few0
set_option maxRecDepth 65536 in
set_option maxHeartbeats 40000000 in
theorem comes_1 {Post : Tables → Env → Array Value → State → Outcome → State → Prop} (hpost : ∀ tb e args s v u, (limb_1_1.after args s (.returned v) u = true ∧ limb_1_2.after args s (.returned v) u = true ∧ True) → FrameEnd s (.returned v) u (Jvm.fieldLocs frame_1_writes args s ++ Jvm.arrayLocs frame_1_arrays args s ++ Jvm.staticLocs frame_1_statics s) 24 131200 → Post tb e args s (.returned v) u) :
    ArmFor flags0 classFile x code maxLocals ret World_1 tables_1 room_1 Calls_1 rest_1 Pre_1 Post := by
  intro l hfl _ _ p e ha hc hk s m args below hf hA hF happ hP
  obtain ⟨hcalls, hrest, hpre⟩ := hP
  obtain ⟨-, -, -, hnamed, -, -, -, hat⟩ := (Spec.applies_iff hf).mp happ
  obtain ⟨hg, hn⟩ := and_e (Cond.before_iff.mp (show (Jvm.Cond.and given_1 narrow_1).before args s = true from hpre))
  obtain ⟨hcount, g0⟩ := and_e hg
  obtain ⟨a0, g1⟩ := and_e g0
  obtain ⟨a1, g2⟩ := and_e g1
  obtain ⟨a2, g3⟩ := and_e g2
  obtain ⟨a3, g4⟩ := and_e g3
  obtain ⟨a4, g5⟩ := and_e g4
  have a5 := g5
  obtain ⟨w0, w1, w2, w3, w4, w5, rfl⟩ : ∃ w0 w1 w2 w3 w4 w5 : Value, args = #[w0, w1, w2, w3, w4, w5] := by
    have hs : args.size = 6 := by simpa [Cond.value, given_1] using hcount
    obtain ⟨L⟩ := args
    match L, hs with
    | [w0, w1, w2, w3, w4, w5], _ => exact ⟨w0, w1, w2, w3, w4, w5, rfl⟩
  have hw := fun d (hd : d ∈ tables_1) => atoms_spec (ws := Jvm.Cond.code x code maxLocals ret :: tables_1) hat d (List.mem_cons_of_mem _ hd)
  obtain ⟨i0, ei0⟩ := is_v a0
  obtain rfl : w0 = (.int i0) := Option.some.inj ei0
  obtain ⟨i1, ei1⟩ := is_v a1
  obtain rfl : w1 = (.int i1) := Option.some.inj ei1
  obtain ⟨i2, ei2⟩ := is_v a2
  obtain rfl : w2 = (.int i2) := Option.some.inj ei2
  obtain ⟨i3, ei3⟩ := is_v a3
  obtain rfl : w3 = (.int i3) := Option.some.inj ei3
  obtain ⟨i4, ei4⟩ := is_v a4
  obtain rfl : w4 = (.int i4) := Option.some.inj ei4
  obtain ⟨i5, ei5⟩ := is_v a5
  obtain rfl : w5 = (.int i5) := Option.some.inj ei5
  obtain ⟨n, o, h1, h2, h3, _, L, rfl, ⟨rfl, N⟩, hq⟩ := rm0 l s _ hw i0 i1 i2 i3 i4 i5 s.heap s.heap.size (Nat.le_refl _)  p e ha hc hk s m _ below hf ((Spec.applies_iff_loose hf).mp happ).1 ⟨rfl, State.Warmed39.refl s, rfl⟩ trivial
  refine ⟨n, _, h1, h2, h3, hpost _ _ _ _ _ _ ⟨Cond.after_iff.mpr rfl, Cond.after_iff.mpr (eq_i res_at (Term.int_eval (1)) rfl), trivial⟩ ⟨hq.1, hq.2.1, (hq.2.2.sift fun y hy => Or.inr (N y hy)).mono (by decide) (by decide)⟩⟩
theorem main_1_1 : Claimed_1_1 := comes_1 fun _ _ _ _ _ _ h hF => ⟨h.1, hF⟩
theorem main_1_2 : Claimed_1_2 := comes_1 fun _ _ _ _ _ _ h hF => ⟨h.2.1, hF⟩
end Jvm.Pilot.@@N@@
namespace Jvm.Pilot.@@N@@
open Jvm Jvm.ClassFile Sem Op Lib Jvm.Free Jvm.Stand Jvm.Pilot.@@N@@.Jvm.D
/-! MADE BY PROGRAM (witnessworld.py) out of the Statement's table words and the real class files: 10 classes; the members and pool entries that the words name. The judged class is class 1, her method 1. -/
namespace start1
open Jvm.ClassFile
def u (s : String) : CpInfo := .utf8 (stringToUtf16 s)
/-- a pool by its gaps: so many unusable entries, then the entry; so many at the end -/
def gap : Nat → List CpInfo → List CpInfo
  | 0, r => r
  | n + 1, r => .unusable :: gap n r
def poolList (es : List (Nat × CpInfo)) (last : Nat) : List CpInfo := es.foldr (fun e r => gap e.1 (e.2 :: r)) (gap last [])
def pool (es : List (Nat × CpInfo)) (last : Nat) : Array CpInfo := ⟨poolList es last⟩
def fileOf (pool : Array CpInfo) (this : Nat) (attrs : Array Attribute := #[]) (ms : Array MethodInfo := #[]) (fl : Nat := 33) (sup : Nat := 0) (ifs : Array Nat := #[]) (fds : Array FieldInfo := #[]) : ClassFile where
  minorVersion := 0
  majorVersion := 65
  constantPool := pool
  accessFlags := fl
  thisClass := this
  superClass := sup
  interfaces := ifs
  fields := fds
  methods := ms
  attributes := attrs
def plain (name : String) (sup : Option ClassId) : Class where
  name := name
  kind := .ordinary
  loader := none
  accessFlags := 33
  super := sup
  interfaces := #[]
  cf := none
  fields := #[]
  methods := #[]
  instanceTypes := #[]
  staticTypes := #[]
  resolved := #[]
  callSites := []
  init := .initialized
  statics := none
  mirror := none

def pool0 : Array CpInfo := pool [(5, u "<init>"), (0, u "()V"), (1, .class_ 10), (1, u "java/lang/Object")] 113

def k0c0 : Code := { maxStack := 0, maxLocals := 1, code := object_method_1_code, exceptionTable := #[], attributes := #[] }
def k0m0 : Method := { name := "<init>", desc := "()V", sig := { parameters := [], returnType := none }, accessFlags := 1, code := some k0c0 }
/-- java/lang/Object -/
def k0 : Class := { plain "java/lang/Object" none with
  accessFlags := 33
  interfaces := #[]
  cf := some (fileOf pool0 8 #[] #[{ accessFlags := 1, nameIndex := 5, descriptorIndex := 6, attributes := #[] }] 33 0 #[] #[])
  fields := #[]
  methods := #[k0m0]
  instanceTypes := #[]
  staticTypes := #[]
  resolved := Array.replicate 124 none
  statics := none }

def pool1 : Array CpInfo := pool [(2, .class_ 4), (1, u "java/lang/Object"), (0, u "<init>"), (0, u "()V"), (0, .class_ 8), (0, u "com/example/meterkeep/meterkeep/store/RecordedIds"), (0, .methodref 7 10), (0, .nameAndType 5 11), (0, u "(I)V"), (0, .methodref 7 13), (0, .nameAndType 14 15), (0, u "full"), (0, u "()Z"), (0, .methodref 7 17), (0, .nameAndType 18 19), (0, u "addNew"), (0, u "([BII)Z"), (0, .methodref 21 22), (0, .class_ 23), (0, .nameAndType 24 25), (0, u "java/lang/Math"), (0, u "max"), (0, u "(II)I"), (0, .class_ 27), (0, u "com/example/meterkeep/meterkeep/store/RecordedIdsFullPinLaw"), (2, u "law"), (0, u "(IIIIII)Z")] 5

def k1m0 : Method := { name := "<init>", desc := "()V", sig := { parameters := [], returnType := none }, accessFlags := 1, code := none }
def k1c1 : Code := { maxStack := 5, maxLocals := 16, code := code, exceptionTable := #[], attributes := #[] }
def k1m1 : Method := { name := "law", desc := "(IIIIII)Z", sig := { parameters := [.int, .int, .int, .int, .int, .int], returnType := some .boolean }, accessFlags := 9, code := some k1c1 }
/-- com/example/meterkeep/meterkeep/store/RecordedIdsFullPinLaw -/
def k1 : Class := { plain "com/example/meterkeep/meterkeep/store/RecordedIdsFullPinLaw" (some 0) with
  accessFlags := 49
  interfaces := #[]
  cf := some (fileOf pool1 26 #[] #[{ accessFlags := 1, nameIndex := 5, descriptorIndex := 6, attributes := #[] }, { accessFlags := 9, nameIndex := 30, descriptorIndex := 31, attributes := #[] }] 49 2 #[] #[])
  fields := #[]
  methods := #[k1m0, k1m1]
  instanceTypes := #[]
  staticTypes := #[]
  resolved := Array.replicate 37 none
  statics := none }

def pool2 : Array CpInfo := pool [(1, .methodref 2 3), (0, .class_ 4), (0, .nameAndType 5 6), (0, u "java/lang/Object"), (0, u "<init>"), (0, u "()V"), (0, .class_ 8), (0, u "com/example/meterkeep/meterkeep/store/RecordedIds"), (0, .integer 65536), (0, .fieldref 7 11), (0, .nameAndType 12 13), (0, u "slots"), (0, u "[I"), (0, .fieldref 7 15), (0, .nameAndType 16 17), (0, u "most"), (0, u "I"), (0, .fieldref 7 19), (0, .nameAndType 20 17), (0, u "held"), (3, .methodref 7 25), (0, .nameAndType 26 27), (0, u "fingerprint"), (0, u "([BII)I"), (0, .methodref 7 29), (0, .nameAndType 30 31), (0, u "place"), (0, u "([II)Z"), (0, .long 14695981039346656037), (1, .long 1099511628211), (1, .long 18397679294719823053), (1, u "FIRST_SLOTS"), (1, u "FNV_BASIS"), (0, u "J"), (0, u "FNV_PRIME"), (0, u "MIX"), (0, u "(I)V"), (2, u "addNew"), (0, u "([BII)Z"), (1, u "full"), (0, u "()Z")] 3

def k2c0 : Code := { maxStack := 2, maxLocals := 2, code := prog_84_method_1_code, exceptionTable := #[], attributes := #[] }
def k2m0 : Method := { name := "<init>", desc := "(I)V", sig := { parameters := [.int], returnType := none }, accessFlags := 0, code := some k2c0 }
def k2c1 : Code := { maxStack := 4, maxLocals := 5, code := prog_84_method_2_code, exceptionTable := #[], attributes := #[] }
def k2m1 : Method := { name := "addNew", desc := "([BII)Z", sig := { parameters := [(.array .byte), .int, .int], returnType := some .boolean }, accessFlags := 0, code := some k2c1 }
def k2c2 : Code := { maxStack := 2, maxLocals := 1, code := prog_84_method_3_code, exceptionTable := #[], attributes := #[] }
def k2m2 : Method := { name := "full", desc := "()Z", sig := { parameters := [], returnType := some .boolean }, accessFlags := 0, code := some k2c2 }
def k2c3 : Code := { maxStack := 3, maxLocals := 5, code := prog_84_method_5_code, exceptionTable := #[], attributes := #[] }
def k2m3 : Method := { name := "place", desc := "([II)Z", sig := { parameters := [(.array .int), .int], returnType := some .boolean }, accessFlags := 10, code := some k2c3 }
def k2c4 : Code := { maxStack := 5, maxLocals := 6, code := prog_84_method_6_code, exceptionTable := #[], attributes := #[] }
def k2m4 : Method := { name := "fingerprint", desc := "([BII)I", sig := { parameters := [(.array .byte), .int, .int], returnType := some .int }, accessFlags := 10, code := some k2c4 }
/-- com/example/meterkeep/meterkeep/store/RecordedIds -/
def k2 : Class := { plain "com/example/meterkeep/meterkeep/store/RecordedIds" (some 0) with
  accessFlags := 32
  interfaces := #[]
  cf := some (fileOf pool2 7 #[] #[{ accessFlags := 0, nameIndex := 5, descriptorIndex := 44, attributes := #[] }, { accessFlags := 0, nameIndex := 47, descriptorIndex := 48, attributes := #[] }, { accessFlags := 0, nameIndex := 50, descriptorIndex := 51, attributes := #[] }, { accessFlags := 10, nameIndex := 30, descriptorIndex := 31, attributes := #[] }, { accessFlags := 10, nameIndex := 26, descriptorIndex := 27, attributes := #[] }] 32 2 #[] #[{ accessFlags := 26, nameIndex := 38, descriptorIndex := 17, attributes := #[] }, { accessFlags := 26, nameIndex := 40, descriptorIndex := 41, attributes := #[] }, { accessFlags := 26, nameIndex := 42, descriptorIndex := 41, attributes := #[] }, { accessFlags := 26, nameIndex := 43, descriptorIndex := 41, attributes := #[] }, { accessFlags := 18, nameIndex := 16, descriptorIndex := 17, attributes := #[] }, { accessFlags := 2, nameIndex := 12, descriptorIndex := 13, attributes := #[] }, { accessFlags := 2, nameIndex := 20, descriptorIndex := 17, attributes := #[] }])
  fields := #[{ name := "FIRST_SLOTS", type := .int, accessFlags := 26, slot := 0, constantValue := 0 }, { name := "FNV_BASIS", type := .long, accessFlags := 26, slot := 1, constantValue := 0 }, { name := "FNV_PRIME", type := .long, accessFlags := 26, slot := 2, constantValue := 0 }, { name := "MIX", type := .long, accessFlags := 26, slot := 3, constantValue := 0 }, { name := "most", type := .int, accessFlags := 18, slot := 0, constantValue := 0 }, { name := "slots", type := (.array .int), accessFlags := 2, slot := 1, constantValue := 0 }, { name := "held", type := .int, accessFlags := 2, slot := 2, constantValue := 0 }]
  methods := #[k2m0, k2m1, k2m2, k2m3, k2m4]
  instanceTypes := #[.int, (.array .int), .int]
  staticTypes := #[.int, .long, .long, .long]
  resolved := Array.replicate 55 none
  statics := none }

def pool3 : Array CpInfo := pool [(1, .class_ 2), (0, u "java/lang/Math"), (1, .class_ 6), (1, u "java/lang/Object"), (0, u "<init>"), (0, u "()V"), (89, .class_ 100), (1, u "java/lang/Math$RandomNumberGeneratorHolder"), (71, u "negativeZeroFloatBits"), (0, u "J"), (2, u "negativeZeroDoubleBits"), (21, u "max"), (46, u "$assertionsDisabled"), (0, u "Z"), (88, u "(II)I"), (2, u "twoToTheDoubleScaleDown"), (0, u "D"), (4, u "twoToTheDoubleScaleUp"), (9, u "E"), (3, u "PI"), (2, u "TAU"), (2, u "DEGREES_TO_RADIANS"), (0, u "RADIANS_TO_DEGREES")] 94

def k3m0 : Method := { name := "<init>", desc := "()V", sig := { parameters := [], returnType := none }, accessFlags := 2, code := none }
def k3c1 : Code := { maxStack := 2, maxLocals := 2, code := jdk_29_method_65_code, exceptionTable := #[], attributes := #[] }
def k3m1 : Method := { name := "max", desc := "(II)I", sig := { parameters := [.int, .int], returnType := some .int }, accessFlags := 9, code := some k3c1 }
/-- java/lang/Math -/
def k3 : Class := { plain "java/lang/Math" (some 0) with
  accessFlags := 49
  interfaces := #[]
  cf := some (fileOf pool3 1 #[.nestMembers #[98]] #[{ accessFlags := 2, nameIndex := 7, descriptorIndex := 8, attributes := #[] }, { accessFlags := 9, nameIndex := 198, descriptorIndex := 335, attributes := #[] }] 49 4 #[] #[{ accessFlags := 25, nameIndex := 354, descriptorIndex := 339, attributes := #[] }, { accessFlags := 25, nameIndex := 358, descriptorIndex := 339, attributes := #[] }, { accessFlags := 25, nameIndex := 361, descriptorIndex := 339, attributes := #[] }, { accessFlags := 26, nameIndex := 364, descriptorIndex := 339, attributes := #[] }, { accessFlags := 26, nameIndex := 365, descriptorIndex := 339, attributes := #[] }, { accessFlags := 26, nameIndex := 172, descriptorIndex := 173, attributes := #[] }, { accessFlags := 26, nameIndex := 176, descriptorIndex := 173, attributes := #[] }, { accessFlags := 8, nameIndex := 344, descriptorIndex := 339, attributes := #[] }, { accessFlags := 8, nameIndex := 338, descriptorIndex := 339, attributes := #[] }, { accessFlags := 4120, nameIndex := 245, descriptorIndex := 246, attributes := #[] }])
  fields := #[{ name := "E", type := .double, accessFlags := 25, slot := 0, constantValue := 0 }, { name := "PI", type := .double, accessFlags := 25, slot := 1, constantValue := 0 }, { name := "TAU", type := .double, accessFlags := 25, slot := 2, constantValue := 0 }, { name := "DEGREES_TO_RADIANS", type := .double, accessFlags := 26, slot := 3, constantValue := 0 }, { name := "RADIANS_TO_DEGREES", type := .double, accessFlags := 26, slot := 4, constantValue := 0 }, { name := "negativeZeroFloatBits", type := .long, accessFlags := 26, slot := 5, constantValue := 0 }, { name := "negativeZeroDoubleBits", type := .long, accessFlags := 26, slot := 6, constantValue := 0 }, { name := "twoToTheDoubleScaleUp", type := .double, accessFlags := 8, slot := 7, constantValue := 0 }, { name := "twoToTheDoubleScaleDown", type := .double, accessFlags := 8, slot := 8, constantValue := 0 }, { name := "$assertionsDisabled", type := .boolean, accessFlags := 4120, slot := 9, constantValue := 0 }]
  methods := #[k3m0, k3m1]
  instanceTypes := #[]
  staticTypes := #[.double, .double, .double, .double, .double, .long, .long, .double, .double, .boolean]
  resolved := Array.replicate 460 none
  statics := none }

def pool4 : Array CpInfo := pool [(1, u "java/lang/Cloneable"), (0, .class_ 1), (0, u "java/lang/Object"), (0, .class_ 3)] 3

/-- java/lang/Cloneable -/
def k4 : Class := { plain "java/lang/Cloneable" (some 0) with
  accessFlags := 1537
  interfaces := #[]
  cf := some (fileOf pool4 2 #[] #[] 1537 4 #[] #[])
  fields := #[]
  methods := #[]
  instanceTypes := #[]
  staticTypes := #[]
  resolved := Array.replicate 8 none
  statics := none }

def pool5 : Array CpInfo := pool [(1, u "java/io/Serializable"), (0, .class_ 1), (0, u "java/lang/Object"), (0, .class_ 3)] 3

/-- java/io/Serializable -/
def k5 : Class := { plain "java/io/Serializable" (some 0) with
  accessFlags := 1537
  interfaces := #[]
  cf := some (fileOf pool5 2 #[] #[] 1537 4 #[] #[])
  fields := #[]
  methods := #[]
  instanceTypes := #[]
  staticTypes := #[]
  resolved := Array.replicate 8 none
  statics := none }

/-- the primitive byte -/
def k6 : Class := { plain "byte" none with kind := .primitive 'B', accessFlags := 0x411 }
/-- [B -/
def k7 : Class := { plain "[B" (some 0) with kind := .array 6 .byte, interfaces := #[4, 5], accessFlags := 1041 }

/-- the primitive int -/
def k8 : Class := { plain "int" none with kind := .primitive 'I', accessFlags := 0x411 }
/-- [I -/
def k9 : Class := { plain "[I" (some 0) with kind := .array 8 .int, interfaces := #[4, 5], accessFlags := 1041 }

def heap : Heap := #[]
def classes : Array Class := #[k0, k1, k2, k3, k4, k5, k6, k7, k8, k9]
def interned : List (Array UInt16 × Addr) := []
def slotsUsed : Nat := 0
def theMethod : MethodId := ⟨1, 1⟩
def args0 : Array Value := #[.int 5, .int 1, .int 3, .int 4, .int 5, .int 6]
def aboutOver (below : List Frame) : State where
  vm := { classes := classes, interned := interned.toArray }
  heap := heap
  slotsUsed := slotsUsed
  threads := #[{ frames := .invoking theMethod args0 :: below }]
def below0 : List Frame := [.native { method := ⟨0, 0⟩, args := #[] }]
def about1 : State := aboutOver below0
def p0 : Program := .bare "" "" ""
def e0 : Env := launch0.env 0 0 0
theorem w_frames : about1.frames = Frame.invoking theMethod args0 :: below0 := rfl
set_option maxRecDepth 65536 in
theorem w_args : argsFit about1.vm theMethod args0 = true := by decide +kernel
set_option maxRecDepth 65536 in
theorem w_heap : heapFits about1 = true := by decide +kernel
set_option maxRecDepth 65536 in
theorem w_runnable : about1.curStatus? = some .runnable := by decide +kernel
set_option maxRecDepth 65536 in
theorem w_alone : about1.alone = true := by decide +kernel
set_option maxRecDepth 65536 in
theorem w_named : about1.methodNamed? x = some theMethod := by decide +kernel
set_option maxRecDepth 65536 in
theorem w_hears : about1.hears theMethod below0 = true := by decide +kernel
set_option maxRecDepth 65536 in
theorem w_ripe : about1.ripe theMethod args0 below0 = true := by decide +kernel
theorem w_running : about1.status = .running := rfl
set_option maxRecDepth 65536 in
theorem w_room : about1.hasRoom e0.platform room_1 = true :=
  launch0.hasRoom_least _ room_1 (by decide +kernel) (by decide +kernel) (by decide +kernel) (by decide +kernel) (by decide +kernel) (by decide +kernel)
theorem allAtoms_all (ts : List Jvm.Cond) (a : Array Jvm.Value) (st : Jvm.State) : (allAtoms ts).before a st = ts.all (fun c => c.before a st) := by
  induction ts with
  | nil => rfl
  | cons c t ih =>
    show (Jvm.Cond.and c (allAtoms t)).before a st = _
    rw [Jvm.Cond.before_and, ih, List.all_cons]
def words1 : List Jvm.Cond := Jvm.Cond.code x code maxLocals ret :: tables_1
/-- a 'code' word, met by the world's own term for the bytes: nothing is compared byte by byte -/
theorem code_word {y : MethodName} {bytes : ByteArray} {mx : Nat} {rt : Option FieldType} {a : Array Value} {s : State} {m : MethodId} {meth : Method} {c : Code} (h1 : s.methodNamed? y = some m) (h2 : s.vm.method? m = some meth) (h3 : meth.code = some c) (h4 : c.code = bytes)
    (h5 : (c.maxLocals == mx && c.exceptionTable.isEmpty && decide (c.maxStack ≤ mostOperands) && decide (meth.sig.returnType = rt) && !meth.locks && decide (parseMethodDescriptor y.desc = some meth.sig)) = true) : (Jvm.Cond.code y bytes mx rt).before a s = true := by
  simp only [Bool.and_eq_true, beq_iff_eq, Bool.not_eq_true', decide_eq_true_eq] at h5
  obtain ⟨⟨⟨⟨⟨g1, g2⟩, g3⟩, g4⟩, g5⟩, g6⟩ := h5
  simp [Cond.before, Cond.holds, Cond.value, h1, h2, h3, h4, g1, g2, g3, g4, g5, g6]
def isCode : Jvm.Cond → Bool
  | .code _ _ _ _ => true
  | _ => false
theorem all_split {L : List Jvm.Cond} {P : Jvm.Cond → Bool} (h1 : L.all (fun c => isCode c || P c) = true) (h2 : ∀ c ∈ L.filter isCode, P c = true) : L.all P = true := by
  refine List.all_eq_true.mpr fun c hc => ?_
  have h := List.all_eq_true.mp h1 c hc
  rcases Bool.eq_false_or_eq_true (isCode c) with hi | hi
  · exact h2 c (List.mem_filter.mpr ⟨hc, hi⟩)
  · simpa [hi] using h
set_option maxRecDepth 65536 in
theorem w_c0 : (Jvm.Cond.code x code maxLocals ret).before args0 about1 = true := code_word (m := ⟨1, 1⟩) (meth := k1m1) (c := k1c1) (by decide +kernel) rfl rfl rfl (by decide +kernel)
set_option maxRecDepth 65536 in
theorem w_c1 : (Jvm.Cond.code ({ cls := "com/example/meterkeep/meterkeep/store/RecordedIds", name := "<init>", desc := "(I)V" } : Jvm.MethodName) prog_84_method_1_code (2 : Nat) (Option.none : Option Jvm.ClassFile.FieldType)).before args0 about1 = true := code_word (m := ⟨2, 0⟩) (meth := k2m0) (c := k2c0) (by decide +kernel) rfl rfl rfl (by decide +kernel)
set_option maxRecDepth 65536 in
theorem w_c2 : (Jvm.Cond.code ({ cls := "java/lang/Object", name := "<init>", desc := "()V" } : Jvm.MethodName) object_method_1_code (1 : Nat) (Option.none : Option Jvm.ClassFile.FieldType)).before args0 about1 = true := code_word (m := ⟨0, 0⟩) (meth := k0m0) (c := k0c0) (by decide +kernel) rfl rfl rfl (by decide +kernel)
set_option maxRecDepth 65536 in
theorem w_c3 : (Jvm.Cond.code ({ cls := "com/example/meterkeep/meterkeep/store/RecordedIds", name := "full", desc := "()Z" } : Jvm.MethodName) prog_84_method_3_code (1 : Nat) (Option.some Jvm.ClassFile.FieldType.boolean)).before args0 about1 = true := code_word (m := ⟨2, 2⟩) (meth := k2m2) (c := k2c2) (by decide +kernel) rfl rfl rfl (by decide +kernel)
set_option maxRecDepth 65536 in
theorem w_c4 : (Jvm.Cond.code ({ cls := "com/example/meterkeep/meterkeep/store/RecordedIds", name := "addNew", desc := "([BII)Z" } : Jvm.MethodName) prog_84_method_2_code (5 : Nat) (Option.some Jvm.ClassFile.FieldType.boolean)).before args0 about1 = true := code_word (m := ⟨2, 1⟩) (meth := k2m1) (c := k2c1) (by decide +kernel) rfl rfl rfl (by decide +kernel)
set_option maxRecDepth 65536 in
theorem w_c5 : (Jvm.Cond.code ({ cls := "java/lang/Math", name := "max", desc := "(II)I" } : Jvm.MethodName) jdk_29_method_65_code (2 : Nat) (Option.some Jvm.ClassFile.FieldType.int)).before args0 about1 = true := code_word (m := ⟨3, 1⟩) (meth := k3m1) (c := k3c1) (by decide +kernel) rfl rfl rfl (by decide +kernel)
set_option maxRecDepth 65536 in
theorem w_c6 : (Jvm.Cond.code ({ cls := "com/example/meterkeep/meterkeep/store/RecordedIds", name := "fingerprint", desc := "([BII)I" } : Jvm.MethodName) prog_84_method_6_code (6 : Nat) (Option.some Jvm.ClassFile.FieldType.int)).before args0 about1 = true := code_word (m := ⟨2, 4⟩) (meth := k2m4) (c := k2c4) (by decide +kernel) rfl rfl rfl (by decide +kernel)
set_option maxRecDepth 65536 in
theorem w_c7 : (Jvm.Cond.code ({ cls := "com/example/meterkeep/meterkeep/store/RecordedIds", name := "place", desc := "([II)Z" } : Jvm.MethodName) prog_84_method_5_code (5 : Nat) (Option.some Jvm.ClassFile.FieldType.boolean)).before args0 about1 = true := code_word (m := ⟨2, 3⟩) (meth := k2m3) (c := k2c3) (by decide +kernel) rfl rfl rfl (by decide +kernel)
def codes1 : List Jvm.Cond := [Jvm.Cond.code x code maxLocals ret, Jvm.Cond.code ({ cls := "com/example/meterkeep/meterkeep/store/RecordedIds", name := "<init>", desc := "(I)V" } : Jvm.MethodName) prog_84_method_1_code (2 : Nat) (Option.none : Option Jvm.ClassFile.FieldType), Jvm.Cond.code ({ cls := "java/lang/Object", name := "<init>", desc := "()V" } : Jvm.MethodName) object_method_1_code (1 : Nat) (Option.none : Option Jvm.ClassFile.FieldType), Jvm.Cond.code ({ cls := "com/example/meterkeep/meterkeep/store/RecordedIds", name := "full", desc := "()Z" } : Jvm.MethodName) prog_84_method_3_code (1 : Nat) (Option.some Jvm.ClassFile.FieldType.boolean), Jvm.Cond.code ({ cls := "com/example/meterkeep/meterkeep/store/RecordedIds", name := "addNew", desc := "([BII)Z" } : Jvm.MethodName) prog_84_method_2_code (5 : Nat) (Option.some Jvm.ClassFile.FieldType.boolean), Jvm.Cond.code ({ cls := "java/lang/Math", name := "max", desc := "(II)I" } : Jvm.MethodName) jdk_29_method_65_code (2 : Nat) (Option.some Jvm.ClassFile.FieldType.int), Jvm.Cond.code ({ cls := "com/example/meterkeep/meterkeep/store/RecordedIds", name := "fingerprint", desc := "([BII)I" } : Jvm.MethodName) prog_84_method_6_code (6 : Nat) (Option.some Jvm.ClassFile.FieldType.int), Jvm.Cond.code ({ cls := "com/example/meterkeep/meterkeep/store/RecordedIds", name := "place", desc := "([II)Z" } : Jvm.MethodName) prog_84_method_5_code (5 : Nat) (Option.some Jvm.ClassFile.FieldType.boolean)]
set_option maxRecDepth 65536 in
theorem codes_eq : words1.filter isCode = codes1 := rfl
theorem w_codes : ∀ c ∈ words1.filter isCode, c.before args0 about1 = true := by
  rw [codes_eq]
  intro c hc
  simp only [codes1, List.mem_cons, List.not_mem_nil, or_false] at hc
  rcases hc with rfl | rfl | rfl | rfl | rfl | rfl | rfl | rfl
  · exact w_c0
  · exact w_c1
  · exact w_c2
  · exact w_c3
  · exact w_c4
  · exact w_c5
  · exact w_c6
  · exact w_c7
set_option maxRecDepth 65536 in
theorem w_t1 : (words1.take 24).all (fun c => isCode c || c.before args0 about1) = true := by decide +kernel
set_option maxRecDepth 65536 in
theorem w_t2 : (words1.drop 24).all (fun c => isCode c || c.before args0 about1) = true := by decide +kernel
theorem w_tables : (allAtoms (Jvm.Cond.code x code maxLocals ret :: tables_1)).before args0 about1 = true := by
  rw [allAtoms_all]
  show words1.all (fun c => c.before args0 about1) = true
  refine all_split ?_ w_codes
  rw [← List.take_append_drop 24 words1, List.all_append, w_t1, w_t2]
  rfl
set_option maxRecDepth 65536 in
theorem w_case : (Jvm.Cond.and given_1 narrow_1).before args0 about1 = true := by decide +kernel
theorem w_applies : (headSpec (Jvm.Cond.code x code maxLocals ret :: tables_1) room_1).applies x e0.platform about1 = true :=
  (Spec.applies_iff w_frames).mpr ⟨w_running, w_runnable, w_alone, w_named, w_hears, w_ripe, w_room, w_tables⟩
theorem atStart : AtStart classFile x code maxLocals ret World_1 tables_1 room_1 Calls_1 rest_1 Pre_1 launch0 p0 e0 about1 theMethod args0 below0 :=
  ⟨lists_1, trivial, launch0.admits_env _ _ _, launch0.least_env, fairChoices_fair.cas, fairChoices_fair.clock, w_frames, w_args, w_heap, w_applies, trivial, trivial, w_case⟩
end start1
theorem witness_1 : WitnessClaimed_1 := ⟨start1.p0, start1.e0, start1.about1, start1.theMethod, start1.args0, start1.below0, start1.atStart⟩
end Jvm.Pilot.@@N@@
