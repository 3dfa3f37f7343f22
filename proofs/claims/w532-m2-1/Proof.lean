import JvmDerived
import JvmDerived.Pilot.@@N@@Statement
import JvmDerived.Pilot.@@N@@Code
set_option linter.unusedVariables false
set_option linter.unusedSimpArgs false
namespace Jvm.Pilot.@@N@@
open Jvm Jvm.ClassFile Sem Op Lib Jvm.Free Jvm.Stand Jvm.LawKit Jvm.RoadKit Bundle Jvm.Pilot.@@N@@.Jvm.D
theorem own_w {Z : State} {a0 : Array Value} (hw : ∀ d ∈ tables_1, d.before a0 Z = true) (k : Nat) {d : Jvm.Cond} (h : tables_1[k]? = some d) : d.before a0 Z = true := hw _ (List.mem_of_getElem? h)
/-- the run from U ends, and Q says what it leaves -/
def own_Fin (p : Program) (e : Env) (below : List Frame) (s : State) (Q : Option Value → Heap → List Loc → Prop) (k n : Nat) (U : State) : Prop :=
  ∃ s₂ o, Steps p.tables e below U s₂ ∧ s₂.status = .running ∧ Ended s₂ below o ∧ ∃ v L, o = .returned v ∧ Q v s₂.heap L ∧ FrameEnd s o s₂ L k n
theorem own_Fin.step {p : Program} {e : Env} {below : List Frame} {s : State} {Q : Option Value → Heap → List Loc → Prop} {k n : Nat} {U U' : State} (st : ∀ t, Steps p.tables e below U' t → Steps p.tables e below U t) (h : own_Fin p e below s Q k n U') : own_Fin p e below s Q k n U := by
  obtain ⟨s₂, o, h1, h2⟩ := h
  exact ⟨s₂, o, st _ h1, h2⟩
/-- a contract: called with as' at the heap h, the body leaves what Q says -/
abbrev own_Met (l : Launch) (Z : State) (ws : List Jvm.Cond) (y : MethodName) (bytes : ByteArray) (maxL : Nat) (ret : Option FieldType) (rm : Room) (as' : Array Value) (h : Heap) (Q : Option Value → Heap → List Loc → Prop) : Prop :=
  MetFree l y (head1 (Jvm.Cond.code y bytes maxL ret :: ws) rm) (fun a U => a = as' ∧ Z.Warmed39 U.vm ∧ U.heap = h) (fun _ _ _ _ _ => True) (fun _ U o U' => ∃ v L, o = .returned v ∧ Q v U'.heap L ∧ FrameEnd U o U' L rm.cells rm.slots)
/-- what a body leaves that returns w and writes nothing -/
def own_QP (w : Option Value) (h0 : Heap) (n0 : Nat) (v : Option Value) (h : Heap) (L : List Loc) : Prop := v = w ∧ Fr n0 L ∧ h = h0
/-- the law's own end -/
def own_Q0 (n0 : Nat) (v : Option Value) (h : Heap) (L : List Loc) : Prop := v = some (.int 1) ∧ Fr n0 L
theorem own_enter {l : Launch} {Z : State} {ws : List Jvm.Cond} {y : MethodName} {bytes : ByteArray} {maxL : Nat} {ret : Option FieldType} {rm : Room} {as' : Array Value} {h : Heap} {Q : Option Value → Heap → List Loc → Prop} (hp : plainFor y = true)
    (body : ∀ (p : Program) (e : Env) (s : State) (m : MethodId) (below : List Frame) (meth : Method) (c : Code) (s₁ : State), Stand p l e rm s m as' below meth c s₁ [] 0 0 → p.tables.exec = Jvm.exec → c.code = bytes → c.maxLocals = maxL → s.vm.findClass y.cls = some m.cls → meth.sig.returnType = ret → meth.locks = false → meth.name = y.name → Z.Warmed39 s.vm → s₁.heap = h →
      own_Fin p e below s Q rm.cells rm.slots (s₁.setTop (entryFrame m as' maxL))) : own_Met l Z ws y bytes maxL ret rm as' h Q := by
  refine MetFree.of_bodySF hp hisR ?_
  intro p e s m args below meth c s₁ Bd hml0 hP hK
  obtain ⟨rfl, hZ, hh⟩ := hP
  exact body p e s m below meth c s₁ (Stand.of_body Bd) Bd.exec Bd.bytes hml0 (findClass_of_methodNamed Bd.named) Bd.returns (BodyLoose.notSynchronized Bd) (name_of_methodNamed Bd.named Bd.method).1 hZ (by rw [← hh, Bd.state]; rfl)
section Own
variable {p : Program} {l : Launch} {e : Env} {R : Room} {s : State} {m : MethodId} {args : Array Value} {below : List Frame} {meth : Method} {c : Code} {T : State} {locs : List Loc} {cells slots : Nat} {Z : State} {a0 : Array Value} {h : Heap} {Q : Option Value → Heap → List Loc → Prop} {k n : Nat}
theorem own_retI (X : Stand p l e R s m args below meth c T locs cells slots) (hx : p.tables.exec = Jvm.exec) (hlk : meth.locks = false) {pc : Nat} {Ls : Array Slot} {z : Int32} {rest : List Value} (hret : meth.sig.returnType = some .int) (hd : decode c.code pc = .ok (.ireturn, 1)) (hQ : Q (some (.int z)) T.heap locs) (hk : cells ≤ k) (hn : slots ≤ n) :
    own_Fin p e below s Q k n (T.setTop (mkF m pc Ls (.int z :: rest))) := by
  obtain ⟨fs, hr, hrun, hended, hW, hsame⟩ := X.leave (v := some (.int z)) (fun h => by rw [hret] at h; cases h) hlk
  refine ⟨_, _, ?_, hrun, hended, _, _, rfl, hQ, ⟨_, rfl⟩, hW, hsame.mono hk hn⟩
  have hm' : T.vm.method? m = some meth := X.method'
  have hnn : narrow .int (.int z) = .int z := rfl
  show Steps p.tables e below (T.setTop { method := m, pc := pc, locals := Ls, stack := _ :: rest, locked := none }) _
  jvm_step X.here [X.here.top, hx, hd, hm', hret, hnn]
  first | (intro acts; rw [hr _ acts rfl rfl rfl]) | rw [hr _ _ rfl rfl rfl]
  exact Steps.refl _
theorem own_retN (X : Stand p l e R s m args below meth c T locs cells slots) (hx : p.tables.exec = Jvm.exec) (hlk : meth.locks = false) {pc : Nat} {Ls : Array Slot} {z : Int32} {t : FieldType} {rest : List Value} (hret : meth.sig.returnType = some t) (ht : t = .boolean ∨ t = .byte ∨ t = .char ∨ t = .short) (hd : decode c.code pc = .ok (.ireturn, 1)) (hQ : Q (some (.int (nar t z))) T.heap locs) (hk : cells ≤ k) (hn : slots ≤ n) :
    own_Fin p e below s Q k n (T.setTop (mkF m pc Ls (.int z :: rest))) := by
  obtain ⟨fs, hr, hrun, hended, hW, hsame⟩ := X.leave (v := some (.int (nar t z))) (fun h => by rw [hret] at h; cases h) hlk
  exact ⟨_, _, retN X hx hret ht hd hr, hrun, hended, _, _, rfl, hQ, ⟨_, rfl⟩, hW, hsame.mono hk hn⟩
theorem own_retJ (X : Stand p l e R s m args below meth c T locs cells slots) (hx : p.tables.exec = Jvm.exec) (hlk : meth.locks = false) {pc : Nat} {Ls : Array Slot} {z : Int64} (hret : meth.sig.returnType = some .long) (hd : decode c.code pc = .ok (.lreturn, 1)) (hQ : Q (some (.long z)) T.heap locs) (hk : cells ≤ k) (hn : slots ≤ n) :
    own_Fin p e below s Q k n (T.setTop (mkF m pc Ls [.long z])) := by
  obtain ⟨fs, hr, hrun, hended, hW, hsame⟩ := X.leave (v := some (.long z)) (fun h => by rw [hret] at h; cases h) hlk
  exact ⟨_, _, X.lreturnOut hx hret hd hr, hrun, hended, _, _, rfl, hQ, ⟨_, rfl⟩, hW, hsame.mono hk hn⟩
theorem own_retR (X : Stand p l e R s m args below meth c T locs cells slots) (hx : p.tables.exec = Jvm.exec) (hlk : meth.locks = false) {pc : Nat} {Ls : Array Slot} {w : Value} {t : FieldType} (hw : w.isRef = true) (hret : meth.sig.returnType = some t) (ht : t.isReference = true) (hd : decode c.code pc = .ok (.areturn, 1)) (hQ : Q (some w) T.heap locs) (hk : cells ≤ k) (hn : slots ≤ n) :
    own_Fin p e below s Q k n (T.setTop (mkF m pc Ls [w])) := by
  obtain ⟨fs, hr, hrun, hended, hW, hsame⟩ := X.leave (v := some w) (fun h => by rw [hret] at h; cases h) hlk
  exact ⟨_, _, X.areturnOut hx hw hret ht hd hr, hrun, hended, _, _, rfl, hQ, ⟨_, rfl⟩, hW, hsame.mono hk hn⟩
theorem own_ret0 (X : Stand p l e R s m args below meth c T locs cells slots) (hx : p.tables.exec = Jvm.exec) (hlk : meth.locks = false) {pc : Nat} {Ls : Array Slot} (hret : meth.sig.returnType = none) (hd : decode c.code pc = .ok (.return_, 1)) (hQ : Q none T.heap locs) (hk : cells ≤ k) (hn : slots ≤ n) :
    own_Fin p e below s Q k n (T.setTop (mkF m pc Ls [])) := by
  obtain ⟨fs, hr, hrun, hended, hW, hsame⟩ := X.leave (v := none) (fun _ => rfl) hlk
  exact ⟨_, _, X.returnOut hx hret hd hr, hrun, hended, _, _, rfl, hQ, ⟨_, rfl⟩, hW, hsame.mono hk hn⟩
theorem own_lrem {tb : Tables} [Ours tb] {target : State} {g : JFrame} (h : At T m c below) (hx : tb.exec = Jvm.exec) (hg : g.method = m) {x y : Int64} {rest : List Value} (hd : decode c.code g.pc = .ok (.lrem, 1)) (hs : g.stack = .long y :: .long x :: rest) (hy : y ≠ 0)
    (hr : Steps tb e below (T.setTop { g with pc := g.pc + 1, stack := .long (x % y) :: rest }) target) : Steps tb e below (T.setTop g) target := by
  have q : x - x / y * y = x % y := lrem_mod x y
  exact XS.lrem h hx hg hd hs hy (by rw [q]; exact hr)
theorem own_callS (X : Stand p l e R s m args below meth c T locs cells slots) (hx : p.tables.exec = Jvm.exec) (hZ : Z.Warmed39 s.vm) {own : String} {index : Nat} {y : MethodName} {bytes : ByteArray} {maxL : Nat} {ret : Option FieldType} {rm : Room} {as' : Array Value}
    (hown : s.vm.findClass own = some m.cls) (w1 : (Jvm.Cond.methodLink own index y).before a0 Z = true) (w2 : (Jvm.Cond.static y).before a0 Z = true) (w3 : (Jvm.Cond.initialized y.cls).before a0 Z = true) (w4 : (Jvm.Cond.code y bytes maxL ret).before a0 Z = true)
    (hy : y.cls ≠ "java/lang/invoke/MethodHandle" ∧ y.cls ≠ "java/lang/invoke/VarHandle") (hM : own_Met l Z [] y bytes maxL ret rm as' h Q) {W : Nat} (hf : rm.frames + 1 ≤ R.frames) (hl : W + (maxL + 11) + rm.locals ≤ R.locals) (eT : T.heap = h)
    {g : JFrame} (hg : g.method = m) (hsize : g.locals.size = c.maxLocals) {argsL rest : List Value} (hlen : ∀ sig, parseMethodDescriptor y.desc = some sig → argsL.length = sig.parameters.length) (has : argsL.toArray = as') (hstack : g.stack = argsL.reverse ++ rest) (hW : 2 * g.monitorRoom + (rest.map fun v => v.category).sum ≤ W)
    (hdg : decode c.code g.pc = .ok (.invokestatic index, 3)) (hc : cells + rm.cells ≤ R.cells) (hs : slots + rm.slots ≤ R.slots) :
    ∃ v T' L, Stand p l e R s m args below meth c T' (locs ++ L) (cells + rm.cells) (slots + rm.slots) ∧ Q v T'.heap L ∧ ∀ t, Steps p.tables e below (T'.setTop { g with pc := g.pc + 3, stack := v.toList ++ rest }) t → Steps p.tables e below (T.setTop g) t := by
  obtain ⟨v, vm1, ⟨T', L', k', n'⟩, -, X', ⟨Lc, hQ, l1, y1, z1⟩, st⟩ := Jvm.LawKit.callS X hx (y := y) hown (mvT hZ w1) (mvT hZ w2) (mvT hZ w3) (mvT hZ w4) hy (backOf (W := W) hM hZ w4 w3 hf hl) (g := g) hg hsize (argsL := argsL) (rest := rest) hlen hstack hW hdg (fun _ _ => ⟨has, eT, hc, hs⟩)
  dsimp only [Pt.U, Pt.locs, Pt.cells, Pt.slots] at X' l1 y1 z1 st hQ
  subst l1 y1 z1
  exact ⟨v, T', Lc, X', hQ, st⟩
theorem own_callN (X : Stand p l e R s m args below meth c T locs cells slots) (hx : p.tables.exec = Jvm.exec) (hZ : Z.Warmed39 s.vm) {own : String} {index : Nat} {y : MethodName} {bytes : ByteArray} {maxL : Nat} {rm : Room} {as' : Array Value} (hy1 : y.name = "<init>")
    (hown : s.vm.findClass own = some m.cls) (w1 : (Jvm.Cond.methodLink own index y).before a0 Z = true) (w2 : (Jvm.Cond.instanceMethod y).before a0 Z = true) (w3 : (Jvm.Cond.initialized y.cls).before a0 Z = true) (w4 : (Jvm.Cond.code y bytes maxL none).before a0 Z = true)
    (hy : y.cls ≠ "java/lang/invoke/MethodHandle" ∧ y.cls ≠ "java/lang/invoke/VarHandle") (hM : own_Met l Z [] y bytes maxL none rm as' h Q) {W : Nat} (hf : rm.frames + 1 ≤ R.frames) (hl : W + (maxL + 11) + rm.locals ≤ R.locals) {a : Addr} (eT : T.heap = h)
    {g : JFrame} (hg : g.method = m) (hsize : g.locals.size = c.maxLocals) {argsL rest : List Value} (hlen : ∀ sig, parseMethodDescriptor y.desc = some sig → argsL.length = sig.parameters.length) (has : (.ref a :: argsL).toArray = as') (hstack : g.stack = argsL.reverse ++ .ref a :: rest) (hW : 2 * g.monitorRoom + (rest.map fun v => v.category).sum ≤ W)
    (hdg : decode c.code g.pc = .ok (.invokespecial index, 3)) (hc : cells + rm.cells ≤ R.cells) (hs : slots + rm.slots ≤ R.slots) :
    ∃ v T' L, Stand p l e R s m args below meth c T' (locs ++ L) (cells + rm.cells) (slots + rm.slots) ∧ Q v T'.heap L ∧ ∀ t, Steps p.tables e below (T'.setTop { g with pc := g.pc + 3, stack := v.toList ++ rest }) t → Steps p.tables e below (T.setTop g) t := by
  obtain ⟨v, vm1, ⟨T', L', k', n'⟩, -, X', ⟨Lc, hQ, l1, y1, z1⟩, st⟩ := X.specialBack hx (y := y) hy1 hown (mvT hZ w1) (mvT hZ w2) (mvT hZ w4) hy (backOf (W := W) hM hZ w4 w3 hf hl) (g := g) hg hsize (Steps.refl _) (a := a) (argsL := argsL) (rest := rest) hlen hstack hW hdg (fun _ _ => ⟨has, eT, hc, hs⟩)
  dsimp only [Pt.U, Pt.locs, Pt.cells, Pt.slots] at X' l1 y1 z1 st hQ
  subst l1 y1 z1
  exact ⟨v, T', Lc, X', hQ, fun t k => st.trans k⟩
theorem own_callV (X : Stand p l e R s m args below meth c T locs cells slots) (hx : p.tables.exec = Jvm.exec) (hZ : Z.Warmed39 s.vm) {own C : String} {index : Nat} {y : MethodName} {bytes : ByteArray} {maxL : Nat} {ret : Option FieldType} {rm : Room} {as' : Array Value}
    (hown : s.vm.findClass own = some m.cls) (w1 : (Jvm.Cond.methodLink own index y).before a0 Z = true) (w2 : (Jvm.Cond.declares y).before a0 Z = true) (w5 : (Jvm.Cond.selects C y y).before a0 Z = true) (w6 : (Jvm.Cond.instanceMethod y).before a0 Z = true) (w3 : (Jvm.Cond.initialized y.cls).before a0 Z = true) (w4 : (Jvm.Cond.code y bytes maxL ret).before a0 Z = true)
    (hy : y.cls ≠ "java/lang/invoke/MethodHandle" ∧ y.cls ≠ "java/lang/invoke/VarHandle") (hM : own_Met l Z [] y bytes maxL ret rm as' h Q) {W : Nat} (hf : rm.frames + 1 ≤ R.frames) (hl : W + (maxL + 11) + rm.locals ≤ R.locals) {a : Addr} (E : Exa Z h a C) (eT : T.heap = h)
    {g : JFrame} (hg : g.method = m) (hsize : g.locals.size = c.maxLocals) {argsL rest : List Value} (hlen : ∀ sig, parseMethodDescriptor y.desc = some sig → argsL.length = sig.parameters.length) (has : (.ref a :: argsL).toArray = as') (hstack : g.stack = argsL.reverse ++ .ref a :: rest) (hW : 2 * g.monitorRoom + (rest.map fun v => v.category).sum ≤ W)
    (hdg : decode c.code g.pc = .ok (.invokevirtual index, 3)) (hc : cells + rm.cells ≤ R.cells) (hs : slots + rm.slots ≤ R.slots) :
    ∃ v T' L, Stand p l e R s m args below meth c T' (locs ++ L) (cells + rm.cells) (slots + rm.slots) ∧ Q v T'.heap L ∧ ∀ t, Steps p.tables e below (T'.setTop { g with pc := g.pc + 3, stack := v.toList ++ rest }) t → Steps p.tables e below (T.setTop g) t := by
  obtain ⟨cq, kq, qa, qb, qc⟩ := isOf hZ eT E
  obtain ⟨v, vm1, ⟨T', L', k', n'⟩, -, X', ⟨Lc, hQ, l1, y1, z1⟩, st⟩ := X.virtualBack hx (y := y) (z := y) hown (mvT hZ w1) (mvT hZ w2) (notFace_of_selects (args := #[]) (mvT hZ w5)) (mvT hZ w5) (mvT hZ w6) hy (backOf (W := W) hM hZ w4 w3 hf hl) qa qc (g := g) hg hsize (Steps.refl _) (argsL := argsL) (rest := rest) hlen hstack hW hdg (fun _ _ => ⟨has, eT, hc, hs⟩)
  dsimp only [Pt.U, Pt.locs, Pt.cells, Pt.slots] at X' l1 y1 z1 st hQ
  subst l1 y1 z1
  exact ⟨v, T', Lc, X', hQ, fun t k => st.trans k⟩
theorem own_newA (X : Stand p l e R s m args below meth c T locs cells slots) (hx : p.tables.exec = Jvm.exec) (hZ : Z.Warmed39 s.vm) {aty : ArrayType} (w : (Jvm.Cond.arrayClass (newarray.typeOf aty)).before a0 Z = true) (eT : T.heap = h) {ty : FieldType} {dv : Value} (hty : newarray.typeOf aty = ty) (hdv : defaultValue ty = dv)
    {g : JFrame} (hg : g.method = m) (hd : decode c.code g.pc = .ok (.newarray aty, 2)) {n : Int32} {rest : List Value} (hs : g.stack = .int n :: rest) (hn : ¬ n < 0) {cap : Nat} (hcap : n.toNatClampNeg ≤ cap) (hb : cap * 8 ≤ 536870912) (hc : cells + 1 ≤ R.cells) (hl : slots + cap ≤ R.slots) (N : Nat) :
    ∃ T' h' k a, Stand p l e R s m args below meth c T' locs (cells + 1) (slots + cap) ∧ T'.heap = h' ∧ Ext h h' ∧ a = h.size ∧ Arv Z h' a k ty n (List.replicate N dv) dv ∧
      ∀ t, Steps p.tables e below (T'.setTop { g with pc := g.pc + 2, stack := .ref a :: rest }) t → Steps p.tables e below (T.setTop g) t := by
  subst hty hdv
  obtain ⟨T', h', k, X', e', E, A, st⟩ := newP X hx hZ w eT hg hd hs hn hcap hb hc hl
  exact ⟨T', h', k, _, X', e', E, rfl, by simpa using (Arv.new A hn).pad (pad_rep [] _ N), st⟩
theorem own_stI (X : Stand p l e R s m args below meth c T locs cells slots) (hx : p.tables.exec = Jvm.exec) (hZ : Z.Warmed39 s.vm) (eT : T.heap = h) {a : Addr} {k : ClassId} {n : Int32} {vs : List Value} {dv : Value} (F : Arv Z h a k .int n vs dv) {j x : Int32} (hj : ¬ j < 0 ∧ j < n) (i : Nat) (hi : j.toNatClampNeg = i) (hl : i < vs.length)
    {g : JFrame} (hg : g.method = m) {rest : List Value} (hs : g.stack = .int x :: .int j :: .ref a :: rest) (hd : decode c.code g.pc = .ok (.iastore, 1)) :
    ∃ T' h', Stand p l e R s m args below meth c T' (locs ++ [⟨a, j.toNatClampNeg⟩]) cells slots ∧ T'.heap = h' ∧ Arv Z h' a k .int n (vs.set i (.int x)) dv ∧ Wr h h' a j.toNatClampNeg (.int x) ∧ ∀ t, Steps p.tables e below (T'.setTop { g with pc := g.pc + 1, stack := rest }) t → Steps p.tables e below (T.setTop g) t := by
  obtain ⟨cl, A, q1, q2, q3, H, G⟩ := F
  obtain ⟨T', h', X', e', W, st⟩ := stI X hx hZ eT A (j := j) (inb_of q2 hj) hg hs hd
  exact ⟨T', h', X', e', Arv.set A q1 q2 q3 H G rfl W i hi hl, W, st⟩
theorem own_stJ (X : Stand p l e R s m args below meth c T locs cells slots) (hx : p.tables.exec = Jvm.exec) (hZ : Z.Warmed39 s.vm) (eT : T.heap = h) {a : Addr} {k : ClassId} {n : Int32} {vs : List Value} {dv : Value} (F : Arv Z h a k .long n vs dv) {j : Int32} {x : Int64} (hj : ¬ j < 0 ∧ j < n) (i : Nat) (hi : j.toNatClampNeg = i) (hl : i < vs.length)
    {g : JFrame} (hg : g.method = m) {rest : List Value} (hs : g.stack = .long x :: .int j :: .ref a :: rest) (hd : decode c.code g.pc = .ok (.lastore, 1)) :
    ∃ T' h', Stand p l e R s m args below meth c T' (locs ++ [⟨a, j.toNatClampNeg⟩]) cells slots ∧ T'.heap = h' ∧ Arv Z h' a k .long n (vs.set i (.long x)) dv ∧ Wr h h' a j.toNatClampNeg (.long x) ∧ ∀ t, Steps p.tables e below (T'.setTop { g with pc := g.pc + 1, stack := rest }) t → Steps p.tables e below (T.setTop g) t := by
  obtain ⟨cl, A, q1, q2, q3, H, G⟩ := F
  obtain ⟨T', h', X', e', W, st⟩ := stJ X hx hZ eT A (j := j) (inb_of q2 hj) hg hs hd
  exact ⟨T', h', X', e', Arv.set A q1 q2 q3 H G rfl W i hi hl, W, st⟩
theorem own_stB (X : Stand p l e R s m args below meth c T locs cells slots) (hx : p.tables.exec = Jvm.exec) (hZ : Z.Warmed39 s.vm) (eT : T.heap = h) {a : Addr} {k : ClassId} {n : Int32} {vs : List Value} {dv : Value} (F : Arv Z h a k .byte n vs dv) {j x : Int32} (hj : ¬ j < 0 ∧ j < n) (i : Nat) (hi : j.toNatClampNeg = i) (hl : i < vs.length)
    {g : JFrame} (hg : g.method = m) {rest : List Value} (hs : g.stack = .int x :: .int j :: .ref a :: rest) (hd : decode c.code g.pc = .ok (.bastore, 1)) :
    ∃ T' h', Stand p l e R s m args below meth c T' (locs ++ [⟨a, j.toNatClampNeg⟩]) cells slots ∧ T'.heap = h' ∧ Arv Z h' a k .byte n (vs.set i (.int (nar .byte x))) dv ∧ Wr h h' a j.toNatClampNeg (.int (nar .byte x)) ∧ ∀ t, Steps p.tables e below (T'.setTop { g with pc := g.pc + 1, stack := rest }) t → Steps p.tables e below (T.setTop g) t := by
  obtain ⟨cl, A, q1, q2, q3, H, G⟩ := F
  obtain ⟨T', h', X', e', W, st⟩ := stB X hx hZ eT A (j := j) (inb_of q2 hj) hg hs hd
  exact ⟨T', h', X', e', Arv.set A q1 q2 q3 H G (fits_nar_byte x) W i hi hl, W, st⟩
theorem own_nar (y : Int32) : nar .byte y.toInt8.toInt32 = y.toInt8.toInt32 := by
  show y.toInt8.toInt32.toInt8.toInt32 = _
  simp
theorem own_stBn (X : Stand p l e R s m args below meth c T locs cells slots) (hx : p.tables.exec = Jvm.exec) (hZ : Z.Warmed39 s.vm) (eT : T.heap = h) {a : Addr} {k : ClassId} {n : Int32} {vs : List Value} {dv : Value} (F : Arv Z h a k .byte n vs dv) {j x : Int32} (hj : ¬ j < 0 ∧ j < n) (i : Nat) (hi : j.toNatClampNeg = i) (hl : i < vs.length)
    {g : JFrame} (hg : g.method = m) {rest : List Value} (hs : g.stack = .int x.toInt8.toInt32 :: .int j :: .ref a :: rest) (hd : decode c.code g.pc = .ok (.bastore, 1)) :
    ∃ T' h', Stand p l e R s m args below meth c T' (locs ++ [⟨a, j.toNatClampNeg⟩]) cells slots ∧ T'.heap = h' ∧ Arv Z h' a k .byte n (vs.set i (.int x.toInt8.toInt32)) dv ∧ Wr h h' a j.toNatClampNeg (.int x.toInt8.toInt32) ∧ ∀ t, Steps p.tables e below (T'.setTop { g with pc := g.pc + 1, stack := rest }) t → Steps p.tables e below (T.setTop g) t := by
  have h := own_stB X hx hZ eT F hj i hi hl hg hs hd
  rw [own_nar] at h
  exact h
theorem own_ldI (X : Stand p l e R s m args below meth c T locs cells slots) (hx : p.tables.exec = Jvm.exec) (hZ : Z.Warmed39 s.vm) (eT : T.heap = h) {a : Addr} {k : ClassId} {n : Int32} {vs : List Value} {dv v : Value} (F : Arv Z h a k .int n vs dv) {j : Int32} (hj : ¬ j < 0 ∧ j < n) (hv : vs.getD j.toNatClampNeg dv = v)
    {g : JFrame} (hg : g.method = m) {rest : List Value} (hs : g.stack = .int j :: .ref a :: rest) (hd : decode c.code g.pc = .ok (.iaload, 1)) :
    ∀ t, Steps p.tables e below (T.setTop { g with pc := g.pc + 1, stack := v :: rest }) t → Steps p.tables e below (T.setTop g) t := by
  obtain ⟨cl, A, q1, q2, q3, H, G⟩ := F
  have hin := inb_of q2 hj
  exact fun t kt => X.iaload hx (j := j) (v := v) (by rw [eT]; exact A.1) (State.isArrayOf_alike hZ.alike A.2.1) A.2.2 hin (H.at hin hv) hg hs hd _ kt
theorem own_ldJ (X : Stand p l e R s m args below meth c T locs cells slots) (hx : p.tables.exec = Jvm.exec) (hZ : Z.Warmed39 s.vm) (eT : T.heap = h) {a : Addr} {k : ClassId} {n : Int32} {vs : List Value} {dv v : Value} (F : Arv Z h a k .long n vs dv) {j : Int32} (hj : ¬ j < 0 ∧ j < n) (hv : vs.getD j.toNatClampNeg dv = v)
    {g : JFrame} (hg : g.method = m) {rest : List Value} (hs : g.stack = .int j :: .ref a :: rest) (hd : decode c.code g.pc = .ok (.laload, 1)) :
    ∀ t, Steps p.tables e below (T.setTop { g with pc := g.pc + 1, stack := v :: rest }) t → Steps p.tables e below (T.setTop g) t := by
  obtain ⟨cl, A, q1, q2, q3, H, G⟩ := F
  have hin := inb_of q2 hj
  exact fun t kt => X.laload hx (j := j) (v := v) (by rw [eT]; exact A.1) (State.isArrayOf_alike hZ.alike A.2.1) A.2.2 hin (H.at hin hv) hg hs hd _ kt
theorem own_ldB (X : Stand p l e R s m args below meth c T locs cells slots) (hx : p.tables.exec = Jvm.exec) (hZ : Z.Warmed39 s.vm) (eT : T.heap = h) {a : Addr} {k : ClassId} {n : Int32} {vs : List Value} {dv v : Value} (F : Arv Z h a k .byte n vs dv) {j : Int32} (hj : ¬ j < 0 ∧ j < n) (hv : vs.getD j.toNatClampNeg dv = v)
    {g : JFrame} (hg : g.method = m) {rest : List Value} (hs : g.stack = .int j :: .ref a :: rest) (hd : decode c.code g.pc = .ok (.baload, 1)) :
    ∀ t, Steps p.tables e below (T.setTop { g with pc := g.pc + 1, stack := v :: rest }) t → Steps p.tables e below (T.setTop g) t := by
  obtain ⟨cl, A, q1, q2, q3, H, G⟩ := F
  have hin := inb_of q2 hj
  exact fun t kt => X.baloadBytes hx (j := j) (v := v) (by rw [eT]; exact A.1) (State.isArrayOf_alike hZ.alike A.2.1) A.2.2 hin (H.at hin hv) hg hs hd _ kt
theorem own_len (X : Stand p l e R s m args below meth c T locs cells slots) (hx : p.tables.exec = Jvm.exec) (hZ : Z.Warmed39 s.vm) (eT : T.heap = h) {a : Addr} {k : ClassId} {ty : FieldType} {n : Int32} {vs : List Value} {dv : Value} (F : Arv Z h a k ty n vs dv)
    {g : JFrame} (hg : g.method = m) {rest : List Value} (hs : g.stack = .ref a :: rest) (hd : decode c.code g.pc = .ok (.arraylength, 1)) :
    ∀ t, Steps p.tables e below (T.setTop { g with pc := g.pc + 1, stack := .int n :: rest }) t → Steps p.tables e below (T.setTop g) t := by
  obtain ⟨cl, A, q1, q2, q3, H, G⟩ := F
  exact fun t kt => X.arraylength hx (by rw [eT]; exact A.1) (State.isArrayOf_alike hZ.alike A.2.1) hg hs hd _ (by rw [len_of q2 q3]; exact kt)
end Own
theorem own_s0 (z : Int32) : ¬ (if z = (0 : Int32) then (1 : Int32) else z) = 0 := by
  by_cases h : z = 0
  · rw [if_pos h]; decide
  · rw [if_neg h]; exact h
def own_QC (Z : State) (a1 : Addr) (p2 p3 p4 p5 p6 p7 p8 : Int32) (h0 : Heap) (n0 : Nat) (v : Option Value) (h : Heap) (L : List Loc) : Prop := v = none ∧ Fr n0 L ∧ Keep h0 h [a1] ∧ Exa Z h a1 "com/example/raw_to_screen/rawtoscreen/mapping/Calibration" ∧ (Fld Z h a1 "com/example/raw_to_screen/rawtoscreen/mapping/Calibration" "a" "I" (.int p2)) ∧ (Fld Z h a1 "com/example/raw_to_screen/rawtoscreen/mapping/Calibration" "b" "I" (.int p3)) ∧ (Fld Z h a1 "com/example/raw_to_screen/rawtoscreen/mapping/Calibration" "c" "I" (.int p4)) ∧ (Fld Z h a1 "com/example/raw_to_screen/rawtoscreen/mapping/Calibration" "d" "I" (.int p5)) ∧ (Fld Z h a1 "com/example/raw_to_screen/rawtoscreen/mapping/Calibration" "e" "I" (.int p6)) ∧ (Fld Z h a1 "com/example/raw_to_screen/rawtoscreen/mapping/Calibration" "f" "I" (.int p7)) ∧ (Fld Z h a1 "com/example/raw_to_screen/rawtoscreen/mapping/Calibration" "s" "I" (.int p8))
def own_QI (Z : State) (p2 p3 p4 p5 p6 p7 p8 : Int32) (h0 : Heap) (n0 : Nat) (v : Option Value) (h : Heap) (L : List Loc) : Prop := ∃ (r : Addr) (kk : ClassId), v = some (.ref r) ∧ Fr n0 L ∧ Keep h0 h [] ∧ h0.size ≤ r ∧ Arv Z h r kk .int (7 : Int32) [.int p2, .int p3, .int p4, .int p5, .int p6, .int p7, .int p8] (.int (0 : Int32))
theorem d1_0 : decode prog_72_method_1_code 0 = .ok (.aload_n 0, 1) := by decide +kernel
theorem d1_1 : decode prog_72_method_1_code 1 = .ok (.invokespecial 1, 3) := by decide +kernel
theorem d1_4 : decode prog_72_method_1_code 4 = .ok (.return_, 1) := by decide +kernel
theorem pn_1 : plainFor (⟨"com/example/raw_to_screen/rawtoscreen/mapping/InPlaceMapping", "<init>", "()V"⟩ : MethodName) = true := plainFor_of_name (by first | (simp [plainName, overriddenIn]; done) | decide +kernel)
theorem ef_1 (m : MethodId) (x0 : Addr) : entryFrame m #[(.ref x0)] 1 = mkF m 0 #[.val (.ref x0)] [] := by first | (simp [entryFrame, mkF, argsToLocals, Value.category]; done) | rfl
set_option maxRecDepth 65536 in
set_option maxHeartbeats 40000000 in
theorem rm1 (l : Launch) (Z : State) (a0 : Array Value) (hw : ∀ d ∈ tables_1, d.before a0 Z = true) (a1 : Addr)  (h0 : Heap) (n0 : Nat) (Z0 : n0 ≤ h0.size)  :
    own_Met l Z [] (⟨"com/example/raw_to_screen/rawtoscreen/mapping/InPlaceMapping", "<init>", "()V"⟩ : MethodName) prog_72_method_1_code 1 none ({ frames := 1, cells := 0, slots := 0, locals := 12 } : Room) #[(.ref a1)] h0 (own_QP none h0 n0) := by
  refine own_enter pn_1 ?_
  intro p e s m below meth c s₁ X0 hx hby hml hown hret hlk hnm hZ e0
  have hml : c.maxLocals = 1 := hml
  have N0 := Fr.nil n0
  rw [ef_1 m a1]
  show own_Fin p e below s _ _ _ (s₁.setTop (mkF m 0 #[.val (.ref a1)] []))
  refine own_Fin.step (fun _ => XS.aloadN X0.here hx rfl (hb hby d1_0) rfl rfl) ?_
  show own_Fin p e below s _ _ _ (s₁.setTop (mkF m 1 #[.val (.ref a1)] [(.ref a1)]))
  obtain ⟨T1, X1, e1, st1⟩ := initO X0 hx hZ hown (own_w hw 11 rfl) (own_w hw 12 rfl) (own_w hw 13 rfl) e0 (g := (mkF m 1 #[.val (.ref a1)] [(.ref a1)])) rfl (by rw [hml]; rfl) rfl (hb hby d1_1) (by decide) (W := 0) (by show 2 * 0 + _ ≤ _; exact Nat.le_of_eq rfl) (by decide)
  refine own_Fin.step st1 ?_
  show own_Fin p e below s _ _ _ (T1.setTop (mkF m 4 #[.val (.ref a1)] []))
  exact own_ret0 X1 hx hlk hret (hb hby d1_4) ⟨rfl, N0, e1⟩ (by decide) (by decide)
theorem d2_0 : decode prog_56_method_1_code 0 = .ok (.aload_n 0, 1) := by decide +kernel
theorem d2_1 : decode prog_56_method_1_code 1 = .ok (.invokespecial 1, 3) := by decide +kernel
theorem d2_4 : decode prog_56_method_1_code 4 = .ok (.iload 7, 2) := by decide +kernel
theorem d2_6 : decode prog_56_method_1_code 6 = .ok (.ifCond .ne 13, 3) := by decide +kernel
theorem d2_9 : decode prog_56_method_1_code 9 = .ok (.new 7, 3) := by decide +kernel
theorem d2_12 : decode prog_56_method_1_code 12 = .ok (.dup, 1) := by decide +kernel
theorem d2_13 : decode prog_56_method_1_code 13 = .ok (.ldc 9, 2) := by decide +kernel
theorem d2_15 : decode prog_56_method_1_code 15 = .ok (.invokespecial 11, 3) := by decide +kernel
theorem d2_18 : decode prog_56_method_1_code 18 = .ok (.athrow, 1) := by decide +kernel
theorem d2_19 : decode prog_56_method_1_code 19 = .ok (.aload_n 0, 1) := by decide +kernel
theorem d2_20 : decode prog_56_method_1_code 20 = .ok (.iload_n 1, 1) := by decide +kernel
theorem d2_21 : decode prog_56_method_1_code 21 = .ok (.putfield 14, 3) := by decide +kernel
theorem d2_24 : decode prog_56_method_1_code 24 = .ok (.aload_n 0, 1) := by decide +kernel
theorem d2_25 : decode prog_56_method_1_code 25 = .ok (.iload_n 2, 1) := by decide +kernel
theorem d2_26 : decode prog_56_method_1_code 26 = .ok (.putfield 20, 3) := by decide +kernel
theorem d2_29 : decode prog_56_method_1_code 29 = .ok (.aload_n 0, 1) := by decide +kernel
theorem d2_30 : decode prog_56_method_1_code 30 = .ok (.iload_n 3, 1) := by decide +kernel
theorem d2_31 : decode prog_56_method_1_code 31 = .ok (.putfield 23, 3) := by decide +kernel
theorem d2_34 : decode prog_56_method_1_code 34 = .ok (.aload_n 0, 1) := by decide +kernel
theorem d2_35 : decode prog_56_method_1_code 35 = .ok (.iload 4, 2) := by decide +kernel
theorem d2_37 : decode prog_56_method_1_code 37 = .ok (.putfield 26, 3) := by decide +kernel
theorem d2_40 : decode prog_56_method_1_code 40 = .ok (.aload_n 0, 1) := by decide +kernel
theorem d2_41 : decode prog_56_method_1_code 41 = .ok (.iload 5, 2) := by decide +kernel
theorem d2_43 : decode prog_56_method_1_code 43 = .ok (.putfield 29, 3) := by decide +kernel
theorem d2_46 : decode prog_56_method_1_code 46 = .ok (.aload_n 0, 1) := by decide +kernel
theorem d2_47 : decode prog_56_method_1_code 47 = .ok (.iload 6, 2) := by decide +kernel
theorem d2_49 : decode prog_56_method_1_code 49 = .ok (.putfield 32, 3) := by decide +kernel
theorem d2_52 : decode prog_56_method_1_code 52 = .ok (.aload_n 0, 1) := by decide +kernel
theorem d2_53 : decode prog_56_method_1_code 53 = .ok (.iload 7, 2) := by decide +kernel
theorem d2_55 : decode prog_56_method_1_code 55 = .ok (.putfield 35, 3) := by decide +kernel
theorem d2_58 : decode prog_56_method_1_code 58 = .ok (.return_, 1) := by decide +kernel
theorem pn_2 : plainFor (⟨"com/example/raw_to_screen/rawtoscreen/mapping/Calibration", "<init>", "(IIIIIII)V"⟩ : MethodName) = true := plainFor_of_name (by first | (simp [plainName, overriddenIn]; done) | decide +kernel)
theorem ef_2 (m : MethodId) (x0 : Addr) (x1 : Int32) (x2 : Int32) (x3 : Int32) (x4 : Int32) (x5 : Int32) (x6 : Int32) (x7 : Int32) : entryFrame m #[(.ref x0), (.int x1), (.int x2), (.int x3), (.int x4), (.int x5), (.int x6), (.int x7)] 8 = mkF m 0 #[.val (.ref x0), .val (.int x1), .val (.int x2), .val (.int x3), .val (.int x4), .val (.int x5), .val (.int x6), .val (.int x7)] [] := by first | (simp [entryFrame, mkF, argsToLocals, Value.category]; done) | rfl
theorem pd_0 : parseMethodDescriptor "()V" = some ⟨[], none⟩ := by decide +kernel
set_option maxRecDepth 65536 in
set_option maxHeartbeats 40000000 in
theorem rm2 (l : Launch) (Z : State) (a0 : Array Value) (hw : ∀ d ∈ tables_1, d.before a0 Z = true) (a1 : Addr) (p2 : Int32) (p3 : Int32) (p4 : Int32) (p5 : Int32) (p6 : Int32) (p7 : Int32) (p8 : Int32)  (h0 : Heap) (n0 : Nat) (Z0 : n0 ≤ h0.size) (H : ¬ p8 = 0) (g1 : n0 ≤ a1) (E1 : Exa Z h0 a1 "com/example/raw_to_screen/rawtoscreen/mapping/Calibration") (Fa : Fld Z h0 a1 "com/example/raw_to_screen/rawtoscreen/mapping/Calibration" "a" "I" (.int (0 : Int32))) (Fb : Fld Z h0 a1 "com/example/raw_to_screen/rawtoscreen/mapping/Calibration" "b" "I" (.int (0 : Int32))) (Fc : Fld Z h0 a1 "com/example/raw_to_screen/rawtoscreen/mapping/Calibration" "c" "I" (.int (0 : Int32))) (Fd : Fld Z h0 a1 "com/example/raw_to_screen/rawtoscreen/mapping/Calibration" "d" "I" (.int (0 : Int32))) (Fe : Fld Z h0 a1 "com/example/raw_to_screen/rawtoscreen/mapping/Calibration" "e" "I" (.int (0 : Int32))) (Ff : Fld Z h0 a1 "com/example/raw_to_screen/rawtoscreen/mapping/Calibration" "f" "I" (.int (0 : Int32))) (Fs : Fld Z h0 a1 "com/example/raw_to_screen/rawtoscreen/mapping/Calibration" "s" "I" (.int (0 : Int32))) :
    own_Met l Z [] (⟨"com/example/raw_to_screen/rawtoscreen/mapping/Calibration", "<init>", "(IIIIIII)V"⟩ : MethodName) prog_56_method_1_code 8 none ({ frames := 2, cells := 0, slots := 0, locals := 24 } : Room) #[(.ref a1), (.int p2), (.int p3), (.int p4), (.int p5), (.int p6), (.int p7), (.int p8)] h0 (own_QC Z a1 p2 p3 p4 p5 p6 p7 p8 h0 n0) := by
  refine own_enter pn_2 ?_
  intro p e s m below meth c s₁ X0 hx hby hml hown hret hlk hnm hZ e0
  have hml : c.maxLocals = 8 := hml
  have N0 := Fr.nil n0
  rw [ef_2 m a1 p2 p3 p4 p5 p6 p7 p8]
  show own_Fin p e below s _ _ _ (s₁.setTop (mkF m 0 #[.val (.ref a1), .val (.int p2), .val (.int p3), .val (.int p4), .val (.int p5), .val (.int p6), .val (.int p7), .val (.int p8)] []))
  refine own_Fin.step (fun _ => XS.aloadN X0.here hx rfl (hb hby d2_0) rfl rfl) ?_
  show own_Fin p e below s _ _ _ (s₁.setTop (mkF m 1 #[.val (.ref a1), .val (.int p2), .val (.int p3), .val (.int p4), .val (.int p5), .val (.int p6), .val (.int p7), .val (.int p8)] [(.ref a1)]))
  obtain ⟨_, T1, L1, X1, ⟨rfl, N1q, e1⟩, st1⟩ := own_callN X0 hx hZ rfl hown (own_w hw 6 rfl) (own_w hw 7 rfl) (own_w hw 9 rfl) (own_w hw 10 rfl) (by decide) (rm1 l Z a0 hw a1 h0 n0 Z0) (by decide) (by decide) (a := a1) e0 (W := 0) (g := (mkF m 1 #[.val (.ref a1), .val (.int p2), .val (.int p3), .val (.int p4), .val (.int p5), .val (.int p6), .val (.int p7), .val (.int p8)] [(.ref a1)])) rfl (by rw [hml]; rfl) (argsL := []) (rest := []) (lenOf pd_0 rfl) rfl rfl (by show 2 * 0 + _ ≤ _; exact Nat.le_of_eq rfl) (hb hby d2_1) (by decide) (by decide)
  have N1 := Fr.app N0 N1q
  refine own_Fin.step st1 ?_
  show own_Fin p e below s _ _ _ (T1.setTop (mkF m 4 #[.val (.ref a1), .val (.int p2), .val (.int p3), .val (.int p4), .val (.int p5), .val (.int p6), .val (.int p7), .val (.int p8)] []))
  refine own_Fin.step (fun _ => XS.iload X1.here hx rfl (hb hby d2_4) rfl) ?_
  show own_Fin p e below s _ _ _ (T1.setTop (mkF m 6 #[.val (.ref a1), .val (.int p2), .val (.int p3), .val (.int p4), .val (.int p5), .val (.int p6), .val (.int p7), .val (.int p8)] [(.int p8)]))
  refine own_Fin.step (fun _ => XS.ifYes X1.here hx rfl (pc0 := 6) (pc' := 19) rfl (hb hby d2_6) rfl (XT.i0_ne_t H) (by decide) (by decide)) ?_
  show own_Fin p e below s _ _ _ (T1.setTop (mkF m 19 #[.val (.ref a1), .val (.int p2), .val (.int p3), .val (.int p4), .val (.int p5), .val (.int p6), .val (.int p7), .val (.int p8)] []))
  refine own_Fin.step (fun _ => XS.aloadN X1.here hx rfl (hb hby d2_19) rfl rfl) ?_
  show own_Fin p e below s _ _ _ (T1.setTop (mkF m 20 #[.val (.ref a1), .val (.int p2), .val (.int p3), .val (.int p4), .val (.int p5), .val (.int p6), .val (.int p7), .val (.int p8)] [(.ref a1)]))
  refine own_Fin.step (fun _ => XS.iloadN X1.here hx rfl (hb hby d2_20) rfl) ?_
  show own_Fin p e below s _ _ _ (T1.setTop (mkF m 21 #[.val (.ref a1), .val (.int p2), .val (.int p3), .val (.int p4), .val (.int p5), .val (.int p6), .val (.int p7), .val (.int p8)] [(.int p2), (.ref a1)]))
  obtain ⟨T2, h2, X2, e2, W2, st2⟩ := putF X1 hx hZ hown (host := "") (Or.inl (own_w hw 14 rfl)) Via.refl e1 Fa E1 (Or.inr ⟨(own_w hw 15 rfl), rfl, hnm⟩) (own_w hw 1 rfl) (ty := .int) (by decide) rfl rfl (g := (mkF m 21 #[.val (.ref a1), .val (.int p2), .val (.int p3), .val (.int p4), .val (.int p5), .val (.int p6), .val (.int p7), .val (.int p8)] [(.int p2), (.ref a1)])) rfl rfl (hb hby d2_21)
  have Fw2 := Fa.same W2
  have f3 := E1.wr W2
  have f5 := Fb.other W2 (Or.inr (slot_ne (Or.inr (own_w hw 17 rfl)) (Or.inr (own_w hw 15 rfl)) (by decide) (t := .int) (t' := .int) (by decide) (by decide)))
  have f6 := Fc.other W2 (Or.inr (slot_ne (Or.inr (own_w hw 19 rfl)) (Or.inr (own_w hw 15 rfl)) (by decide) (t := .int) (t' := .int) (by decide) (by decide)))
  have f7 := Fd.other W2 (Or.inr (slot_ne (Or.inr (own_w hw 21 rfl)) (Or.inr (own_w hw 15 rfl)) (by decide) (t := .int) (t' := .int) (by decide) (by decide)))
  have f8 := Fe.other W2 (Or.inr (slot_ne (Or.inr (own_w hw 23 rfl)) (Or.inr (own_w hw 15 rfl)) (by decide) (t := .int) (t' := .int) (by decide) (by decide)))
  have f9 := Ff.other W2 (Or.inr (slot_ne (Or.inr (own_w hw 25 rfl)) (Or.inr (own_w hw 15 rfl)) (by decide) (t := .int) (t' := .int) (by decide) (by decide)))
  have f10 := Fs.other W2 (Or.inr (slot_ne (Or.inr (own_w hw 27 rfl)) (Or.inr (own_w hw 15 rfl)) (by decide) (t := .int) (t' := .int) (by decide) (by decide)))
  have N2 := Fr.snoc X2 N1 g1
  have Z2 : n0 ≤ h2.size := Nat.le_trans Z0 (Nat.le_of_eq W2.size.symm)
  have K11 : Keep h0 h2 [a1] := (Keep.refl h0 [a1]).wr W2 (Or.inl (List.mem_of_getElem? (i := 0) rfl))
  refine own_Fin.step st2 ?_
  show own_Fin p e below s _ _ _ (T2.setTop (mkF m 24 #[.val (.ref a1), .val (.int p2), .val (.int p3), .val (.int p4), .val (.int p5), .val (.int p6), .val (.int p7), .val (.int p8)] []))
  refine own_Fin.step (fun _ => XS.aloadN X2.here hx rfl (hb hby d2_24) rfl rfl) ?_
  show own_Fin p e below s _ _ _ (T2.setTop (mkF m 25 #[.val (.ref a1), .val (.int p2), .val (.int p3), .val (.int p4), .val (.int p5), .val (.int p6), .val (.int p7), .val (.int p8)] [(.ref a1)]))
  refine own_Fin.step (fun _ => XS.iloadN X2.here hx rfl (hb hby d2_25) rfl) ?_
  show own_Fin p e below s _ _ _ (T2.setTop (mkF m 26 #[.val (.ref a1), .val (.int p2), .val (.int p3), .val (.int p4), .val (.int p5), .val (.int p6), .val (.int p7), .val (.int p8)] [(.int p3), (.ref a1)]))
  obtain ⟨T12, h12, X12, e12, W12, st12⟩ := putF X2 hx hZ hown (host := "") (Or.inl (own_w hw 16 rfl)) Via.refl e2 f5 f3 (Or.inr ⟨(own_w hw 17 rfl), rfl, hnm⟩) (own_w hw 1 rfl) (ty := .int) (by decide) rfl rfl (g := (mkF m 26 #[.val (.ref a1), .val (.int p2), .val (.int p3), .val (.int p4), .val (.int p5), .val (.int p6), .val (.int p7), .val (.int p8)] [(.int p3), (.ref a1)])) rfl rfl (hb hby d2_26)
  have Fw12 := f5.same W12
  have f13 := f3.wr W12
  have f15 := f6.other W12 (Or.inr (slot_ne (Or.inr (own_w hw 19 rfl)) (Or.inr (own_w hw 17 rfl)) (by decide) (t := .int) (t' := .int) (by decide) (by decide)))
  have f16 := f7.other W12 (Or.inr (slot_ne (Or.inr (own_w hw 21 rfl)) (Or.inr (own_w hw 17 rfl)) (by decide) (t := .int) (t' := .int) (by decide) (by decide)))
  have f17 := f8.other W12 (Or.inr (slot_ne (Or.inr (own_w hw 23 rfl)) (Or.inr (own_w hw 17 rfl)) (by decide) (t := .int) (t' := .int) (by decide) (by decide)))
  have f18 := f9.other W12 (Or.inr (slot_ne (Or.inr (own_w hw 25 rfl)) (Or.inr (own_w hw 17 rfl)) (by decide) (t := .int) (t' := .int) (by decide) (by decide)))
  have f19 := f10.other W12 (Or.inr (slot_ne (Or.inr (own_w hw 27 rfl)) (Or.inr (own_w hw 17 rfl)) (by decide) (t := .int) (t' := .int) (by decide) (by decide)))
  have f20 := Fw2.other W12 (Or.inr (slot_ne (Or.inr (own_w hw 15 rfl)) (Or.inr (own_w hw 17 rfl)) (by decide) (t := .int) (t' := .int) (by decide) (by decide)))
  have N12 := Fr.snoc X12 N2 g1
  have Z12 : n0 ≤ h12.size := Nat.le_trans Z2 (Nat.le_of_eq W12.size.symm)
  have K21 : Keep h0 h12 [a1] := K11.wr W12 (Or.inl (List.mem_of_getElem? (i := 0) rfl))
  refine own_Fin.step st12 ?_
  show own_Fin p e below s _ _ _ (T12.setTop (mkF m 29 #[.val (.ref a1), .val (.int p2), .val (.int p3), .val (.int p4), .val (.int p5), .val (.int p6), .val (.int p7), .val (.int p8)] []))
  refine own_Fin.step (fun _ => XS.aloadN X12.here hx rfl (hb hby d2_29) rfl rfl) ?_
  show own_Fin p e below s _ _ _ (T12.setTop (mkF m 30 #[.val (.ref a1), .val (.int p2), .val (.int p3), .val (.int p4), .val (.int p5), .val (.int p6), .val (.int p7), .val (.int p8)] [(.ref a1)]))
  refine own_Fin.step (fun _ => XS.iloadN X12.here hx rfl (hb hby d2_30) rfl) ?_
  show own_Fin p e below s _ _ _ (T12.setTop (mkF m 31 #[.val (.ref a1), .val (.int p2), .val (.int p3), .val (.int p4), .val (.int p5), .val (.int p6), .val (.int p7), .val (.int p8)] [(.int p4), (.ref a1)]))
  obtain ⟨T22, h22, X22, e22, W22, st22⟩ := putF X12 hx hZ hown (host := "") (Or.inl (own_w hw 18 rfl)) Via.refl e12 f15 f13 (Or.inr ⟨(own_w hw 19 rfl), rfl, hnm⟩) (own_w hw 1 rfl) (ty := .int) (by decide) rfl rfl (g := (mkF m 31 #[.val (.ref a1), .val (.int p2), .val (.int p3), .val (.int p4), .val (.int p5), .val (.int p6), .val (.int p7), .val (.int p8)] [(.int p4), (.ref a1)])) rfl rfl (hb hby d2_31)
  have Fw22 := f15.same W22
  have f23 := f13.wr W22
  have f25 := f16.other W22 (Or.inr (slot_ne (Or.inr (own_w hw 21 rfl)) (Or.inr (own_w hw 19 rfl)) (by decide) (t := .int) (t' := .int) (by decide) (by decide)))
  have f26 := f17.other W22 (Or.inr (slot_ne (Or.inr (own_w hw 23 rfl)) (Or.inr (own_w hw 19 rfl)) (by decide) (t := .int) (t' := .int) (by decide) (by decide)))
  have f27 := f18.other W22 (Or.inr (slot_ne (Or.inr (own_w hw 25 rfl)) (Or.inr (own_w hw 19 rfl)) (by decide) (t := .int) (t' := .int) (by decide) (by decide)))
  have f28 := f19.other W22 (Or.inr (slot_ne (Or.inr (own_w hw 27 rfl)) (Or.inr (own_w hw 19 rfl)) (by decide) (t := .int) (t' := .int) (by decide) (by decide)))
  have f29 := f20.other W22 (Or.inr (slot_ne (Or.inr (own_w hw 15 rfl)) (Or.inr (own_w hw 19 rfl)) (by decide) (t := .int) (t' := .int) (by decide) (by decide)))
  have f30 := Fw12.other W22 (Or.inr (slot_ne (Or.inr (own_w hw 17 rfl)) (Or.inr (own_w hw 19 rfl)) (by decide) (t := .int) (t' := .int) (by decide) (by decide)))
  have N22 := Fr.snoc X22 N12 g1
  have Z22 : n0 ≤ h22.size := Nat.le_trans Z12 (Nat.le_of_eq W22.size.symm)
  have K31 : Keep h0 h22 [a1] := K21.wr W22 (Or.inl (List.mem_of_getElem? (i := 0) rfl))
  refine own_Fin.step st22 ?_
  show own_Fin p e below s _ _ _ (T22.setTop (mkF m 34 #[.val (.ref a1), .val (.int p2), .val (.int p3), .val (.int p4), .val (.int p5), .val (.int p6), .val (.int p7), .val (.int p8)] []))
  refine own_Fin.step (fun _ => XS.aloadN X22.here hx rfl (hb hby d2_34) rfl rfl) ?_
  show own_Fin p e below s _ _ _ (T22.setTop (mkF m 35 #[.val (.ref a1), .val (.int p2), .val (.int p3), .val (.int p4), .val (.int p5), .val (.int p6), .val (.int p7), .val (.int p8)] [(.ref a1)]))
  refine own_Fin.step (fun _ => XS.iload X22.here hx rfl (hb hby d2_35) rfl) ?_
  show own_Fin p e below s _ _ _ (T22.setTop (mkF m 37 #[.val (.ref a1), .val (.int p2), .val (.int p3), .val (.int p4), .val (.int p5), .val (.int p6), .val (.int p7), .val (.int p8)] [(.int p5), (.ref a1)]))
  obtain ⟨T32, h32, X32, e32, W32, st32⟩ := putF X22 hx hZ hown (host := "") (Or.inl (own_w hw 20 rfl)) Via.refl e22 f25 f23 (Or.inr ⟨(own_w hw 21 rfl), rfl, hnm⟩) (own_w hw 1 rfl) (ty := .int) (by decide) rfl rfl (g := (mkF m 37 #[.val (.ref a1), .val (.int p2), .val (.int p3), .val (.int p4), .val (.int p5), .val (.int p6), .val (.int p7), .val (.int p8)] [(.int p5), (.ref a1)])) rfl rfl (hb hby d2_37)
  have Fw32 := f25.same W32
  have f33 := f23.wr W32
  have f35 := f26.other W32 (Or.inr (slot_ne (Or.inr (own_w hw 23 rfl)) (Or.inr (own_w hw 21 rfl)) (by decide) (t := .int) (t' := .int) (by decide) (by decide)))
  have f36 := f27.other W32 (Or.inr (slot_ne (Or.inr (own_w hw 25 rfl)) (Or.inr (own_w hw 21 rfl)) (by decide) (t := .int) (t' := .int) (by decide) (by decide)))
  have f37 := f28.other W32 (Or.inr (slot_ne (Or.inr (own_w hw 27 rfl)) (Or.inr (own_w hw 21 rfl)) (by decide) (t := .int) (t' := .int) (by decide) (by decide)))
  have f38 := f29.other W32 (Or.inr (slot_ne (Or.inr (own_w hw 15 rfl)) (Or.inr (own_w hw 21 rfl)) (by decide) (t := .int) (t' := .int) (by decide) (by decide)))
  have f39 := f30.other W32 (Or.inr (slot_ne (Or.inr (own_w hw 17 rfl)) (Or.inr (own_w hw 21 rfl)) (by decide) (t := .int) (t' := .int) (by decide) (by decide)))
  have f40 := Fw22.other W32 (Or.inr (slot_ne (Or.inr (own_w hw 19 rfl)) (Or.inr (own_w hw 21 rfl)) (by decide) (t := .int) (t' := .int) (by decide) (by decide)))
  have N32 := Fr.snoc X32 N22 g1
  have Z32 : n0 ≤ h32.size := Nat.le_trans Z22 (Nat.le_of_eq W32.size.symm)
  have K41 : Keep h0 h32 [a1] := K31.wr W32 (Or.inl (List.mem_of_getElem? (i := 0) rfl))
  refine own_Fin.step st32 ?_
  show own_Fin p e below s _ _ _ (T32.setTop (mkF m 40 #[.val (.ref a1), .val (.int p2), .val (.int p3), .val (.int p4), .val (.int p5), .val (.int p6), .val (.int p7), .val (.int p8)] []))
  refine own_Fin.step (fun _ => XS.aloadN X32.here hx rfl (hb hby d2_40) rfl rfl) ?_
  show own_Fin p e below s _ _ _ (T32.setTop (mkF m 41 #[.val (.ref a1), .val (.int p2), .val (.int p3), .val (.int p4), .val (.int p5), .val (.int p6), .val (.int p7), .val (.int p8)] [(.ref a1)]))
  refine own_Fin.step (fun _ => XS.iload X32.here hx rfl (hb hby d2_41) rfl) ?_
  show own_Fin p e below s _ _ _ (T32.setTop (mkF m 43 #[.val (.ref a1), .val (.int p2), .val (.int p3), .val (.int p4), .val (.int p5), .val (.int p6), .val (.int p7), .val (.int p8)] [(.int p6), (.ref a1)]))
  obtain ⟨T42, h42, X42, e42, W42, st42⟩ := putF X32 hx hZ hown (host := "") (Or.inl (own_w hw 22 rfl)) Via.refl e32 f35 f33 (Or.inr ⟨(own_w hw 23 rfl), rfl, hnm⟩) (own_w hw 1 rfl) (ty := .int) (by decide) rfl rfl (g := (mkF m 43 #[.val (.ref a1), .val (.int p2), .val (.int p3), .val (.int p4), .val (.int p5), .val (.int p6), .val (.int p7), .val (.int p8)] [(.int p6), (.ref a1)])) rfl rfl (hb hby d2_43)
  have Fw42 := f35.same W42
  have f43 := f33.wr W42
  have f45 := f36.other W42 (Or.inr (slot_ne (Or.inr (own_w hw 25 rfl)) (Or.inr (own_w hw 23 rfl)) (by decide) (t := .int) (t' := .int) (by decide) (by decide)))
  have f46 := f37.other W42 (Or.inr (slot_ne (Or.inr (own_w hw 27 rfl)) (Or.inr (own_w hw 23 rfl)) (by decide) (t := .int) (t' := .int) (by decide) (by decide)))
  have f47 := f38.other W42 (Or.inr (slot_ne (Or.inr (own_w hw 15 rfl)) (Or.inr (own_w hw 23 rfl)) (by decide) (t := .int) (t' := .int) (by decide) (by decide)))
  have f48 := f39.other W42 (Or.inr (slot_ne (Or.inr (own_w hw 17 rfl)) (Or.inr (own_w hw 23 rfl)) (by decide) (t := .int) (t' := .int) (by decide) (by decide)))
  have f49 := f40.other W42 (Or.inr (slot_ne (Or.inr (own_w hw 19 rfl)) (Or.inr (own_w hw 23 rfl)) (by decide) (t := .int) (t' := .int) (by decide) (by decide)))
  have f50 := Fw32.other W42 (Or.inr (slot_ne (Or.inr (own_w hw 21 rfl)) (Or.inr (own_w hw 23 rfl)) (by decide) (t := .int) (t' := .int) (by decide) (by decide)))
  have N42 := Fr.snoc X42 N32 g1
  have Z42 : n0 ≤ h42.size := Nat.le_trans Z32 (Nat.le_of_eq W42.size.symm)
  have K51 : Keep h0 h42 [a1] := K41.wr W42 (Or.inl (List.mem_of_getElem? (i := 0) rfl))
  refine own_Fin.step st42 ?_
  show own_Fin p e below s _ _ _ (T42.setTop (mkF m 46 #[.val (.ref a1), .val (.int p2), .val (.int p3), .val (.int p4), .val (.int p5), .val (.int p6), .val (.int p7), .val (.int p8)] []))
  refine own_Fin.step (fun _ => XS.aloadN X42.here hx rfl (hb hby d2_46) rfl rfl) ?_
  show own_Fin p e below s _ _ _ (T42.setTop (mkF m 47 #[.val (.ref a1), .val (.int p2), .val (.int p3), .val (.int p4), .val (.int p5), .val (.int p6), .val (.int p7), .val (.int p8)] [(.ref a1)]))
  refine own_Fin.step (fun _ => XS.iload X42.here hx rfl (hb hby d2_47) rfl) ?_
  show own_Fin p e below s _ _ _ (T42.setTop (mkF m 49 #[.val (.ref a1), .val (.int p2), .val (.int p3), .val (.int p4), .val (.int p5), .val (.int p6), .val (.int p7), .val (.int p8)] [(.int p7), (.ref a1)]))
  obtain ⟨T52, h52, X52, e52, W52, st52⟩ := putF X42 hx hZ hown (host := "") (Or.inl (own_w hw 24 rfl)) Via.refl e42 f45 f43 (Or.inr ⟨(own_w hw 25 rfl), rfl, hnm⟩) (own_w hw 1 rfl) (ty := .int) (by decide) rfl rfl (g := (mkF m 49 #[.val (.ref a1), .val (.int p2), .val (.int p3), .val (.int p4), .val (.int p5), .val (.int p6), .val (.int p7), .val (.int p8)] [(.int p7), (.ref a1)])) rfl rfl (hb hby d2_49)
  have Fw52 := f45.same W52
  have f53 := f43.wr W52
  have f55 := f46.other W52 (Or.inr (slot_ne (Or.inr (own_w hw 27 rfl)) (Or.inr (own_w hw 25 rfl)) (by decide) (t := .int) (t' := .int) (by decide) (by decide)))
  have f56 := f47.other W52 (Or.inr (slot_ne (Or.inr (own_w hw 15 rfl)) (Or.inr (own_w hw 25 rfl)) (by decide) (t := .int) (t' := .int) (by decide) (by decide)))
  have f57 := f48.other W52 (Or.inr (slot_ne (Or.inr (own_w hw 17 rfl)) (Or.inr (own_w hw 25 rfl)) (by decide) (t := .int) (t' := .int) (by decide) (by decide)))
  have f58 := f49.other W52 (Or.inr (slot_ne (Or.inr (own_w hw 19 rfl)) (Or.inr (own_w hw 25 rfl)) (by decide) (t := .int) (t' := .int) (by decide) (by decide)))
  have f59 := f50.other W52 (Or.inr (slot_ne (Or.inr (own_w hw 21 rfl)) (Or.inr (own_w hw 25 rfl)) (by decide) (t := .int) (t' := .int) (by decide) (by decide)))
  have f60 := Fw42.other W52 (Or.inr (slot_ne (Or.inr (own_w hw 23 rfl)) (Or.inr (own_w hw 25 rfl)) (by decide) (t := .int) (t' := .int) (by decide) (by decide)))
  have N52 := Fr.snoc X52 N42 g1
  have Z52 : n0 ≤ h52.size := Nat.le_trans Z42 (Nat.le_of_eq W52.size.symm)
  have K61 : Keep h0 h52 [a1] := K51.wr W52 (Or.inl (List.mem_of_getElem? (i := 0) rfl))
  refine own_Fin.step st52 ?_
  show own_Fin p e below s _ _ _ (T52.setTop (mkF m 52 #[.val (.ref a1), .val (.int p2), .val (.int p3), .val (.int p4), .val (.int p5), .val (.int p6), .val (.int p7), .val (.int p8)] []))
  refine own_Fin.step (fun _ => XS.aloadN X52.here hx rfl (hb hby d2_52) rfl rfl) ?_
  show own_Fin p e below s _ _ _ (T52.setTop (mkF m 53 #[.val (.ref a1), .val (.int p2), .val (.int p3), .val (.int p4), .val (.int p5), .val (.int p6), .val (.int p7), .val (.int p8)] [(.ref a1)]))
  refine own_Fin.step (fun _ => XS.iload X52.here hx rfl (hb hby d2_53) rfl) ?_
  show own_Fin p e below s _ _ _ (T52.setTop (mkF m 55 #[.val (.ref a1), .val (.int p2), .val (.int p3), .val (.int p4), .val (.int p5), .val (.int p6), .val (.int p7), .val (.int p8)] [(.int p8), (.ref a1)]))
  obtain ⟨T62, h62, X62, e62, W62, st62⟩ := putF X52 hx hZ hown (host := "") (Or.inl (own_w hw 26 rfl)) Via.refl e52 f55 f53 (Or.inr ⟨(own_w hw 27 rfl), rfl, hnm⟩) (own_w hw 1 rfl) (ty := .int) (by decide) rfl rfl (g := (mkF m 55 #[.val (.ref a1), .val (.int p2), .val (.int p3), .val (.int p4), .val (.int p5), .val (.int p6), .val (.int p7), .val (.int p8)] [(.int p8), (.ref a1)])) rfl rfl (hb hby d2_55)
  have Fw62 := f55.same W62
  have f63 := f53.wr W62
  have f65 := f56.other W62 (Or.inr (slot_ne (Or.inr (own_w hw 15 rfl)) (Or.inr (own_w hw 27 rfl)) (by decide) (t := .int) (t' := .int) (by decide) (by decide)))
  have f66 := f57.other W62 (Or.inr (slot_ne (Or.inr (own_w hw 17 rfl)) (Or.inr (own_w hw 27 rfl)) (by decide) (t := .int) (t' := .int) (by decide) (by decide)))
  have f67 := f58.other W62 (Or.inr (slot_ne (Or.inr (own_w hw 19 rfl)) (Or.inr (own_w hw 27 rfl)) (by decide) (t := .int) (t' := .int) (by decide) (by decide)))
  have f68 := f59.other W62 (Or.inr (slot_ne (Or.inr (own_w hw 21 rfl)) (Or.inr (own_w hw 27 rfl)) (by decide) (t := .int) (t' := .int) (by decide) (by decide)))
  have f69 := f60.other W62 (Or.inr (slot_ne (Or.inr (own_w hw 23 rfl)) (Or.inr (own_w hw 27 rfl)) (by decide) (t := .int) (t' := .int) (by decide) (by decide)))
  have f70 := Fw52.other W62 (Or.inr (slot_ne (Or.inr (own_w hw 25 rfl)) (Or.inr (own_w hw 27 rfl)) (by decide) (t := .int) (t' := .int) (by decide) (by decide)))
  have N62 := Fr.snoc X62 N52 g1
  have Z62 : n0 ≤ h62.size := Nat.le_trans Z52 (Nat.le_of_eq W62.size.symm)
  have K71 : Keep h0 h62 [a1] := K61.wr W62 (Or.inl (List.mem_of_getElem? (i := 0) rfl))
  refine own_Fin.step st62 ?_
  show own_Fin p e below s _ _ _ (T62.setTop (mkF m 58 #[.val (.ref a1), .val (.int p2), .val (.int p3), .val (.int p4), .val (.int p5), .val (.int p6), .val (.int p7), .val (.int p8)] []))
  exact own_ret0 X62 hx hlk hret (hb hby d2_58) (by rw [e62]; exact ⟨rfl, N62, K71, f63, f65, f66, f67, f68, f69, f70, Fw62⟩) (by decide) (by decide)
theorem d3_0 : decode prog_56_method_4_code 0 = .ok (.bipush 7, 2) := by decide +kernel
theorem d3_2 : decode prog_56_method_4_code 2 = .ok (.newarray .int, 2) := by decide +kernel
theorem d3_4 : decode prog_56_method_4_code 4 = .ok (.dup, 1) := by decide +kernel
theorem d3_5 : decode prog_56_method_4_code 5 = .ok (.iconst 0, 1) := by decide +kernel
theorem d3_6 : decode prog_56_method_4_code 6 = .ok (.aload_n 0, 1) := by decide +kernel
theorem d3_7 : decode prog_56_method_4_code 7 = .ok (.getfield 14, 3) := by decide +kernel
theorem d3_10 : decode prog_56_method_4_code 10 = .ok (.iastore, 1) := by decide +kernel
theorem d3_11 : decode prog_56_method_4_code 11 = .ok (.dup, 1) := by decide +kernel
theorem d3_12 : decode prog_56_method_4_code 12 = .ok (.iconst 1, 1) := by decide +kernel
theorem d3_13 : decode prog_56_method_4_code 13 = .ok (.aload_n 0, 1) := by decide +kernel
theorem d3_14 : decode prog_56_method_4_code 14 = .ok (.getfield 20, 3) := by decide +kernel
theorem d3_17 : decode prog_56_method_4_code 17 = .ok (.iastore, 1) := by decide +kernel
theorem d3_18 : decode prog_56_method_4_code 18 = .ok (.dup, 1) := by decide +kernel
theorem d3_19 : decode prog_56_method_4_code 19 = .ok (.iconst 2, 1) := by decide +kernel
theorem d3_20 : decode prog_56_method_4_code 20 = .ok (.aload_n 0, 1) := by decide +kernel
theorem d3_21 : decode prog_56_method_4_code 21 = .ok (.getfield 23, 3) := by decide +kernel
theorem d3_24 : decode prog_56_method_4_code 24 = .ok (.iastore, 1) := by decide +kernel
theorem d3_25 : decode prog_56_method_4_code 25 = .ok (.dup, 1) := by decide +kernel
theorem d3_26 : decode prog_56_method_4_code 26 = .ok (.iconst 3, 1) := by decide +kernel
theorem d3_27 : decode prog_56_method_4_code 27 = .ok (.aload_n 0, 1) := by decide +kernel
theorem d3_28 : decode prog_56_method_4_code 28 = .ok (.getfield 26, 3) := by decide +kernel
theorem d3_31 : decode prog_56_method_4_code 31 = .ok (.iastore, 1) := by decide +kernel
theorem d3_32 : decode prog_56_method_4_code 32 = .ok (.dup, 1) := by decide +kernel
theorem d3_33 : decode prog_56_method_4_code 33 = .ok (.iconst 4, 1) := by decide +kernel
theorem d3_34 : decode prog_56_method_4_code 34 = .ok (.aload_n 0, 1) := by decide +kernel
theorem d3_35 : decode prog_56_method_4_code 35 = .ok (.getfield 29, 3) := by decide +kernel
theorem d3_38 : decode prog_56_method_4_code 38 = .ok (.iastore, 1) := by decide +kernel
theorem d3_39 : decode prog_56_method_4_code 39 = .ok (.dup, 1) := by decide +kernel
theorem d3_40 : decode prog_56_method_4_code 40 = .ok (.iconst 5, 1) := by decide +kernel
theorem d3_41 : decode prog_56_method_4_code 41 = .ok (.aload_n 0, 1) := by decide +kernel
theorem d3_42 : decode prog_56_method_4_code 42 = .ok (.getfield 32, 3) := by decide +kernel
theorem d3_45 : decode prog_56_method_4_code 45 = .ok (.iastore, 1) := by decide +kernel
theorem d3_46 : decode prog_56_method_4_code 46 = .ok (.dup, 1) := by decide +kernel
theorem d3_47 : decode prog_56_method_4_code 47 = .ok (.bipush 6, 2) := by decide +kernel
theorem d3_49 : decode prog_56_method_4_code 49 = .ok (.aload_n 0, 1) := by decide +kernel
theorem d3_50 : decode prog_56_method_4_code 50 = .ok (.getfield 35, 3) := by decide +kernel
theorem d3_53 : decode prog_56_method_4_code 53 = .ok (.iastore, 1) := by decide +kernel
theorem d3_54 : decode prog_56_method_4_code 54 = .ok (.areturn, 1) := by decide +kernel
theorem pn_3 : plainFor (⟨"com/example/raw_to_screen/rawtoscreen/mapping/Calibration", "integers", "()[I"⟩ : MethodName) = true := plainFor_of_name (by first | (simp [plainName, overriddenIn]; done) | decide +kernel)
theorem ef_3 (m : MethodId) (x0 : Addr) : entryFrame m #[(.ref x0)] 1 = mkF m 0 #[.val (.ref x0)] [] := by first | (simp [entryFrame, mkF, argsToLocals, Value.category]; done) | rfl
set_option maxRecDepth 65536 in
set_option maxHeartbeats 40000000 in
theorem rm3 (l : Launch) (Z : State) (a0 : Array Value) (hw : ∀ d ∈ tables_1, d.before a0 Z = true) (a1 : Addr) (p2 p3 p4 p5 p6 p7 p8 : Int32) (h0 : Heap) (n0 : Nat) (Z0 : n0 ≤ h0.size) (Fa : Fld Z h0 a1 "com/example/raw_to_screen/rawtoscreen/mapping/Calibration" "a" "I" (.int p2)) (Fb : Fld Z h0 a1 "com/example/raw_to_screen/rawtoscreen/mapping/Calibration" "b" "I" (.int p3)) (Fc : Fld Z h0 a1 "com/example/raw_to_screen/rawtoscreen/mapping/Calibration" "c" "I" (.int p4)) (Fd : Fld Z h0 a1 "com/example/raw_to_screen/rawtoscreen/mapping/Calibration" "d" "I" (.int p5)) (Fe : Fld Z h0 a1 "com/example/raw_to_screen/rawtoscreen/mapping/Calibration" "e" "I" (.int p6)) (Ff : Fld Z h0 a1 "com/example/raw_to_screen/rawtoscreen/mapping/Calibration" "f" "I" (.int p7)) (Fs : Fld Z h0 a1 "com/example/raw_to_screen/rawtoscreen/mapping/Calibration" "s" "I" (.int p8)) :
    own_Met l Z [] (⟨"com/example/raw_to_screen/rawtoscreen/mapping/Calibration", "integers", "()[I"⟩ : MethodName) prog_56_method_4_code 1 (some (.array .int)) ({ frames := 0, cells := 1, slots := 7, locals := 0 } : Room) #[(.ref a1)] h0 (own_QI Z p2 p3 p4 p5 p6 p7 p8 h0 n0) := by
  refine own_enter pn_3 ?_
  intro p e s m below meth c s₁ X0 hx hby hml hown hret hlk hnm hZ e0
  have hml : c.maxLocals = 1 := hml
  have N0 := Fr.nil n0
  rw [ef_3 m a1]
  show own_Fin p e below s _ _ _ (s₁.setTop (mkF m 0 #[.val (.ref a1)] []))
  refine own_Fin.step (fun _ => XS.bipush X0.here hx rfl (hb hby d3_0)) ?_
  show own_Fin p e below s _ _ _ (s₁.setTop (mkF m 2 #[.val (.ref a1)] [(.int (7 : Int32))]))
  obtain ⟨T1, h1, k1, b1, X1, e1, E1, g1, V1, st1⟩ := own_newA X0 hx hZ (own_w hw 33 rfl) e0 (ty := .int) (dv := (.int (0 : Int32))) rfl rfl (g := (mkF m 2 #[.val (.ref a1)] [(.int (7 : Int32))])) rfl (hb hby d3_2) rfl (by decide) (cap := 7) (by decide) (by decide) (by decide) (by decide) (7)
  have ne2 : a1 ≠ b1 := Nat.ne_of_lt (Nat.lt_of_lt_of_eq Fa.lt g1.symm)
  have ge3 : n0 ≤ b1 := Nat.le_trans Z0 (Nat.le_of_eq g1.symm)
  have f4 := Fa.ext E1
  have f5 := Fb.ext E1
  have f6 := Fc.ext E1
  have f7 := Fd.ext E1
  have f8 := Fe.ext E1
  have f9 := Ff.ext E1
  have f10 := Fs.ext E1
  have sz1 : h0.size ≤ b1 := Nat.le_trans (Keep.refl h0 []).1 (Nat.le_of_eq g1.symm)
  have Z1 : n0 ≤ h1.size := Nat.le_trans Z0 E1.1
  have K11 : Keep h0 h1 [] := (Keep.refl h0 []).ext E1
  have V1' : Arv Z h1 b1 k1 .int (7 : Int32) [(.int (0 : Int32)), (.int (0 : Int32)), (.int (0 : Int32)), (.int (0 : Int32)), (.int (0 : Int32)), (.int (0 : Int32)), (.int (0 : Int32))] (.int (0 : Int32)) := V1
  refine own_Fin.step st1 ?_
  show own_Fin p e below s _ _ _ (T1.setTop (mkF m 4 #[.val (.ref a1)] [(.ref b1)]))
  refine own_Fin.step (fun _ => XS.dup X1.here hx rfl (hb hby d3_4) rfl rfl) ?_
  show own_Fin p e below s _ _ _ (T1.setTop (mkF m 5 #[.val (.ref a1)] [(.ref b1), (.ref b1)]))
  refine own_Fin.step (fun _ => XS.iconst X1.here hx rfl (hb hby d3_5)) ?_
  show own_Fin p e below s _ _ _ (T1.setTop (mkF m 6 #[.val (.ref a1)] [(.int (0 : Int32)), (.ref b1), (.ref b1)]))
  refine own_Fin.step (fun _ => XS.aloadN X1.here hx rfl (hb hby d3_6) rfl rfl) ?_
  show own_Fin p e below s _ _ _ (T1.setTop (mkF m 7 #[.val (.ref a1)] [(.ref a1), (.int (0 : Int32)), (.ref b1), (.ref b1)]))
  obtain ⟨T12, X12, e12, st12⟩ := getF X1 hx hZ hown (host := "") (Or.inl (own_w hw 14 rfl)) Via.refl e1 f4 (g := (mkF m 7 #[.val (.ref a1)] [(.ref a1), (.int (0 : Int32)), (.ref b1), (.ref b1)])) rfl rfl (hb hby d3_7)
  refine own_Fin.step st12 ?_
  show own_Fin p e below s _ _ _ (T12.setTop (mkF m 10 #[.val (.ref a1)] [(.int p2), (.int (0 : Int32)), (.ref b1), (.ref b1)]))
  obtain ⟨T13, h13, X13, e13, V13, W13, st13⟩ := own_stI X12 hx hZ e12 V1' (j := (0 : Int32)) ⟨by decide, by decide⟩ (0) rfl (Nat.le_of_ble_eq_true rfl) (g := (mkF m 10 #[.val (.ref a1)] [(.int p2), (.int (0 : Int32)), (.ref b1), (.ref b1)])) rfl rfl (hb hby d3_10)
  have V13' : Arv Z h13 b1 k1 .int (7 : Int32) [(.int p2), (.int (0 : Int32)), (.int (0 : Int32)), (.int (0 : Int32)), (.int (0 : Int32)), (.int (0 : Int32)), (.int (0 : Int32))] (.int (0 : Int32)) := V13
  have f14 := f4.other W13 (Or.inl ne2)
  have f15 := f5.other W13 (Or.inl ne2)
  have f16 := f6.other W13 (Or.inl ne2)
  have f17 := f7.other W13 (Or.inl ne2)
  have f18 := f8.other W13 (Or.inl ne2)
  have f19 := f9.other W13 (Or.inl ne2)
  have f20 := f10.other W13 (Or.inl ne2)
  have N13 := Fr.snoc X13 N0 ge3
  have Z13 : n0 ≤ h13.size := Nat.le_trans Z1 (Nat.le_of_eq W13.size.symm)
  have K22 : Keep h0 h13 [] := K11.wr W13 (Or.inr sz1)
  refine own_Fin.step st13 ?_
  show own_Fin p e below s _ _ _ (T13.setTop (mkF m 11 #[.val (.ref a1)] [(.ref b1)]))
  refine own_Fin.step (fun _ => XS.dup X13.here hx rfl (hb hby d3_11) rfl rfl) ?_
  show own_Fin p e below s _ _ _ (T13.setTop (mkF m 12 #[.val (.ref a1)] [(.ref b1), (.ref b1)]))
  refine own_Fin.step (fun _ => XS.iconst X13.here hx rfl (hb hby d3_12)) ?_
  show own_Fin p e below s _ _ _ (T13.setTop (mkF m 13 #[.val (.ref a1)] [(.int (1 : Int32)), (.ref b1), (.ref b1)]))
  refine own_Fin.step (fun _ => XS.aloadN X13.here hx rfl (hb hby d3_13) rfl rfl) ?_
  show own_Fin p e below s _ _ _ (T13.setTop (mkF m 14 #[.val (.ref a1)] [(.ref a1), (.int (1 : Int32)), (.ref b1), (.ref b1)]))
  obtain ⟨T23, X23, e23, st23⟩ := getF X13 hx hZ hown (host := "") (Or.inl (own_w hw 16 rfl)) Via.refl e13 f15 (g := (mkF m 14 #[.val (.ref a1)] [(.ref a1), (.int (1 : Int32)), (.ref b1), (.ref b1)])) rfl rfl (hb hby d3_14)
  refine own_Fin.step st23 ?_
  show own_Fin p e below s _ _ _ (T23.setTop (mkF m 17 #[.val (.ref a1)] [(.int p3), (.int (1 : Int32)), (.ref b1), (.ref b1)]))
  obtain ⟨T24, h24, X24, e24, V24, W24, st24⟩ := own_stI X23 hx hZ e23 V13' (j := (1 : Int32)) ⟨by decide, by decide⟩ (1) rfl (Nat.le_of_ble_eq_true rfl) (g := (mkF m 17 #[.val (.ref a1)] [(.int p3), (.int (1 : Int32)), (.ref b1), (.ref b1)])) rfl rfl (hb hby d3_17)
  have V24' : Arv Z h24 b1 k1 .int (7 : Int32) [(.int p2), (.int p3), (.int (0 : Int32)), (.int (0 : Int32)), (.int (0 : Int32)), (.int (0 : Int32)), (.int (0 : Int32))] (.int (0 : Int32)) := V24
  have f25 := f14.other W24 (Or.inl ne2)
  have f26 := f15.other W24 (Or.inl ne2)
  have f27 := f16.other W24 (Or.inl ne2)
  have f28 := f17.other W24 (Or.inl ne2)
  have f29 := f18.other W24 (Or.inl ne2)
  have f30 := f19.other W24 (Or.inl ne2)
  have f31 := f20.other W24 (Or.inl ne2)
  have N24 := Fr.snoc X24 N13 ge3
  have Z24 : n0 ≤ h24.size := Nat.le_trans Z13 (Nat.le_of_eq W24.size.symm)
  have K33 : Keep h0 h24 [] := K22.wr W24 (Or.inr sz1)
  refine own_Fin.step st24 ?_
  show own_Fin p e below s _ _ _ (T24.setTop (mkF m 18 #[.val (.ref a1)] [(.ref b1)]))
  refine own_Fin.step (fun _ => XS.dup X24.here hx rfl (hb hby d3_18) rfl rfl) ?_
  show own_Fin p e below s _ _ _ (T24.setTop (mkF m 19 #[.val (.ref a1)] [(.ref b1), (.ref b1)]))
  refine own_Fin.step (fun _ => XS.iconst X24.here hx rfl (hb hby d3_19)) ?_
  show own_Fin p e below s _ _ _ (T24.setTop (mkF m 20 #[.val (.ref a1)] [(.int (2 : Int32)), (.ref b1), (.ref b1)]))
  refine own_Fin.step (fun _ => XS.aloadN X24.here hx rfl (hb hby d3_20) rfl rfl) ?_
  show own_Fin p e below s _ _ _ (T24.setTop (mkF m 21 #[.val (.ref a1)] [(.ref a1), (.int (2 : Int32)), (.ref b1), (.ref b1)]))
  obtain ⟨T34, X34, e34, st34⟩ := getF X24 hx hZ hown (host := "") (Or.inl (own_w hw 18 rfl)) Via.refl e24 f27 (g := (mkF m 21 #[.val (.ref a1)] [(.ref a1), (.int (2 : Int32)), (.ref b1), (.ref b1)])) rfl rfl (hb hby d3_21)
  refine own_Fin.step st34 ?_
  show own_Fin p e below s _ _ _ (T34.setTop (mkF m 24 #[.val (.ref a1)] [(.int p4), (.int (2 : Int32)), (.ref b1), (.ref b1)]))
  obtain ⟨T35, h35, X35, e35, V35, W35, st35⟩ := own_stI X34 hx hZ e34 V24' (j := (2 : Int32)) ⟨by decide, by decide⟩ (2) rfl (Nat.le_of_ble_eq_true rfl) (g := (mkF m 24 #[.val (.ref a1)] [(.int p4), (.int (2 : Int32)), (.ref b1), (.ref b1)])) rfl rfl (hb hby d3_24)
  have V35' : Arv Z h35 b1 k1 .int (7 : Int32) [(.int p2), (.int p3), (.int p4), (.int (0 : Int32)), (.int (0 : Int32)), (.int (0 : Int32)), (.int (0 : Int32))] (.int (0 : Int32)) := V35
  have f36 := f25.other W35 (Or.inl ne2)
  have f37 := f26.other W35 (Or.inl ne2)
  have f38 := f27.other W35 (Or.inl ne2)
  have f39 := f28.other W35 (Or.inl ne2)
  have f40 := f29.other W35 (Or.inl ne2)
  have f41 := f30.other W35 (Or.inl ne2)
  have f42 := f31.other W35 (Or.inl ne2)
  have N35 := Fr.snoc X35 N24 ge3
  have Z35 : n0 ≤ h35.size := Nat.le_trans Z24 (Nat.le_of_eq W35.size.symm)
  have K44 : Keep h0 h35 [] := K33.wr W35 (Or.inr sz1)
  refine own_Fin.step st35 ?_
  show own_Fin p e below s _ _ _ (T35.setTop (mkF m 25 #[.val (.ref a1)] [(.ref b1)]))
  refine own_Fin.step (fun _ => XS.dup X35.here hx rfl (hb hby d3_25) rfl rfl) ?_
  show own_Fin p e below s _ _ _ (T35.setTop (mkF m 26 #[.val (.ref a1)] [(.ref b1), (.ref b1)]))
  refine own_Fin.step (fun _ => XS.iconst X35.here hx rfl (hb hby d3_26)) ?_
  show own_Fin p e below s _ _ _ (T35.setTop (mkF m 27 #[.val (.ref a1)] [(.int (3 : Int32)), (.ref b1), (.ref b1)]))
  refine own_Fin.step (fun _ => XS.aloadN X35.here hx rfl (hb hby d3_27) rfl rfl) ?_
  show own_Fin p e below s _ _ _ (T35.setTop (mkF m 28 #[.val (.ref a1)] [(.ref a1), (.int (3 : Int32)), (.ref b1), (.ref b1)]))
  obtain ⟨T45, X45, e45, st45⟩ := getF X35 hx hZ hown (host := "") (Or.inl (own_w hw 20 rfl)) Via.refl e35 f39 (g := (mkF m 28 #[.val (.ref a1)] [(.ref a1), (.int (3 : Int32)), (.ref b1), (.ref b1)])) rfl rfl (hb hby d3_28)
  refine own_Fin.step st45 ?_
  show own_Fin p e below s _ _ _ (T45.setTop (mkF m 31 #[.val (.ref a1)] [(.int p5), (.int (3 : Int32)), (.ref b1), (.ref b1)]))
  obtain ⟨T46, h46, X46, e46, V46, W46, st46⟩ := own_stI X45 hx hZ e45 V35' (j := (3 : Int32)) ⟨by decide, by decide⟩ (3) rfl (Nat.le_of_ble_eq_true rfl) (g := (mkF m 31 #[.val (.ref a1)] [(.int p5), (.int (3 : Int32)), (.ref b1), (.ref b1)])) rfl rfl (hb hby d3_31)
  have V46' : Arv Z h46 b1 k1 .int (7 : Int32) [(.int p2), (.int p3), (.int p4), (.int p5), (.int (0 : Int32)), (.int (0 : Int32)), (.int (0 : Int32))] (.int (0 : Int32)) := V46
  have f47 := f36.other W46 (Or.inl ne2)
  have f48 := f37.other W46 (Or.inl ne2)
  have f49 := f38.other W46 (Or.inl ne2)
  have f50 := f39.other W46 (Or.inl ne2)
  have f51 := f40.other W46 (Or.inl ne2)
  have f52 := f41.other W46 (Or.inl ne2)
  have f53 := f42.other W46 (Or.inl ne2)
  have N46 := Fr.snoc X46 N35 ge3
  have Z46 : n0 ≤ h46.size := Nat.le_trans Z35 (Nat.le_of_eq W46.size.symm)
  have K55 : Keep h0 h46 [] := K44.wr W46 (Or.inr sz1)
  refine own_Fin.step st46 ?_
  show own_Fin p e below s _ _ _ (T46.setTop (mkF m 32 #[.val (.ref a1)] [(.ref b1)]))
  refine own_Fin.step (fun _ => XS.dup X46.here hx rfl (hb hby d3_32) rfl rfl) ?_
  show own_Fin p e below s _ _ _ (T46.setTop (mkF m 33 #[.val (.ref a1)] [(.ref b1), (.ref b1)]))
  refine own_Fin.step (fun _ => XS.iconst X46.here hx rfl (hb hby d3_33)) ?_
  show own_Fin p e below s _ _ _ (T46.setTop (mkF m 34 #[.val (.ref a1)] [(.int (4 : Int32)), (.ref b1), (.ref b1)]))
  refine own_Fin.step (fun _ => XS.aloadN X46.here hx rfl (hb hby d3_34) rfl rfl) ?_
  show own_Fin p e below s _ _ _ (T46.setTop (mkF m 35 #[.val (.ref a1)] [(.ref a1), (.int (4 : Int32)), (.ref b1), (.ref b1)]))
  obtain ⟨T56, X56, e56, st56⟩ := getF X46 hx hZ hown (host := "") (Or.inl (own_w hw 22 rfl)) Via.refl e46 f51 (g := (mkF m 35 #[.val (.ref a1)] [(.ref a1), (.int (4 : Int32)), (.ref b1), (.ref b1)])) rfl rfl (hb hby d3_35)
  refine own_Fin.step st56 ?_
  show own_Fin p e below s _ _ _ (T56.setTop (mkF m 38 #[.val (.ref a1)] [(.int p6), (.int (4 : Int32)), (.ref b1), (.ref b1)]))
  obtain ⟨T57, h57, X57, e57, V57, W57, st57⟩ := own_stI X56 hx hZ e56 V46' (j := (4 : Int32)) ⟨by decide, by decide⟩ (4) rfl (Nat.le_of_ble_eq_true rfl) (g := (mkF m 38 #[.val (.ref a1)] [(.int p6), (.int (4 : Int32)), (.ref b1), (.ref b1)])) rfl rfl (hb hby d3_38)
  have V57' : Arv Z h57 b1 k1 .int (7 : Int32) [(.int p2), (.int p3), (.int p4), (.int p5), (.int p6), (.int (0 : Int32)), (.int (0 : Int32))] (.int (0 : Int32)) := V57
  have f58 := f47.other W57 (Or.inl ne2)
  have f59 := f48.other W57 (Or.inl ne2)
  have f60 := f49.other W57 (Or.inl ne2)
  have f61 := f50.other W57 (Or.inl ne2)
  have f62 := f51.other W57 (Or.inl ne2)
  have f63 := f52.other W57 (Or.inl ne2)
  have f64 := f53.other W57 (Or.inl ne2)
  have N57 := Fr.snoc X57 N46 ge3
  have Z57 : n0 ≤ h57.size := Nat.le_trans Z46 (Nat.le_of_eq W57.size.symm)
  have K66 : Keep h0 h57 [] := K55.wr W57 (Or.inr sz1)
  refine own_Fin.step st57 ?_
  show own_Fin p e below s _ _ _ (T57.setTop (mkF m 39 #[.val (.ref a1)] [(.ref b1)]))
  refine own_Fin.step (fun _ => XS.dup X57.here hx rfl (hb hby d3_39) rfl rfl) ?_
  show own_Fin p e below s _ _ _ (T57.setTop (mkF m 40 #[.val (.ref a1)] [(.ref b1), (.ref b1)]))
  refine own_Fin.step (fun _ => XS.iconst X57.here hx rfl (hb hby d3_40)) ?_
  show own_Fin p e below s _ _ _ (T57.setTop (mkF m 41 #[.val (.ref a1)] [(.int (5 : Int32)), (.ref b1), (.ref b1)]))
  refine own_Fin.step (fun _ => XS.aloadN X57.here hx rfl (hb hby d3_41) rfl rfl) ?_
  show own_Fin p e below s _ _ _ (T57.setTop (mkF m 42 #[.val (.ref a1)] [(.ref a1), (.int (5 : Int32)), (.ref b1), (.ref b1)]))
  obtain ⟨T67, X67, e67, st67⟩ := getF X57 hx hZ hown (host := "") (Or.inl (own_w hw 24 rfl)) Via.refl e57 f63 (g := (mkF m 42 #[.val (.ref a1)] [(.ref a1), (.int (5 : Int32)), (.ref b1), (.ref b1)])) rfl rfl (hb hby d3_42)
  refine own_Fin.step st67 ?_
  show own_Fin p e below s _ _ _ (T67.setTop (mkF m 45 #[.val (.ref a1)] [(.int p7), (.int (5 : Int32)), (.ref b1), (.ref b1)]))
  obtain ⟨T68, h68, X68, e68, V68, W68, st68⟩ := own_stI X67 hx hZ e67 V57' (j := (5 : Int32)) ⟨by decide, by decide⟩ (5) rfl (Nat.le_of_ble_eq_true rfl) (g := (mkF m 45 #[.val (.ref a1)] [(.int p7), (.int (5 : Int32)), (.ref b1), (.ref b1)])) rfl rfl (hb hby d3_45)
  have V68' : Arv Z h68 b1 k1 .int (7 : Int32) [(.int p2), (.int p3), (.int p4), (.int p5), (.int p6), (.int p7), (.int (0 : Int32))] (.int (0 : Int32)) := V68
  have f69 := f58.other W68 (Or.inl ne2)
  have f70 := f59.other W68 (Or.inl ne2)
  have f71 := f60.other W68 (Or.inl ne2)
  have f72 := f61.other W68 (Or.inl ne2)
  have f73 := f62.other W68 (Or.inl ne2)
  have f74 := f63.other W68 (Or.inl ne2)
  have f75 := f64.other W68 (Or.inl ne2)
  have N68 := Fr.snoc X68 N57 ge3
  have Z68 : n0 ≤ h68.size := Nat.le_trans Z57 (Nat.le_of_eq W68.size.symm)
  have K77 : Keep h0 h68 [] := K66.wr W68 (Or.inr sz1)
  refine own_Fin.step st68 ?_
  show own_Fin p e below s _ _ _ (T68.setTop (mkF m 46 #[.val (.ref a1)] [(.ref b1)]))
  refine own_Fin.step (fun _ => XS.dup X68.here hx rfl (hb hby d3_46) rfl rfl) ?_
  show own_Fin p e below s _ _ _ (T68.setTop (mkF m 47 #[.val (.ref a1)] [(.ref b1), (.ref b1)]))
  refine own_Fin.step (fun _ => XS.bipush X68.here hx rfl (hb hby d3_47)) ?_
  show own_Fin p e below s _ _ _ (T68.setTop (mkF m 49 #[.val (.ref a1)] [(.int (6 : Int32)), (.ref b1), (.ref b1)]))
  refine own_Fin.step (fun _ => XS.aloadN X68.here hx rfl (hb hby d3_49) rfl rfl) ?_
  show own_Fin p e below s _ _ _ (T68.setTop (mkF m 50 #[.val (.ref a1)] [(.ref a1), (.int (6 : Int32)), (.ref b1), (.ref b1)]))
  obtain ⟨T78, X78, e78, st78⟩ := getF X68 hx hZ hown (host := "") (Or.inl (own_w hw 26 rfl)) Via.refl e68 f75 (g := (mkF m 50 #[.val (.ref a1)] [(.ref a1), (.int (6 : Int32)), (.ref b1), (.ref b1)])) rfl rfl (hb hby d3_50)
  refine own_Fin.step st78 ?_
  show own_Fin p e below s _ _ _ (T78.setTop (mkF m 53 #[.val (.ref a1)] [(.int p8), (.int (6 : Int32)), (.ref b1), (.ref b1)]))
  obtain ⟨T79, h79, X79, e79, V79, W79, st79⟩ := own_stI X78 hx hZ e78 V68' (j := (6 : Int32)) ⟨by decide, by decide⟩ (6) rfl (Nat.le_of_ble_eq_true rfl) (g := (mkF m 53 #[.val (.ref a1)] [(.int p8), (.int (6 : Int32)), (.ref b1), (.ref b1)])) rfl rfl (hb hby d3_53)
  have V79' : Arv Z h79 b1 k1 .int (7 : Int32) [(.int p2), (.int p3), (.int p4), (.int p5), (.int p6), (.int p7), (.int p8)] (.int (0 : Int32)) := V79
  have f80 := f69.other W79 (Or.inl ne2)
  have f81 := f70.other W79 (Or.inl ne2)
  have f82 := f71.other W79 (Or.inl ne2)
  have f83 := f72.other W79 (Or.inl ne2)
  have f84 := f73.other W79 (Or.inl ne2)
  have f85 := f74.other W79 (Or.inl ne2)
  have f86 := f75.other W79 (Or.inl ne2)
  have N79 := Fr.snoc X79 N68 ge3
  have Z79 : n0 ≤ h79.size := Nat.le_trans Z68 (Nat.le_of_eq W79.size.symm)
  have K88 : Keep h0 h79 [] := K77.wr W79 (Or.inr sz1)
  refine own_Fin.step st79 ?_
  show own_Fin p e below s _ _ _ (T79.setTop (mkF m 54 #[.val (.ref a1)] [(.ref b1)]))
  exact own_retR X79 hx hlk rfl hret rfl (hb hby d3_54) (by rw [e79]; exact ⟨_, _, rfl, N79, K88, sz1, V79'⟩) (by decide) (by decide)
theorem pn_0 : plainFor (⟨"com/example/raw_to_screen/rawtoscreen/mapping/CalibrationIntegersPinLaw", "law", "(JJJI)Z"⟩ : MethodName) = true := plainFor_of_name (by first | (simp [plainName, overriddenIn]; done) | decide +kernel)
theorem ef_0 (m : MethodId) (x0 : Int64) (x1 : Int64) (x2 : Int64) (x3 : Int32) : entryFrame m #[(.long x0), (.long x1), (.long x2), (.int x3)] maxLocals = mkF m 0 #[.val (.long x0), .second, .val (.long x1), .second, .val (.long x2), .second, .val (.int x3), .unset, .unset, .unset, .unset, .unset, .unset, .unset, .unset, .unset, .unset, .unset, .unset] [] := by first | (simp [entryFrame, mkF, argsToLocals, Value.category, maxLocals]; done) | rfl
theorem pd_1 : parseMethodDescriptor "(IIIIIII)V" = some ⟨[.int, .int, .int, .int, .int, .int, .int], none⟩ := by decide +kernel
theorem pd_2 : parseMethodDescriptor "()[I" = some ⟨[], some (.array .int)⟩ := by decide +kernel
set_option maxRecDepth 65536 in
set_option maxHeartbeats 40000000 in
theorem rm0 (l : Launch) (Z : State) (a0 : Array Value) (hw : ∀ d ∈ tables_1, d.before a0 Z = true) (q1 : Int64) (q2 : Int64) (q3 : Int64) (p4 : Int32)  (h0 : Heap) (n0 : Nat) (Z0 : n0 ≤ h0.size)  :
    own_Met l Z tables_1 x code maxLocals ret room_1 #[(.long q1), (.long q2), (.long q3), (.int p4)] h0 (own_Q0 n0) := by
  refine own_enter pn_0 ?_
  intro p e s m below meth c s₁ X0 hx hby hml hown hret hlk hnm hZ e0
  have hml : c.maxLocals = 19 := hml
  have N0 := Fr.nil n0
  rw [ef_0 m q1 q2 q3 p4]
  show own_Fin p e below s _ _ _ (s₁.setTop (mkF m 0 #[.val (.long q1), .second, .val (.long q2), .second, .val (.long q3), .second, .val (.int p4), .unset, .unset, .unset, .unset, .unset, .unset, .unset, .unset, .unset, .unset, .unset, .unset] []))
  refine own_Fin.step (fun _ => XS.lloadN X0.here hx rfl (hb hby at_0) rfl) ?_
  show own_Fin p e below s _ _ _ (s₁.setTop (mkF m 1 #[.val (.long q1), .second, .val (.long q2), .second, .val (.long q3), .second, .val (.int p4), .unset, .unset, .unset, .unset, .unset, .unset, .unset, .unset, .unset, .unset, .unset, .unset] [(.long q1)]))
  refine own_Fin.step (fun _ => XS.bipush X0.here hx rfl (hb hby at_1)) ?_
  show own_Fin p e below s _ _ _ (s₁.setTop (mkF m 3 #[.val (.long q1), .second, .val (.long q2), .second, .val (.long q3), .second, .val (.int p4), .unset, .unset, .unset, .unset, .unset, .unset, .unset, .unset, .unset, .unset, .unset, .unset] [(.int (32 : Int32)), (.long q1)]))
  refine own_Fin.step (fun _ => XS.lushr X0.here hx rfl (hb hby at_3) rfl) ?_
  show own_Fin p e below s _ _ _ (s₁.setTop (mkF m 4 #[.val (.long q1), .second, .val (.long q2), .second, .val (.long q3), .second, .val (.int p4), .unset, .unset, .unset, .unset, .unset, .unset, .unset, .unset, .unset, .unset, .unset, .unset] [(.long ((q1.toUInt64 >>> ((32 : Int32) &&& 0x3f).toInt64.toUInt64).toInt64))]))
  refine own_Fin.step (fun _ => XS.l2i X0.here hx rfl (hb hby at_4) rfl) ?_
  show own_Fin p e below s _ _ _ (s₁.setTop (mkF m 5 #[.val (.long q1), .second, .val (.long q2), .second, .val (.long q3), .second, .val (.int p4), .unset, .unset, .unset, .unset, .unset, .unset, .unset, .unset, .unset, .unset, .unset, .unset] [(.int (((q1.toUInt64 >>> ((32 : Int32) &&& 0x3f).toInt64.toUInt64).toInt64).toInt32))]))
  generalize hva : (((q1.toUInt64 >>> ((32 : Int32) &&& 0x3f).toInt64.toUInt64).toInt64).toInt32) = va
  refine own_Fin.step (fun _ => XS.istore X0.here hx rfl (hb hby at_5) rfl (l' := #[.val (.long q1), .second, .val (.long q2), .second, .val (.long q3), .second, .val (.int p4), .val (.int va), .unset, .unset, .unset, .unset, .unset, .unset, .unset, .unset, .unset, .unset, .unset]) rfl) ?_
  show own_Fin p e below s _ _ _ (s₁.setTop (mkF m 7 #[.val (.long q1), .second, .val (.long q2), .second, .val (.long q3), .second, .val (.int p4), .val (.int va), .unset, .unset, .unset, .unset, .unset, .unset, .unset, .unset, .unset, .unset, .unset] []))
  refine own_Fin.step (fun _ => XS.lloadN X0.here hx rfl (hb hby at_7) rfl) ?_
  show own_Fin p e below s _ _ _ (s₁.setTop (mkF m 8 #[.val (.long q1), .second, .val (.long q2), .second, .val (.long q3), .second, .val (.int p4), .val (.int va), .unset, .unset, .unset, .unset, .unset, .unset, .unset, .unset, .unset, .unset, .unset] [(.long q1)]))
  refine own_Fin.step (fun _ => XS.l2i X0.here hx rfl (hb hby at_8) rfl) ?_
  show own_Fin p e below s _ _ _ (s₁.setTop (mkF m 9 #[.val (.long q1), .second, .val (.long q2), .second, .val (.long q3), .second, .val (.int p4), .val (.int va), .unset, .unset, .unset, .unset, .unset, .unset, .unset, .unset, .unset, .unset, .unset] [(.int (q1.toInt32))]))
  generalize hvb : (q1.toInt32) = vb
  refine own_Fin.step (fun _ => XS.istore X0.here hx rfl (hb hby at_9) rfl (l' := #[.val (.long q1), .second, .val (.long q2), .second, .val (.long q3), .second, .val (.int p4), .val (.int va), .val (.int vb), .unset, .unset, .unset, .unset, .unset, .unset, .unset, .unset, .unset, .unset]) rfl) ?_
  show own_Fin p e below s _ _ _ (s₁.setTop (mkF m 11 #[.val (.long q1), .second, .val (.long q2), .second, .val (.long q3), .second, .val (.int p4), .val (.int va), .val (.int vb), .unset, .unset, .unset, .unset, .unset, .unset, .unset, .unset, .unset, .unset] []))
  refine own_Fin.step (fun _ => XS.lloadN X0.here hx rfl (hb hby at_11) rfl) ?_
  show own_Fin p e below s _ _ _ (s₁.setTop (mkF m 12 #[.val (.long q1), .second, .val (.long q2), .second, .val (.long q3), .second, .val (.int p4), .val (.int va), .val (.int vb), .unset, .unset, .unset, .unset, .unset, .unset, .unset, .unset, .unset, .unset] [(.long q2)]))
  refine own_Fin.step (fun _ => XS.bipush X0.here hx rfl (hb hby at_12)) ?_
  show own_Fin p e below s _ _ _ (s₁.setTop (mkF m 14 #[.val (.long q1), .second, .val (.long q2), .second, .val (.long q3), .second, .val (.int p4), .val (.int va), .val (.int vb), .unset, .unset, .unset, .unset, .unset, .unset, .unset, .unset, .unset, .unset] [(.int (32 : Int32)), (.long q2)]))
  refine own_Fin.step (fun _ => XS.lushr X0.here hx rfl (hb hby at_14) rfl) ?_
  show own_Fin p e below s _ _ _ (s₁.setTop (mkF m 15 #[.val (.long q1), .second, .val (.long q2), .second, .val (.long q3), .second, .val (.int p4), .val (.int va), .val (.int vb), .unset, .unset, .unset, .unset, .unset, .unset, .unset, .unset, .unset, .unset] [(.long ((q2.toUInt64 >>> ((32 : Int32) &&& 0x3f).toInt64.toUInt64).toInt64))]))
  refine own_Fin.step (fun _ => XS.l2i X0.here hx rfl (hb hby at_15) rfl) ?_
  show own_Fin p e below s _ _ _ (s₁.setTop (mkF m 16 #[.val (.long q1), .second, .val (.long q2), .second, .val (.long q3), .second, .val (.int p4), .val (.int va), .val (.int vb), .unset, .unset, .unset, .unset, .unset, .unset, .unset, .unset, .unset, .unset] [(.int (((q2.toUInt64 >>> ((32 : Int32) &&& 0x3f).toInt64.toUInt64).toInt64).toInt32))]))
  generalize hvc : (((q2.toUInt64 >>> ((32 : Int32) &&& 0x3f).toInt64.toUInt64).toInt64).toInt32) = vc
  refine own_Fin.step (fun _ => XS.istore X0.here hx rfl (hb hby at_16) rfl (l' := #[.val (.long q1), .second, .val (.long q2), .second, .val (.long q3), .second, .val (.int p4), .val (.int va), .val (.int vb), .val (.int vc), .unset, .unset, .unset, .unset, .unset, .unset, .unset, .unset, .unset]) rfl) ?_
  show own_Fin p e below s _ _ _ (s₁.setTop (mkF m 18 #[.val (.long q1), .second, .val (.long q2), .second, .val (.long q3), .second, .val (.int p4), .val (.int va), .val (.int vb), .val (.int vc), .unset, .unset, .unset, .unset, .unset, .unset, .unset, .unset, .unset] []))
  refine own_Fin.step (fun _ => XS.lloadN X0.here hx rfl (hb hby at_18) rfl) ?_
  show own_Fin p e below s _ _ _ (s₁.setTop (mkF m 19 #[.val (.long q1), .second, .val (.long q2), .second, .val (.long q3), .second, .val (.int p4), .val (.int va), .val (.int vb), .val (.int vc), .unset, .unset, .unset, .unset, .unset, .unset, .unset, .unset, .unset] [(.long q2)]))
  refine own_Fin.step (fun _ => XS.l2i X0.here hx rfl (hb hby at_19) rfl) ?_
  show own_Fin p e below s _ _ _ (s₁.setTop (mkF m 20 #[.val (.long q1), .second, .val (.long q2), .second, .val (.long q3), .second, .val (.int p4), .val (.int va), .val (.int vb), .val (.int vc), .unset, .unset, .unset, .unset, .unset, .unset, .unset, .unset, .unset] [(.int (q2.toInt32))]))
  generalize hvd : (q2.toInt32) = vd
  refine own_Fin.step (fun _ => XS.istore X0.here hx rfl (hb hby at_20) rfl (l' := #[.val (.long q1), .second, .val (.long q2), .second, .val (.long q3), .second, .val (.int p4), .val (.int va), .val (.int vb), .val (.int vc), .val (.int vd), .unset, .unset, .unset, .unset, .unset, .unset, .unset, .unset]) rfl) ?_
  show own_Fin p e below s _ _ _ (s₁.setTop (mkF m 22 #[.val (.long q1), .second, .val (.long q2), .second, .val (.long q3), .second, .val (.int p4), .val (.int va), .val (.int vb), .val (.int vc), .val (.int vd), .unset, .unset, .unset, .unset, .unset, .unset, .unset, .unset] []))
  refine own_Fin.step (fun _ => XS.lload X0.here hx rfl (hb hby at_22) rfl) ?_
  show own_Fin p e below s _ _ _ (s₁.setTop (mkF m 24 #[.val (.long q1), .second, .val (.long q2), .second, .val (.long q3), .second, .val (.int p4), .val (.int va), .val (.int vb), .val (.int vc), .val (.int vd), .unset, .unset, .unset, .unset, .unset, .unset, .unset, .unset] [(.long q3)]))
  refine own_Fin.step (fun _ => XS.bipush X0.here hx rfl (hb hby at_24)) ?_
  show own_Fin p e below s _ _ _ (s₁.setTop (mkF m 26 #[.val (.long q1), .second, .val (.long q2), .second, .val (.long q3), .second, .val (.int p4), .val (.int va), .val (.int vb), .val (.int vc), .val (.int vd), .unset, .unset, .unset, .unset, .unset, .unset, .unset, .unset] [(.int (32 : Int32)), (.long q3)]))
  refine own_Fin.step (fun _ => XS.lushr X0.here hx rfl (hb hby at_26) rfl) ?_
  show own_Fin p e below s _ _ _ (s₁.setTop (mkF m 27 #[.val (.long q1), .second, .val (.long q2), .second, .val (.long q3), .second, .val (.int p4), .val (.int va), .val (.int vb), .val (.int vc), .val (.int vd), .unset, .unset, .unset, .unset, .unset, .unset, .unset, .unset] [(.long ((q3.toUInt64 >>> ((32 : Int32) &&& 0x3f).toInt64.toUInt64).toInt64))]))
  refine own_Fin.step (fun _ => XS.l2i X0.here hx rfl (hb hby at_27) rfl) ?_
  show own_Fin p e below s _ _ _ (s₁.setTop (mkF m 28 #[.val (.long q1), .second, .val (.long q2), .second, .val (.long q3), .second, .val (.int p4), .val (.int va), .val (.int vb), .val (.int vc), .val (.int vd), .unset, .unset, .unset, .unset, .unset, .unset, .unset, .unset] [(.int (((q3.toUInt64 >>> ((32 : Int32) &&& 0x3f).toInt64.toUInt64).toInt64).toInt32))]))
  generalize hve : (((q3.toUInt64 >>> ((32 : Int32) &&& 0x3f).toInt64.toUInt64).toInt64).toInt32) = ve
  refine own_Fin.step (fun _ => XS.istore X0.here hx rfl (hb hby at_28) rfl (l' := #[.val (.long q1), .second, .val (.long q2), .second, .val (.long q3), .second, .val (.int p4), .val (.int va), .val (.int vb), .val (.int vc), .val (.int vd), .val (.int ve), .unset, .unset, .unset, .unset, .unset, .unset, .unset]) rfl) ?_
  show own_Fin p e below s _ _ _ (s₁.setTop (mkF m 30 #[.val (.long q1), .second, .val (.long q2), .second, .val (.long q3), .second, .val (.int p4), .val (.int va), .val (.int vb), .val (.int vc), .val (.int vd), .val (.int ve), .unset, .unset, .unset, .unset, .unset, .unset, .unset] []))
  refine own_Fin.step (fun _ => XS.lload X0.here hx rfl (hb hby at_30) rfl) ?_
  show own_Fin p e below s _ _ _ (s₁.setTop (mkF m 32 #[.val (.long q1), .second, .val (.long q2), .second, .val (.long q3), .second, .val (.int p4), .val (.int va), .val (.int vb), .val (.int vc), .val (.int vd), .val (.int ve), .unset, .unset, .unset, .unset, .unset, .unset, .unset] [(.long q3)]))
  refine own_Fin.step (fun _ => XS.l2i X0.here hx rfl (hb hby at_32) rfl) ?_
  show own_Fin p e below s _ _ _ (s₁.setTop (mkF m 33 #[.val (.long q1), .second, .val (.long q2), .second, .val (.long q3), .second, .val (.int p4), .val (.int va), .val (.int vb), .val (.int vc), .val (.int vd), .val (.int ve), .unset, .unset, .unset, .unset, .unset, .unset, .unset] [(.int (q3.toInt32))]))
  generalize hvf : (q3.toInt32) = vf
  refine own_Fin.step (fun _ => XS.istore X0.here hx rfl (hb hby at_33) rfl (l' := #[.val (.long q1), .second, .val (.long q2), .second, .val (.long q3), .second, .val (.int p4), .val (.int va), .val (.int vb), .val (.int vc), .val (.int vd), .val (.int ve), .val (.int vf), .unset, .unset, .unset, .unset, .unset, .unset]) rfl) ?_
  show own_Fin p e below s _ _ _ (s₁.setTop (mkF m 35 #[.val (.long q1), .second, .val (.long q2), .second, .val (.long q3), .second, .val (.int p4), .val (.int va), .val (.int vb), .val (.int vc), .val (.int vd), .val (.int ve), .val (.int vf), .unset, .unset, .unset, .unset, .unset, .unset] []))
  refine own_Fin.step (fun _ => XS.iload X0.here hx rfl (hb hby at_35) rfl) ?_
  show own_Fin p e below s _ _ _ (s₁.setTop (mkF m 37 #[.val (.long q1), .second, .val (.long q2), .second, .val (.long q3), .second, .val (.int p4), .val (.int va), .val (.int vb), .val (.int vc), .val (.int vd), .val (.int ve), .val (.int vf), .unset, .unset, .unset, .unset, .unset, .unset] [(.int p4)]))
  have st2 : ∀ t, Steps p.tables e below (s₁.setTop (mkF m 46 #[.val (.long q1), .second, .val (.long q2), .second, .val (.long q3), .second, .val (.int p4), .val (.int va), .val (.int vb), .val (.int vc), .val (.int vd), .val (.int ve), .val (.int vf), .unset, .unset, .unset, .unset, .unset, .unset] [(.int (if p4 = (0 : Int32) then (1 : Int32) else p4))])) t → Steps p.tables e below (s₁.setTop (mkF m 37 #[.val (.long q1), .second, .val (.long q2), .second, .val (.long q3), .second, .val (.int p4), .val (.int va), .val (.int vb), .val (.int vc), .val (.int vd), .val (.int ve), .val (.int vf), .unset, .unset, .unset, .unset, .unset, .unset] [(.int p4)])) t := by
    intro t kt
    by_cases hc37_1 : p4 = (0 : Int32)
    · simp only [if_pos hc37_1] at kt
      refine XS.ifNo X0.here hx rfl (hb hby at_37) rfl (XT.i0_ne_f hc37_1) ?_
      show Steps p.tables e below (s₁.setTop (mkF m 40 #[.val (.long q1), .second, .val (.long q2), .second, .val (.long q3), .second, .val (.int p4), .val (.int va), .val (.int vb), .val (.int vc), .val (.int vd), .val (.int ve), .val (.int vf), .unset, .unset, .unset, .unset, .unset, .unset] [])) _
      refine XS.iconst X0.here hx rfl (hb hby at_40) ?_
      show Steps p.tables e below (s₁.setTop (mkF m 41 #[.val (.long q1), .second, .val (.long q2), .second, .val (.long q3), .second, .val (.int p4), .val (.int va), .val (.int vb), .val (.int vc), .val (.int vd), .val (.int ve), .val (.int vf), .unset, .unset, .unset, .unset, .unset, .unset] [(.int (1 : Int32))])) _
      refine XS.goto X0.here hx rfl (pc0 := 41) (pc' := 46) rfl (hb hby at_41) (by decide) (by decide) ?_
      exact kt
    · simp only [if_neg hc37_1] at kt
      refine XS.ifYes X0.here hx rfl (pc0 := 37) (pc' := 44) rfl (hb hby at_37) rfl (XT.i0_ne_t hc37_1) (by decide) (by decide) ?_
      show Steps p.tables e below (s₁.setTop (mkF m 44 #[.val (.long q1), .second, .val (.long q2), .second, .val (.long q3), .second, .val (.int p4), .val (.int va), .val (.int vb), .val (.int vc), .val (.int vd), .val (.int ve), .val (.int vf), .unset, .unset, .unset, .unset, .unset, .unset] [])) _
      refine XS.iload X0.here hx rfl (hb hby at_44) rfl ?_
      exact kt
  refine own_Fin.step st2 ?_
  show own_Fin p e below s _ _ _ (s₁.setTop (mkF m 46 #[.val (.long q1), .second, .val (.long q2), .second, .val (.long q3), .second, .val (.int p4), .val (.int va), .val (.int vb), .val (.int vc), .val (.int vd), .val (.int ve), .val (.int vf), .unset, .unset, .unset, .unset, .unset, .unset] [(.int (if p4 = (0 : Int32) then (1 : Int32) else p4))]))
  generalize hsv0 : (if p4 = (0 : Int32) then (1 : Int32) else p4) = sv
  have hsv : ¬ sv = 0 := hsv0 ▸ own_s0 p4
  refine own_Fin.step (fun _ => XS.istore X0.here hx rfl (hb hby at_46) rfl (l' := #[.val (.long q1), .second, .val (.long q2), .second, .val (.long q3), .second, .val (.int p4), .val (.int va), .val (.int vb), .val (.int vc), .val (.int vd), .val (.int ve), .val (.int vf), .val (.int sv), .unset, .unset, .unset, .unset, .unset]) rfl) ?_
  show own_Fin p e below s _ _ _ (s₁.setTop (mkF m 48 #[.val (.long q1), .second, .val (.long q2), .second, .val (.long q3), .second, .val (.int p4), .val (.int va), .val (.int vb), .val (.int vc), .val (.int vd), .val (.int ve), .val (.int vf), .val (.int sv), .unset, .unset, .unset, .unset, .unset] []))
  obtain ⟨T3, h3, X3, e3, E3, A3, D3, -, st3⟩ := newO X0 hx hZ hown (own_w hw 0 rfl) (own_w hw 1 rfl) (own_w hw 2 rfl) e0 (g := (mkF m 48 #[.val (.long q1), .second, .val (.long q2), .second, .val (.long q3), .second, .val (.int p4), .val (.int va), .val (.int vb), .val (.int vc), .val (.int vd), .val (.int ve), .val (.int vf), .val (.int sv), .unset, .unset, .unset, .unset, .unset] [])) rfl (hb hby at_48) (by decide) (by decide)
  obtain ⟨b3, g3⟩ : ∃ z, z = h0.size := ⟨_, rfl⟩
  rw [← g3] at A3 D3 st3
  have ge4 : n0 ≤ b3 := Nat.le_trans Z0 (Nat.le_of_eq g3.symm)
  have Z3 : n0 ≤ h3.size := Nat.le_trans Z0 E3.1
  have F3_a : Fld Z h3 b3 "com/example/raw_to_screen/rawtoscreen/mapping/Calibration" "a" "I" (.int (0 : Int32)) := D3 (Or.inr (own_w hw 15 rfl)) (ty := .int) (by decide)
  have F3_b : Fld Z h3 b3 "com/example/raw_to_screen/rawtoscreen/mapping/Calibration" "b" "I" (.int (0 : Int32)) := D3 (Or.inr (own_w hw 17 rfl)) (ty := .int) (by decide)
  have F3_c : Fld Z h3 b3 "com/example/raw_to_screen/rawtoscreen/mapping/Calibration" "c" "I" (.int (0 : Int32)) := D3 (Or.inr (own_w hw 19 rfl)) (ty := .int) (by decide)
  have F3_d : Fld Z h3 b3 "com/example/raw_to_screen/rawtoscreen/mapping/Calibration" "d" "I" (.int (0 : Int32)) := D3 (Or.inr (own_w hw 21 rfl)) (ty := .int) (by decide)
  have F3_e : Fld Z h3 b3 "com/example/raw_to_screen/rawtoscreen/mapping/Calibration" "e" "I" (.int (0 : Int32)) := D3 (Or.inr (own_w hw 23 rfl)) (ty := .int) (by decide)
  have F3_f : Fld Z h3 b3 "com/example/raw_to_screen/rawtoscreen/mapping/Calibration" "f" "I" (.int (0 : Int32)) := D3 (Or.inr (own_w hw 25 rfl)) (ty := .int) (by decide)
  have F3_s : Fld Z h3 b3 "com/example/raw_to_screen/rawtoscreen/mapping/Calibration" "s" "I" (.int (0 : Int32)) := D3 (Or.inr (own_w hw 27 rfl)) (ty := .int) (by decide)
  refine own_Fin.step st3 ?_
  show own_Fin p e below s _ _ _ (T3.setTop (mkF m 51 #[.val (.long q1), .second, .val (.long q2), .second, .val (.long q3), .second, .val (.int p4), .val (.int va), .val (.int vb), .val (.int vc), .val (.int vd), .val (.int ve), .val (.int vf), .val (.int sv), .unset, .unset, .unset, .unset, .unset] [(.ref b3)]))
  refine own_Fin.step (fun _ => XS.dup X3.here hx rfl (hb hby at_51) rfl rfl) ?_
  show own_Fin p e below s _ _ _ (T3.setTop (mkF m 52 #[.val (.long q1), .second, .val (.long q2), .second, .val (.long q3), .second, .val (.int p4), .val (.int va), .val (.int vb), .val (.int vc), .val (.int vd), .val (.int ve), .val (.int vf), .val (.int sv), .unset, .unset, .unset, .unset, .unset] [(.ref b3), (.ref b3)]))
  refine own_Fin.step (fun _ => XS.iload X3.here hx rfl (hb hby at_52) rfl) ?_
  show own_Fin p e below s _ _ _ (T3.setTop (mkF m 54 #[.val (.long q1), .second, .val (.long q2), .second, .val (.long q3), .second, .val (.int p4), .val (.int va), .val (.int vb), .val (.int vc), .val (.int vd), .val (.int ve), .val (.int vf), .val (.int sv), .unset, .unset, .unset, .unset, .unset] [(.int va), (.ref b3), (.ref b3)]))
  refine own_Fin.step (fun _ => XS.iload X3.here hx rfl (hb hby at_54) rfl) ?_
  show own_Fin p e below s _ _ _ (T3.setTop (mkF m 56 #[.val (.long q1), .second, .val (.long q2), .second, .val (.long q3), .second, .val (.int p4), .val (.int va), .val (.int vb), .val (.int vc), .val (.int vd), .val (.int ve), .val (.int vf), .val (.int sv), .unset, .unset, .unset, .unset, .unset] [(.int vb), (.int va), (.ref b3), (.ref b3)]))
  refine own_Fin.step (fun _ => XS.iload X3.here hx rfl (hb hby at_56) rfl) ?_
  show own_Fin p e below s _ _ _ (T3.setTop (mkF m 58 #[.val (.long q1), .second, .val (.long q2), .second, .val (.long q3), .second, .val (.int p4), .val (.int va), .val (.int vb), .val (.int vc), .val (.int vd), .val (.int ve), .val (.int vf), .val (.int sv), .unset, .unset, .unset, .unset, .unset] [(.int vc), (.int vb), (.int va), (.ref b3), (.ref b3)]))
  refine own_Fin.step (fun _ => XS.iload X3.here hx rfl (hb hby at_58) rfl) ?_
  show own_Fin p e below s _ _ _ (T3.setTop (mkF m 60 #[.val (.long q1), .second, .val (.long q2), .second, .val (.long q3), .second, .val (.int p4), .val (.int va), .val (.int vb), .val (.int vc), .val (.int vd), .val (.int ve), .val (.int vf), .val (.int sv), .unset, .unset, .unset, .unset, .unset] [(.int vd), (.int vc), (.int vb), (.int va), (.ref b3), (.ref b3)]))
  refine own_Fin.step (fun _ => XS.iload X3.here hx rfl (hb hby at_60) rfl) ?_
  show own_Fin p e below s _ _ _ (T3.setTop (mkF m 62 #[.val (.long q1), .second, .val (.long q2), .second, .val (.long q3), .second, .val (.int p4), .val (.int va), .val (.int vb), .val (.int vc), .val (.int vd), .val (.int ve), .val (.int vf), .val (.int sv), .unset, .unset, .unset, .unset, .unset] [(.int ve), (.int vd), (.int vc), (.int vb), (.int va), (.ref b3), (.ref b3)]))
  refine own_Fin.step (fun _ => XS.iload X3.here hx rfl (hb hby at_62) rfl) ?_
  show own_Fin p e below s _ _ _ (T3.setTop (mkF m 64 #[.val (.long q1), .second, .val (.long q2), .second, .val (.long q3), .second, .val (.int p4), .val (.int va), .val (.int vb), .val (.int vc), .val (.int vd), .val (.int ve), .val (.int vf), .val (.int sv), .unset, .unset, .unset, .unset, .unset] [(.int vf), (.int ve), (.int vd), (.int vc), (.int vb), (.int va), (.ref b3), (.ref b3)]))
  refine own_Fin.step (fun _ => XS.iload X3.here hx rfl (hb hby at_64) rfl) ?_
  show own_Fin p e below s _ _ _ (T3.setTop (mkF m 66 #[.val (.long q1), .second, .val (.long q2), .second, .val (.long q3), .second, .val (.int p4), .val (.int va), .val (.int vb), .val (.int vc), .val (.int vd), .val (.int ve), .val (.int vf), .val (.int sv), .unset, .unset, .unset, .unset, .unset] [(.int sv), (.int vf), (.int ve), (.int vd), (.int vc), (.int vb), (.int va), (.ref b3), (.ref b3)]))
  obtain ⟨_, T5, L5, X5, ⟨rfl, N5q, K5, A5, Fa5, Fb5, Fc5, Fd5, Fe5, Ff5, Fs5⟩, st5⟩ := own_callN X3 hx hZ rfl hown (own_w hw 3 rfl) (own_w hw 4 rfl) (own_w hw 2 rfl) (own_w hw 5 rfl) (by decide) (rm2 l Z a0 hw b3 va vb vc vd ve vf sv h3 n0 Z3 hsv ge4 A3 F3_a F3_b F3_c F3_d F3_e F3_f F3_s) (by decide) (by decide) (a := b3) e3 (W := 1) (g := (mkF m 66 #[.val (.long q1), .second, .val (.long q2), .second, .val (.long q3), .second, .val (.int p4), .val (.int va), .val (.int vb), .val (.int vc), .val (.int vd), .val (.int ve), .val (.int vf), .val (.int sv), .unset, .unset, .unset, .unset, .unset] [(.int sv), (.int vf), (.int ve), (.int vd), (.int vc), (.int vb), (.int va), (.ref b3), (.ref b3)])) rfl (by rw [hml]; rfl) (argsL := [(.int va), (.int vb), (.int vc), (.int vd), (.int ve), (.int vf), (.int sv)]) (rest := [(.ref b3)]) (lenOf pd_1 rfl) rfl rfl (by show 2 * 0 + _ ≤ _; exact Nat.le_of_eq rfl) (hb hby at_66) (by decide) (by decide)
  have N5 := Fr.app N0 N5q
  have f6 := A3.keep K5
  have Z5 : n0 ≤ T5.heap.size := Nat.le_trans Z3 K5.1
  refine own_Fin.step st5 ?_
  show own_Fin p e below s _ _ _ (T5.setTop (mkF m 69 #[.val (.long q1), .second, .val (.long q2), .second, .val (.long q3), .second, .val (.int p4), .val (.int va), .val (.int vb), .val (.int vc), .val (.int vd), .val (.int ve), .val (.int vf), .val (.int sv), .unset, .unset, .unset, .unset, .unset] [(.ref b3)]))
  refine own_Fin.step (fun _ => XS.astore X5.here hx rfl (hb hby at_69) rfl rfl (l' := #[.val (.long q1), .second, .val (.long q2), .second, .val (.long q3), .second, .val (.int p4), .val (.int va), .val (.int vb), .val (.int vc), .val (.int vd), .val (.int ve), .val (.int vf), .val (.int sv), .val (.ref b3), .unset, .unset, .unset, .unset]) rfl) ?_
  show own_Fin p e below s _ _ _ (T5.setTop (mkF m 71 #[.val (.long q1), .second, .val (.long q2), .second, .val (.long q3), .second, .val (.int p4), .val (.int va), .val (.int vb), .val (.int vc), .val (.int vd), .val (.int ve), .val (.int vf), .val (.int sv), .val (.ref b3), .unset, .unset, .unset, .unset] []))
  refine own_Fin.step (fun _ => XS.aload X5.here hx rfl (hb hby at_71) rfl rfl) ?_
  show own_Fin p e below s _ _ _ (T5.setTop (mkF m 73 #[.val (.long q1), .second, .val (.long q2), .second, .val (.long q3), .second, .val (.int p4), .val (.int va), .val (.int vb), .val (.int vc), .val (.int vd), .val (.int ve), .val (.int vf), .val (.int sv), .val (.ref b3), .unset, .unset, .unset, .unset] [(.ref b3)]))
  obtain ⟨_, T14, L14, X14, ⟨r14, kk14, rfl, N14q, K14, sz14, V14⟩, st14⟩ := own_callV X5 hx hZ hown (own_w hw 28 rfl) (own_w hw 29 rfl) (own_w hw 31 rfl) (own_w hw 30 rfl) (own_w hw 2 rfl) (own_w hw 32 rfl) (by decide) (rm3 l Z a0 hw b3 va vb vc vd ve vf sv T5.heap n0 Z5 Fa5 Fb5 Fc5 Fd5 Fe5 Ff5 Fs5) (by decide) (by decide) A5 rfl (W := 0) (g := (mkF m 73 #[.val (.long q1), .second, .val (.long q2), .second, .val (.long q3), .second, .val (.int p4), .val (.int va), .val (.int vb), .val (.int vc), .val (.int vd), .val (.int ve), .val (.int vf), .val (.int sv), .val (.ref b3), .unset, .unset, .unset, .unset] [(.ref b3)])) rfl (by rw [hml]; rfl) (argsL := []) (rest := []) (lenOf pd_2 rfl) rfl rfl (by show 2 * 0 + _ ≤ _; exact Nat.le_of_eq rfl) (hb hby at_73) (by decide) (by decide)
  have N14 := Fr.app N5 N14q
  have ne15 : b3 ≠ r14 := Nat.ne_of_lt (Nat.lt_of_lt_of_le A5.lt sz14)
  have ge16 : n0 ≤ r14 := Nat.le_trans Z5 sz14
  have f17 := A5.keep K14
  have f18 := Fa5.keep K14 nin0
  have f19 := Fb5.keep K14 nin0
  have f20 := Fc5.keep K14 nin0
  have f21 := Fd5.keep K14 nin0
  have f22 := Fe5.keep K14 nin0
  have f23 := Ff5.keep K14 nin0
  have f24 := Fs5.keep K14 nin0
  have Z14 : n0 ≤ T14.heap.size := Nat.le_trans Z5 K14.1
  refine own_Fin.step st14 ?_
  show own_Fin p e below s _ _ _ (T14.setTop (mkF m 76 #[.val (.long q1), .second, .val (.long q2), .second, .val (.long q3), .second, .val (.int p4), .val (.int va), .val (.int vb), .val (.int vc), .val (.int vd), .val (.int ve), .val (.int vf), .val (.int sv), .val (.ref b3), .unset, .unset, .unset, .unset] [(.ref r14)]))
  refine own_Fin.step (fun _ => XS.astore X14.here hx rfl (hb hby at_76) rfl rfl (l' := #[.val (.long q1), .second, .val (.long q2), .second, .val (.long q3), .second, .val (.int p4), .val (.int va), .val (.int vb), .val (.int vc), .val (.int vd), .val (.int ve), .val (.int vf), .val (.int sv), .val (.ref b3), .val (.ref r14), .unset, .unset, .unset]) rfl) ?_
  show own_Fin p e below s _ _ _ (T14.setTop (mkF m 78 #[.val (.long q1), .second, .val (.long q2), .second, .val (.long q3), .second, .val (.int p4), .val (.int va), .val (.int vb), .val (.int vc), .val (.int vd), .val (.int ve), .val (.int vf), .val (.int sv), .val (.ref b3), .val (.ref r14), .unset, .unset, .unset] []))
  refine own_Fin.step (fun _ => XS.aload X14.here hx rfl (hb hby at_78) rfl rfl) ?_
  show own_Fin p e below s _ _ _ (T14.setTop (mkF m 80 #[.val (.long q1), .second, .val (.long q2), .second, .val (.long q3), .second, .val (.int p4), .val (.int va), .val (.int vb), .val (.int vc), .val (.int vd), .val (.int ve), .val (.int vf), .val (.int sv), .val (.ref b3), .val (.ref r14), .unset, .unset, .unset] [(.ref r14)]))
  refine own_Fin.step (fun _ => XS.ifnullNo X14.here hx rfl (hb hby at_80) rfl) ?_
  show own_Fin p e below s _ _ _ (T14.setTop (mkF m 83 #[.val (.long q1), .second, .val (.long q2), .second, .val (.long q3), .second, .val (.int p4), .val (.int va), .val (.int vb), .val (.int vc), .val (.int vd), .val (.int ve), .val (.int vf), .val (.int sv), .val (.ref b3), .val (.ref r14), .unset, .unset, .unset] []))
  refine own_Fin.step (fun _ => XS.aload X14.here hx rfl (hb hby at_83) rfl rfl) ?_
  show own_Fin p e below s _ _ _ (T14.setTop (mkF m 85 #[.val (.long q1), .second, .val (.long q2), .second, .val (.long q3), .second, .val (.int p4), .val (.int va), .val (.int vb), .val (.int vc), .val (.int vd), .val (.int ve), .val (.int vf), .val (.int sv), .val (.ref b3), .val (.ref r14), .unset, .unset, .unset] [(.ref r14)]))
  refine own_Fin.step (own_len X14 hx hZ rfl V14 (g := (mkF m 85 #[.val (.long q1), .second, .val (.long q2), .second, .val (.long q3), .second, .val (.int p4), .val (.int va), .val (.int vb), .val (.int vc), .val (.int vd), .val (.int ve), .val (.int vf), .val (.int sv), .val (.ref b3), .val (.ref r14), .unset, .unset, .unset] [(.ref r14)])) rfl rfl (hb hby at_85)) ?_
  show own_Fin p e below s _ _ _ (T14.setTop (mkF m 86 #[.val (.long q1), .second, .val (.long q2), .second, .val (.long q3), .second, .val (.int p4), .val (.int va), .val (.int vb), .val (.int vc), .val (.int vd), .val (.int ve), .val (.int vf), .val (.int sv), .val (.ref b3), .val (.ref r14), .unset, .unset, .unset] [(.int (7 : Int32))]))
  refine own_Fin.step (fun _ => XS.bipush X14.here hx rfl (hb hby at_86)) ?_
  show own_Fin p e below s _ _ _ (T14.setTop (mkF m 88 #[.val (.long q1), .second, .val (.long q2), .second, .val (.long q3), .second, .val (.int p4), .val (.int va), .val (.int vb), .val (.int vc), .val (.int vd), .val (.int ve), .val (.int vf), .val (.int sv), .val (.ref b3), .val (.ref r14), .unset, .unset, .unset] [(.int (7 : Int32)), (.int (7 : Int32))]))
  refine own_Fin.step (fun _ => XS.icmpYes X14.here hx rfl (pc0 := 88) (pc' := 93) rfl (hb hby at_88) rfl (XT.ii_eq_t (by decide : (7 : Int32) = (7 : Int32))) (by decide) (by decide)) ?_
  show own_Fin p e below s _ _ _ (T14.setTop (mkF m 93 #[.val (.long q1), .second, .val (.long q2), .second, .val (.long q3), .second, .val (.int p4), .val (.int va), .val (.int vb), .val (.int vc), .val (.int vd), .val (.int ve), .val (.int vf), .val (.int sv), .val (.ref b3), .val (.ref r14), .unset, .unset, .unset] []))
  refine own_Fin.step (fun _ => XS.aload X14.here hx rfl (hb hby at_93) rfl rfl) ?_
  show own_Fin p e below s _ _ _ (T14.setTop (mkF m 95 #[.val (.long q1), .second, .val (.long q2), .second, .val (.long q3), .second, .val (.int p4), .val (.int va), .val (.int vb), .val (.int vc), .val (.int vd), .val (.int ve), .val (.int vf), .val (.int sv), .val (.ref b3), .val (.ref r14), .unset, .unset, .unset] [(.ref r14)]))
  refine own_Fin.step (fun _ => XS.iconst X14.here hx rfl (hb hby at_95)) ?_
  show own_Fin p e below s _ _ _ (T14.setTop (mkF m 96 #[.val (.long q1), .second, .val (.long q2), .second, .val (.long q3), .second, .val (.int p4), .val (.int va), .val (.int vb), .val (.int vc), .val (.int vd), .val (.int ve), .val (.int vf), .val (.int sv), .val (.ref b3), .val (.ref r14), .unset, .unset, .unset] [(.int (0 : Int32)), (.ref r14)]))
  refine own_Fin.step (own_ldI X14 hx hZ rfl V14 (j := (0 : Int32)) (v := (.int va)) ⟨by decide, by decide⟩ rfl (g := (mkF m 96 #[.val (.long q1), .second, .val (.long q2), .second, .val (.long q3), .second, .val (.int p4), .val (.int va), .val (.int vb), .val (.int vc), .val (.int vd), .val (.int ve), .val (.int vf), .val (.int sv), .val (.ref b3), .val (.ref r14), .unset, .unset, .unset] [(.int (0 : Int32)), (.ref r14)])) rfl rfl (hb hby at_96)) ?_
  show own_Fin p e below s _ _ _ (T14.setTop (mkF m 97 #[.val (.long q1), .second, .val (.long q2), .second, .val (.long q3), .second, .val (.int p4), .val (.int va), .val (.int vb), .val (.int vc), .val (.int vd), .val (.int ve), .val (.int vf), .val (.int sv), .val (.ref b3), .val (.ref r14), .unset, .unset, .unset] [(.int va)]))
  refine own_Fin.step (fun _ => XS.iload X14.here hx rfl (hb hby at_97) rfl) ?_
  show own_Fin p e below s _ _ _ (T14.setTop (mkF m 99 #[.val (.long q1), .second, .val (.long q2), .second, .val (.long q3), .second, .val (.int p4), .val (.int va), .val (.int vb), .val (.int vc), .val (.int vd), .val (.int ve), .val (.int vf), .val (.int sv), .val (.ref b3), .val (.ref r14), .unset, .unset, .unset] [(.int va), (.int va)]))
  refine own_Fin.step (fun _ => XS.icmpNo X14.here hx rfl (hb hby at_99) rfl (XT.ii_ne_f (rfl : va = va))) ?_
  show own_Fin p e below s _ _ _ (T14.setTop (mkF m 102 #[.val (.long q1), .second, .val (.long q2), .second, .val (.long q3), .second, .val (.int p4), .val (.int va), .val (.int vb), .val (.int vc), .val (.int vd), .val (.int ve), .val (.int vf), .val (.int sv), .val (.ref b3), .val (.ref r14), .unset, .unset, .unset] []))
  refine own_Fin.step (fun _ => XS.aload X14.here hx rfl (hb hby at_102) rfl rfl) ?_
  show own_Fin p e below s _ _ _ (T14.setTop (mkF m 104 #[.val (.long q1), .second, .val (.long q2), .second, .val (.long q3), .second, .val (.int p4), .val (.int va), .val (.int vb), .val (.int vc), .val (.int vd), .val (.int ve), .val (.int vf), .val (.int sv), .val (.ref b3), .val (.ref r14), .unset, .unset, .unset] [(.ref r14)]))
  refine own_Fin.step (fun _ => XS.iconst X14.here hx rfl (hb hby at_104)) ?_
  show own_Fin p e below s _ _ _ (T14.setTop (mkF m 105 #[.val (.long q1), .second, .val (.long q2), .second, .val (.long q3), .second, .val (.int p4), .val (.int va), .val (.int vb), .val (.int vc), .val (.int vd), .val (.int ve), .val (.int vf), .val (.int sv), .val (.ref b3), .val (.ref r14), .unset, .unset, .unset] [(.int (1 : Int32)), (.ref r14)]))
  refine own_Fin.step (own_ldI X14 hx hZ rfl V14 (j := (1 : Int32)) (v := (.int vb)) ⟨by decide, by decide⟩ rfl (g := (mkF m 105 #[.val (.long q1), .second, .val (.long q2), .second, .val (.long q3), .second, .val (.int p4), .val (.int va), .val (.int vb), .val (.int vc), .val (.int vd), .val (.int ve), .val (.int vf), .val (.int sv), .val (.ref b3), .val (.ref r14), .unset, .unset, .unset] [(.int (1 : Int32)), (.ref r14)])) rfl rfl (hb hby at_105)) ?_
  show own_Fin p e below s _ _ _ (T14.setTop (mkF m 106 #[.val (.long q1), .second, .val (.long q2), .second, .val (.long q3), .second, .val (.int p4), .val (.int va), .val (.int vb), .val (.int vc), .val (.int vd), .val (.int ve), .val (.int vf), .val (.int sv), .val (.ref b3), .val (.ref r14), .unset, .unset, .unset] [(.int vb)]))
  refine own_Fin.step (fun _ => XS.iload X14.here hx rfl (hb hby at_106) rfl) ?_
  show own_Fin p e below s _ _ _ (T14.setTop (mkF m 108 #[.val (.long q1), .second, .val (.long q2), .second, .val (.long q3), .second, .val (.int p4), .val (.int va), .val (.int vb), .val (.int vc), .val (.int vd), .val (.int ve), .val (.int vf), .val (.int sv), .val (.ref b3), .val (.ref r14), .unset, .unset, .unset] [(.int vb), (.int vb)]))
  refine own_Fin.step (fun _ => XS.icmpNo X14.here hx rfl (hb hby at_108) rfl (XT.ii_ne_f (rfl : vb = vb))) ?_
  show own_Fin p e below s _ _ _ (T14.setTop (mkF m 111 #[.val (.long q1), .second, .val (.long q2), .second, .val (.long q3), .second, .val (.int p4), .val (.int va), .val (.int vb), .val (.int vc), .val (.int vd), .val (.int ve), .val (.int vf), .val (.int sv), .val (.ref b3), .val (.ref r14), .unset, .unset, .unset] []))
  refine own_Fin.step (fun _ => XS.aload X14.here hx rfl (hb hby at_111) rfl rfl) ?_
  show own_Fin p e below s _ _ _ (T14.setTop (mkF m 113 #[.val (.long q1), .second, .val (.long q2), .second, .val (.long q3), .second, .val (.int p4), .val (.int va), .val (.int vb), .val (.int vc), .val (.int vd), .val (.int ve), .val (.int vf), .val (.int sv), .val (.ref b3), .val (.ref r14), .unset, .unset, .unset] [(.ref r14)]))
  refine own_Fin.step (fun _ => XS.iconst X14.here hx rfl (hb hby at_113)) ?_
  show own_Fin p e below s _ _ _ (T14.setTop (mkF m 114 #[.val (.long q1), .second, .val (.long q2), .second, .val (.long q3), .second, .val (.int p4), .val (.int va), .val (.int vb), .val (.int vc), .val (.int vd), .val (.int ve), .val (.int vf), .val (.int sv), .val (.ref b3), .val (.ref r14), .unset, .unset, .unset] [(.int (2 : Int32)), (.ref r14)]))
  refine own_Fin.step (own_ldI X14 hx hZ rfl V14 (j := (2 : Int32)) (v := (.int vc)) ⟨by decide, by decide⟩ rfl (g := (mkF m 114 #[.val (.long q1), .second, .val (.long q2), .second, .val (.long q3), .second, .val (.int p4), .val (.int va), .val (.int vb), .val (.int vc), .val (.int vd), .val (.int ve), .val (.int vf), .val (.int sv), .val (.ref b3), .val (.ref r14), .unset, .unset, .unset] [(.int (2 : Int32)), (.ref r14)])) rfl rfl (hb hby at_114)) ?_
  show own_Fin p e below s _ _ _ (T14.setTop (mkF m 115 #[.val (.long q1), .second, .val (.long q2), .second, .val (.long q3), .second, .val (.int p4), .val (.int va), .val (.int vb), .val (.int vc), .val (.int vd), .val (.int ve), .val (.int vf), .val (.int sv), .val (.ref b3), .val (.ref r14), .unset, .unset, .unset] [(.int vc)]))
  refine own_Fin.step (fun _ => XS.iload X14.here hx rfl (hb hby at_115) rfl) ?_
  show own_Fin p e below s _ _ _ (T14.setTop (mkF m 117 #[.val (.long q1), .second, .val (.long q2), .second, .val (.long q3), .second, .val (.int p4), .val (.int va), .val (.int vb), .val (.int vc), .val (.int vd), .val (.int ve), .val (.int vf), .val (.int sv), .val (.ref b3), .val (.ref r14), .unset, .unset, .unset] [(.int vc), (.int vc)]))
  refine own_Fin.step (fun _ => XS.icmpNo X14.here hx rfl (hb hby at_117) rfl (XT.ii_ne_f (rfl : vc = vc))) ?_
  show own_Fin p e below s _ _ _ (T14.setTop (mkF m 120 #[.val (.long q1), .second, .val (.long q2), .second, .val (.long q3), .second, .val (.int p4), .val (.int va), .val (.int vb), .val (.int vc), .val (.int vd), .val (.int ve), .val (.int vf), .val (.int sv), .val (.ref b3), .val (.ref r14), .unset, .unset, .unset] []))
  refine own_Fin.step (fun _ => XS.aload X14.here hx rfl (hb hby at_120) rfl rfl) ?_
  show own_Fin p e below s _ _ _ (T14.setTop (mkF m 122 #[.val (.long q1), .second, .val (.long q2), .second, .val (.long q3), .second, .val (.int p4), .val (.int va), .val (.int vb), .val (.int vc), .val (.int vd), .val (.int ve), .val (.int vf), .val (.int sv), .val (.ref b3), .val (.ref r14), .unset, .unset, .unset] [(.ref r14)]))
  refine own_Fin.step (fun _ => XS.iconst X14.here hx rfl (hb hby at_122)) ?_
  show own_Fin p e below s _ _ _ (T14.setTop (mkF m 123 #[.val (.long q1), .second, .val (.long q2), .second, .val (.long q3), .second, .val (.int p4), .val (.int va), .val (.int vb), .val (.int vc), .val (.int vd), .val (.int ve), .val (.int vf), .val (.int sv), .val (.ref b3), .val (.ref r14), .unset, .unset, .unset] [(.int (3 : Int32)), (.ref r14)]))
  refine own_Fin.step (own_ldI X14 hx hZ rfl V14 (j := (3 : Int32)) (v := (.int vd)) ⟨by decide, by decide⟩ rfl (g := (mkF m 123 #[.val (.long q1), .second, .val (.long q2), .second, .val (.long q3), .second, .val (.int p4), .val (.int va), .val (.int vb), .val (.int vc), .val (.int vd), .val (.int ve), .val (.int vf), .val (.int sv), .val (.ref b3), .val (.ref r14), .unset, .unset, .unset] [(.int (3 : Int32)), (.ref r14)])) rfl rfl (hb hby at_123)) ?_
  show own_Fin p e below s _ _ _ (T14.setTop (mkF m 124 #[.val (.long q1), .second, .val (.long q2), .second, .val (.long q3), .second, .val (.int p4), .val (.int va), .val (.int vb), .val (.int vc), .val (.int vd), .val (.int ve), .val (.int vf), .val (.int sv), .val (.ref b3), .val (.ref r14), .unset, .unset, .unset] [(.int vd)]))
  refine own_Fin.step (fun _ => XS.iload X14.here hx rfl (hb hby at_124) rfl) ?_
  show own_Fin p e below s _ _ _ (T14.setTop (mkF m 126 #[.val (.long q1), .second, .val (.long q2), .second, .val (.long q3), .second, .val (.int p4), .val (.int va), .val (.int vb), .val (.int vc), .val (.int vd), .val (.int ve), .val (.int vf), .val (.int sv), .val (.ref b3), .val (.ref r14), .unset, .unset, .unset] [(.int vd), (.int vd)]))
  refine own_Fin.step (fun _ => XS.icmpNo X14.here hx rfl (hb hby at_126) rfl (XT.ii_ne_f (rfl : vd = vd))) ?_
  show own_Fin p e below s _ _ _ (T14.setTop (mkF m 129 #[.val (.long q1), .second, .val (.long q2), .second, .val (.long q3), .second, .val (.int p4), .val (.int va), .val (.int vb), .val (.int vc), .val (.int vd), .val (.int ve), .val (.int vf), .val (.int sv), .val (.ref b3), .val (.ref r14), .unset, .unset, .unset] []))
  refine own_Fin.step (fun _ => XS.aload X14.here hx rfl (hb hby at_129) rfl rfl) ?_
  show own_Fin p e below s _ _ _ (T14.setTop (mkF m 131 #[.val (.long q1), .second, .val (.long q2), .second, .val (.long q3), .second, .val (.int p4), .val (.int va), .val (.int vb), .val (.int vc), .val (.int vd), .val (.int ve), .val (.int vf), .val (.int sv), .val (.ref b3), .val (.ref r14), .unset, .unset, .unset] [(.ref r14)]))
  refine own_Fin.step (fun _ => XS.iconst X14.here hx rfl (hb hby at_131)) ?_
  show own_Fin p e below s _ _ _ (T14.setTop (mkF m 132 #[.val (.long q1), .second, .val (.long q2), .second, .val (.long q3), .second, .val (.int p4), .val (.int va), .val (.int vb), .val (.int vc), .val (.int vd), .val (.int ve), .val (.int vf), .val (.int sv), .val (.ref b3), .val (.ref r14), .unset, .unset, .unset] [(.int (4 : Int32)), (.ref r14)]))
  refine own_Fin.step (own_ldI X14 hx hZ rfl V14 (j := (4 : Int32)) (v := (.int ve)) ⟨by decide, by decide⟩ rfl (g := (mkF m 132 #[.val (.long q1), .second, .val (.long q2), .second, .val (.long q3), .second, .val (.int p4), .val (.int va), .val (.int vb), .val (.int vc), .val (.int vd), .val (.int ve), .val (.int vf), .val (.int sv), .val (.ref b3), .val (.ref r14), .unset, .unset, .unset] [(.int (4 : Int32)), (.ref r14)])) rfl rfl (hb hby at_132)) ?_
  show own_Fin p e below s _ _ _ (T14.setTop (mkF m 133 #[.val (.long q1), .second, .val (.long q2), .second, .val (.long q3), .second, .val (.int p4), .val (.int va), .val (.int vb), .val (.int vc), .val (.int vd), .val (.int ve), .val (.int vf), .val (.int sv), .val (.ref b3), .val (.ref r14), .unset, .unset, .unset] [(.int ve)]))
  refine own_Fin.step (fun _ => XS.iload X14.here hx rfl (hb hby at_133) rfl) ?_
  show own_Fin p e below s _ _ _ (T14.setTop (mkF m 135 #[.val (.long q1), .second, .val (.long q2), .second, .val (.long q3), .second, .val (.int p4), .val (.int va), .val (.int vb), .val (.int vc), .val (.int vd), .val (.int ve), .val (.int vf), .val (.int sv), .val (.ref b3), .val (.ref r14), .unset, .unset, .unset] [(.int ve), (.int ve)]))
  refine own_Fin.step (fun _ => XS.icmpNo X14.here hx rfl (hb hby at_135) rfl (XT.ii_ne_f (rfl : ve = ve))) ?_
  show own_Fin p e below s _ _ _ (T14.setTop (mkF m 138 #[.val (.long q1), .second, .val (.long q2), .second, .val (.long q3), .second, .val (.int p4), .val (.int va), .val (.int vb), .val (.int vc), .val (.int vd), .val (.int ve), .val (.int vf), .val (.int sv), .val (.ref b3), .val (.ref r14), .unset, .unset, .unset] []))
  refine own_Fin.step (fun _ => XS.aload X14.here hx rfl (hb hby at_138) rfl rfl) ?_
  show own_Fin p e below s _ _ _ (T14.setTop (mkF m 140 #[.val (.long q1), .second, .val (.long q2), .second, .val (.long q3), .second, .val (.int p4), .val (.int va), .val (.int vb), .val (.int vc), .val (.int vd), .val (.int ve), .val (.int vf), .val (.int sv), .val (.ref b3), .val (.ref r14), .unset, .unset, .unset] [(.ref r14)]))
  refine own_Fin.step (fun _ => XS.iconst X14.here hx rfl (hb hby at_140)) ?_
  show own_Fin p e below s _ _ _ (T14.setTop (mkF m 141 #[.val (.long q1), .second, .val (.long q2), .second, .val (.long q3), .second, .val (.int p4), .val (.int va), .val (.int vb), .val (.int vc), .val (.int vd), .val (.int ve), .val (.int vf), .val (.int sv), .val (.ref b3), .val (.ref r14), .unset, .unset, .unset] [(.int (5 : Int32)), (.ref r14)]))
  refine own_Fin.step (own_ldI X14 hx hZ rfl V14 (j := (5 : Int32)) (v := (.int vf)) ⟨by decide, by decide⟩ rfl (g := (mkF m 141 #[.val (.long q1), .second, .val (.long q2), .second, .val (.long q3), .second, .val (.int p4), .val (.int va), .val (.int vb), .val (.int vc), .val (.int vd), .val (.int ve), .val (.int vf), .val (.int sv), .val (.ref b3), .val (.ref r14), .unset, .unset, .unset] [(.int (5 : Int32)), (.ref r14)])) rfl rfl (hb hby at_141)) ?_
  show own_Fin p e below s _ _ _ (T14.setTop (mkF m 142 #[.val (.long q1), .second, .val (.long q2), .second, .val (.long q3), .second, .val (.int p4), .val (.int va), .val (.int vb), .val (.int vc), .val (.int vd), .val (.int ve), .val (.int vf), .val (.int sv), .val (.ref b3), .val (.ref r14), .unset, .unset, .unset] [(.int vf)]))
  refine own_Fin.step (fun _ => XS.iload X14.here hx rfl (hb hby at_142) rfl) ?_
  show own_Fin p e below s _ _ _ (T14.setTop (mkF m 144 #[.val (.long q1), .second, .val (.long q2), .second, .val (.long q3), .second, .val (.int p4), .val (.int va), .val (.int vb), .val (.int vc), .val (.int vd), .val (.int ve), .val (.int vf), .val (.int sv), .val (.ref b3), .val (.ref r14), .unset, .unset, .unset] [(.int vf), (.int vf)]))
  refine own_Fin.step (fun _ => XS.icmpNo X14.here hx rfl (hb hby at_144) rfl (XT.ii_ne_f (rfl : vf = vf))) ?_
  show own_Fin p e below s _ _ _ (T14.setTop (mkF m 147 #[.val (.long q1), .second, .val (.long q2), .second, .val (.long q3), .second, .val (.int p4), .val (.int va), .val (.int vb), .val (.int vc), .val (.int vd), .val (.int ve), .val (.int vf), .val (.int sv), .val (.ref b3), .val (.ref r14), .unset, .unset, .unset] []))
  refine own_Fin.step (fun _ => XS.aload X14.here hx rfl (hb hby at_147) rfl rfl) ?_
  show own_Fin p e below s _ _ _ (T14.setTop (mkF m 149 #[.val (.long q1), .second, .val (.long q2), .second, .val (.long q3), .second, .val (.int p4), .val (.int va), .val (.int vb), .val (.int vc), .val (.int vd), .val (.int ve), .val (.int vf), .val (.int sv), .val (.ref b3), .val (.ref r14), .unset, .unset, .unset] [(.ref r14)]))
  refine own_Fin.step (fun _ => XS.bipush X14.here hx rfl (hb hby at_149)) ?_
  show own_Fin p e below s _ _ _ (T14.setTop (mkF m 151 #[.val (.long q1), .second, .val (.long q2), .second, .val (.long q3), .second, .val (.int p4), .val (.int va), .val (.int vb), .val (.int vc), .val (.int vd), .val (.int ve), .val (.int vf), .val (.int sv), .val (.ref b3), .val (.ref r14), .unset, .unset, .unset] [(.int (6 : Int32)), (.ref r14)]))
  refine own_Fin.step (own_ldI X14 hx hZ rfl V14 (j := (6 : Int32)) (v := (.int sv)) ⟨by decide, by decide⟩ rfl (g := (mkF m 151 #[.val (.long q1), .second, .val (.long q2), .second, .val (.long q3), .second, .val (.int p4), .val (.int va), .val (.int vb), .val (.int vc), .val (.int vd), .val (.int ve), .val (.int vf), .val (.int sv), .val (.ref b3), .val (.ref r14), .unset, .unset, .unset] [(.int (6 : Int32)), (.ref r14)])) rfl rfl (hb hby at_151)) ?_
  show own_Fin p e below s _ _ _ (T14.setTop (mkF m 152 #[.val (.long q1), .second, .val (.long q2), .second, .val (.long q3), .second, .val (.int p4), .val (.int va), .val (.int vb), .val (.int vc), .val (.int vd), .val (.int ve), .val (.int vf), .val (.int sv), .val (.ref b3), .val (.ref r14), .unset, .unset, .unset] [(.int sv)]))
  refine own_Fin.step (fun _ => XS.iload X14.here hx rfl (hb hby at_152) rfl) ?_
  show own_Fin p e below s _ _ _ (T14.setTop (mkF m 154 #[.val (.long q1), .second, .val (.long q2), .second, .val (.long q3), .second, .val (.int p4), .val (.int va), .val (.int vb), .val (.int vc), .val (.int vd), .val (.int ve), .val (.int vf), .val (.int sv), .val (.ref b3), .val (.ref r14), .unset, .unset, .unset] [(.int sv), (.int sv)]))
  refine own_Fin.step (fun _ => XS.icmpNo X14.here hx rfl (hb hby at_154) rfl (XT.ii_ne_f (rfl : sv = sv))) ?_
  show own_Fin p e below s _ _ _ (T14.setTop (mkF m 157 #[.val (.long q1), .second, .val (.long q2), .second, .val (.long q3), .second, .val (.int p4), .val (.int va), .val (.int vb), .val (.int vc), .val (.int vd), .val (.int ve), .val (.int vf), .val (.int sv), .val (.ref b3), .val (.ref r14), .unset, .unset, .unset] []))
  refine own_Fin.step (fun _ => XS.iconst X14.here hx rfl (hb hby at_157)) ?_
  show own_Fin p e below s _ _ _ (T14.setTop (mkF m 158 #[.val (.long q1), .second, .val (.long q2), .second, .val (.long q3), .second, .val (.int p4), .val (.int va), .val (.int vb), .val (.int vc), .val (.int vd), .val (.int ve), .val (.int vf), .val (.int sv), .val (.ref b3), .val (.ref r14), .unset, .unset, .unset] [(.int (1 : Int32))]))
  refine own_Fin.step (fun _ => XS.goto X14.here hx rfl (pc0 := 158) (pc' := 162) rfl (hb hby at_158) (by decide) (by decide)) ?_
  show own_Fin p e below s _ _ _ (T14.setTop (mkF m 162 #[.val (.long q1), .second, .val (.long q2), .second, .val (.long q3), .second, .val (.int p4), .val (.int va), .val (.int vb), .val (.int vc), .val (.int vd), .val (.int ve), .val (.int vf), .val (.int sv), .val (.ref b3), .val (.ref r14), .unset, .unset, .unset] [(.int (1 : Int32))]))
  refine own_Fin.step (fun _ => XS.istore X14.here hx rfl (hb hby at_162) rfl (l' := #[.val (.long q1), .second, .val (.long q2), .second, .val (.long q3), .second, .val (.int p4), .val (.int va), .val (.int vb), .val (.int vc), .val (.int vd), .val (.int ve), .val (.int vf), .val (.int sv), .val (.ref b3), .val (.ref r14), .val (.int (1 : Int32)), .unset, .unset]) rfl) ?_
  show own_Fin p e below s _ _ _ (T14.setTop (mkF m 164 #[.val (.long q1), .second, .val (.long q2), .second, .val (.long q3), .second, .val (.int p4), .val (.int va), .val (.int vb), .val (.int vc), .val (.int vd), .val (.int ve), .val (.int vf), .val (.int sv), .val (.ref b3), .val (.ref r14), .val (.int (1 : Int32)), .unset, .unset] []))
  refine own_Fin.step (fun _ => XS.aload X14.here hx rfl (hb hby at_164) rfl rfl) ?_
  show own_Fin p e below s _ _ _ (T14.setTop (mkF m 166 #[.val (.long q1), .second, .val (.long q2), .second, .val (.long q3), .second, .val (.int p4), .val (.int va), .val (.int vb), .val (.int vc), .val (.int vd), .val (.int ve), .val (.int vf), .val (.int sv), .val (.ref b3), .val (.ref r14), .val (.int (1 : Int32)), .unset, .unset] [(.ref r14)]))
  refine own_Fin.step (fun _ => XS.iconst X14.here hx rfl (hb hby at_166)) ?_
  show own_Fin p e below s _ _ _ (T14.setTop (mkF m 167 #[.val (.long q1), .second, .val (.long q2), .second, .val (.long q3), .second, .val (.int p4), .val (.int va), .val (.int vb), .val (.int vc), .val (.int vd), .val (.int ve), .val (.int vf), .val (.int sv), .val (.ref b3), .val (.ref r14), .val (.int (1 : Int32)), .unset, .unset] [(.int (0 : Int32)), (.ref r14)]))
  refine own_Fin.step (fun _ => XS.aload X14.here hx rfl (hb hby at_167) rfl rfl) ?_
  show own_Fin p e below s _ _ _ (T14.setTop (mkF m 169 #[.val (.long q1), .second, .val (.long q2), .second, .val (.long q3), .second, .val (.int p4), .val (.int va), .val (.int vb), .val (.int vc), .val (.int vd), .val (.int ve), .val (.int vf), .val (.int sv), .val (.ref b3), .val (.ref r14), .val (.int (1 : Int32)), .unset, .unset] [(.ref r14), (.int (0 : Int32)), (.ref r14)]))
  refine own_Fin.step (fun _ => XS.iconst X14.here hx rfl (hb hby at_169)) ?_
  show own_Fin p e below s _ _ _ (T14.setTop (mkF m 170 #[.val (.long q1), .second, .val (.long q2), .second, .val (.long q3), .second, .val (.int p4), .val (.int va), .val (.int vb), .val (.int vc), .val (.int vd), .val (.int ve), .val (.int vf), .val (.int sv), .val (.ref b3), .val (.ref r14), .val (.int (1 : Int32)), .unset, .unset] [(.int (0 : Int32)), (.ref r14), (.int (0 : Int32)), (.ref r14)]))
  refine own_Fin.step (own_ldI X14 hx hZ rfl V14 (j := (0 : Int32)) (v := (.int va)) ⟨by decide, by decide⟩ rfl (g := (mkF m 170 #[.val (.long q1), .second, .val (.long q2), .second, .val (.long q3), .second, .val (.int p4), .val (.int va), .val (.int vb), .val (.int vc), .val (.int vd), .val (.int ve), .val (.int vf), .val (.int sv), .val (.ref b3), .val (.ref r14), .val (.int (1 : Int32)), .unset, .unset] [(.int (0 : Int32)), (.ref r14), (.int (0 : Int32)), (.ref r14)])) rfl rfl (hb hby at_170)) ?_
  show own_Fin p e below s _ _ _ (T14.setTop (mkF m 171 #[.val (.long q1), .second, .val (.long q2), .second, .val (.long q3), .second, .val (.int p4), .val (.int va), .val (.int vb), .val (.int vc), .val (.int vd), .val (.int ve), .val (.int vf), .val (.int sv), .val (.ref b3), .val (.ref r14), .val (.int (1 : Int32)), .unset, .unset] [(.int va), (.int (0 : Int32)), (.ref r14)]))
  refine own_Fin.step (fun _ => XS.iconst X14.here hx rfl (hb hby at_171)) ?_
  show own_Fin p e below s _ _ _ (T14.setTop (mkF m 172 #[.val (.long q1), .second, .val (.long q2), .second, .val (.long q3), .second, .val (.int p4), .val (.int va), .val (.int vb), .val (.int vc), .val (.int vd), .val (.int ve), .val (.int vf), .val (.int sv), .val (.ref b3), .val (.ref r14), .val (.int (1 : Int32)), .unset, .unset] [(.int (-1 : Int32)), (.int va), (.int (0 : Int32)), (.ref r14)]))
  refine own_Fin.step (fun _ => XS.ixor X14.here hx rfl (hb hby at_172) rfl) ?_
  show own_Fin p e below s _ _ _ (T14.setTop (mkF m 173 #[.val (.long q1), .second, .val (.long q2), .second, .val (.long q3), .second, .val (.int p4), .val (.int va), .val (.int vb), .val (.int vc), .val (.int vd), .val (.int ve), .val (.int vf), .val (.int sv), .val (.ref b3), .val (.ref r14), .val (.int (1 : Int32)), .unset, .unset] [(.int (va ^^^ (-1 : Int32))), (.int (0 : Int32)), (.ref r14)]))
  obtain ⟨T25, h25, X25, e25, V25, W25, st25⟩ := own_stI X14 hx hZ rfl V14 (j := (0 : Int32)) ⟨by decide, by decide⟩ (0) rfl (Nat.le_of_ble_eq_true rfl) (g := (mkF m 173 #[.val (.long q1), .second, .val (.long q2), .second, .val (.long q3), .second, .val (.int p4), .val (.int va), .val (.int vb), .val (.int vc), .val (.int vd), .val (.int ve), .val (.int vf), .val (.int sv), .val (.ref b3), .val (.ref r14), .val (.int (1 : Int32)), .unset, .unset] [(.int (va ^^^ (-1 : Int32))), (.int (0 : Int32)), (.ref r14)])) rfl rfl (hb hby at_173)
  have V25' : Arv Z h25 r14 kk14 .int (7 : Int32) [(.int (va ^^^ (-1 : Int32))), (.int vb), (.int vc), (.int vd), (.int ve), (.int vf), (.int sv)] (.int (0 : Int32)) := V25
  have f26 := f17.wr W25
  have f27 := f18.other W25 (Or.inl ne15)
  have f28 := f19.other W25 (Or.inl ne15)
  have f29 := f20.other W25 (Or.inl ne15)
  have f30 := f21.other W25 (Or.inl ne15)
  have f31 := f22.other W25 (Or.inl ne15)
  have f32 := f23.other W25 (Or.inl ne15)
  have f33 := f24.other W25 (Or.inl ne15)
  have N25 := Fr.snoc X25 N14 ge16
  have Z25 : n0 ≤ h25.size := Nat.le_trans Z14 (Nat.le_of_eq W25.size.symm)
  refine own_Fin.step st25 ?_
  show own_Fin p e below s _ _ _ (T25.setTop (mkF m 174 #[.val (.long q1), .second, .val (.long q2), .second, .val (.long q3), .second, .val (.int p4), .val (.int va), .val (.int vb), .val (.int vc), .val (.int vd), .val (.int ve), .val (.int vf), .val (.int sv), .val (.ref b3), .val (.ref r14), .val (.int (1 : Int32)), .unset, .unset] []))
  refine own_Fin.step (fun _ => XS.aload X25.here hx rfl (hb hby at_174) rfl rfl) ?_
  show own_Fin p e below s _ _ _ (T25.setTop (mkF m 176 #[.val (.long q1), .second, .val (.long q2), .second, .val (.long q3), .second, .val (.int p4), .val (.int va), .val (.int vb), .val (.int vc), .val (.int vd), .val (.int ve), .val (.int vf), .val (.int sv), .val (.ref b3), .val (.ref r14), .val (.int (1 : Int32)), .unset, .unset] [(.ref r14)]))
  refine own_Fin.step (fun _ => XS.iconst X25.here hx rfl (hb hby at_176)) ?_
  show own_Fin p e below s _ _ _ (T25.setTop (mkF m 177 #[.val (.long q1), .second, .val (.long q2), .second, .val (.long q3), .second, .val (.int p4), .val (.int va), .val (.int vb), .val (.int vc), .val (.int vd), .val (.int ve), .val (.int vf), .val (.int sv), .val (.ref b3), .val (.ref r14), .val (.int (1 : Int32)), .unset, .unset] [(.int (3 : Int32)), (.ref r14)]))
  refine own_Fin.step (fun _ => XS.aload X25.here hx rfl (hb hby at_177) rfl rfl) ?_
  show own_Fin p e below s _ _ _ (T25.setTop (mkF m 179 #[.val (.long q1), .second, .val (.long q2), .second, .val (.long q3), .second, .val (.int p4), .val (.int va), .val (.int vb), .val (.int vc), .val (.int vd), .val (.int ve), .val (.int vf), .val (.int sv), .val (.ref b3), .val (.ref r14), .val (.int (1 : Int32)), .unset, .unset] [(.ref r14), (.int (3 : Int32)), (.ref r14)]))
  refine own_Fin.step (fun _ => XS.iconst X25.here hx rfl (hb hby at_179)) ?_
  show own_Fin p e below s _ _ _ (T25.setTop (mkF m 180 #[.val (.long q1), .second, .val (.long q2), .second, .val (.long q3), .second, .val (.int p4), .val (.int va), .val (.int vb), .val (.int vc), .val (.int vd), .val (.int ve), .val (.int vf), .val (.int sv), .val (.ref b3), .val (.ref r14), .val (.int (1 : Int32)), .unset, .unset] [(.int (3 : Int32)), (.ref r14), (.int (3 : Int32)), (.ref r14)]))
  refine own_Fin.step (own_ldI X25 hx hZ e25 V25' (j := (3 : Int32)) (v := (.int vd)) ⟨by decide, by decide⟩ rfl (g := (mkF m 180 #[.val (.long q1), .second, .val (.long q2), .second, .val (.long q3), .second, .val (.int p4), .val (.int va), .val (.int vb), .val (.int vc), .val (.int vd), .val (.int ve), .val (.int vf), .val (.int sv), .val (.ref b3), .val (.ref r14), .val (.int (1 : Int32)), .unset, .unset] [(.int (3 : Int32)), (.ref r14), (.int (3 : Int32)), (.ref r14)])) rfl rfl (hb hby at_180)) ?_
  show own_Fin p e below s _ _ _ (T25.setTop (mkF m 181 #[.val (.long q1), .second, .val (.long q2), .second, .val (.long q3), .second, .val (.int p4), .val (.int va), .val (.int vb), .val (.int vc), .val (.int vd), .val (.int ve), .val (.int vf), .val (.int sv), .val (.ref b3), .val (.ref r14), .val (.int (1 : Int32)), .unset, .unset] [(.int vd), (.int (3 : Int32)), (.ref r14)]))
  refine own_Fin.step (fun _ => XS.iconst X25.here hx rfl (hb hby at_181)) ?_
  show own_Fin p e below s _ _ _ (T25.setTop (mkF m 182 #[.val (.long q1), .second, .val (.long q2), .second, .val (.long q3), .second, .val (.int p4), .val (.int va), .val (.int vb), .val (.int vc), .val (.int vd), .val (.int ve), .val (.int vf), .val (.int sv), .val (.ref b3), .val (.ref r14), .val (.int (1 : Int32)), .unset, .unset] [(.int (-1 : Int32)), (.int vd), (.int (3 : Int32)), (.ref r14)]))
  refine own_Fin.step (fun _ => XS.ixor X25.here hx rfl (hb hby at_182) rfl) ?_
  show own_Fin p e below s _ _ _ (T25.setTop (mkF m 183 #[.val (.long q1), .second, .val (.long q2), .second, .val (.long q3), .second, .val (.int p4), .val (.int va), .val (.int vb), .val (.int vc), .val (.int vd), .val (.int ve), .val (.int vf), .val (.int sv), .val (.ref b3), .val (.ref r14), .val (.int (1 : Int32)), .unset, .unset] [(.int (vd ^^^ (-1 : Int32))), (.int (3 : Int32)), (.ref r14)]))
  obtain ⟨T35, h35, X35, e35, V35, W35, st35⟩ := own_stI X25 hx hZ e25 V25' (j := (3 : Int32)) ⟨by decide, by decide⟩ (3) rfl (Nat.le_of_ble_eq_true rfl) (g := (mkF m 183 #[.val (.long q1), .second, .val (.long q2), .second, .val (.long q3), .second, .val (.int p4), .val (.int va), .val (.int vb), .val (.int vc), .val (.int vd), .val (.int ve), .val (.int vf), .val (.int sv), .val (.ref b3), .val (.ref r14), .val (.int (1 : Int32)), .unset, .unset] [(.int (vd ^^^ (-1 : Int32))), (.int (3 : Int32)), (.ref r14)])) rfl rfl (hb hby at_183)
  have V35' : Arv Z h35 r14 kk14 .int (7 : Int32) [(.int (va ^^^ (-1 : Int32))), (.int vb), (.int vc), (.int (vd ^^^ (-1 : Int32))), (.int ve), (.int vf), (.int sv)] (.int (0 : Int32)) := V35
  have f36 := f26.wr W35
  have f37 := f27.other W35 (Or.inl ne15)
  have f38 := f28.other W35 (Or.inl ne15)
  have f39 := f29.other W35 (Or.inl ne15)
  have f40 := f30.other W35 (Or.inl ne15)
  have f41 := f31.other W35 (Or.inl ne15)
  have f42 := f32.other W35 (Or.inl ne15)
  have f43 := f33.other W35 (Or.inl ne15)
  have N35 := Fr.snoc X35 N25 ge16
  have Z35 : n0 ≤ h35.size := Nat.le_trans Z25 (Nat.le_of_eq W35.size.symm)
  refine own_Fin.step st35 ?_
  show own_Fin p e below s _ _ _ (T35.setTop (mkF m 184 #[.val (.long q1), .second, .val (.long q2), .second, .val (.long q3), .second, .val (.int p4), .val (.int va), .val (.int vb), .val (.int vc), .val (.int vd), .val (.int ve), .val (.int vf), .val (.int sv), .val (.ref b3), .val (.ref r14), .val (.int (1 : Int32)), .unset, .unset] []))
  refine own_Fin.step (fun _ => XS.aload X35.here hx rfl (hb hby at_184) rfl rfl) ?_
  show own_Fin p e below s _ _ _ (T35.setTop (mkF m 186 #[.val (.long q1), .second, .val (.long q2), .second, .val (.long q3), .second, .val (.int p4), .val (.int va), .val (.int vb), .val (.int vc), .val (.int vd), .val (.int ve), .val (.int vf), .val (.int sv), .val (.ref b3), .val (.ref r14), .val (.int (1 : Int32)), .unset, .unset] [(.ref r14)]))
  refine own_Fin.step (fun _ => XS.bipush X35.here hx rfl (hb hby at_186)) ?_
  show own_Fin p e below s _ _ _ (T35.setTop (mkF m 188 #[.val (.long q1), .second, .val (.long q2), .second, .val (.long q3), .second, .val (.int p4), .val (.int va), .val (.int vb), .val (.int vc), .val (.int vd), .val (.int ve), .val (.int vf), .val (.int sv), .val (.ref b3), .val (.ref r14), .val (.int (1 : Int32)), .unset, .unset] [(.int (6 : Int32)), (.ref r14)]))
  refine own_Fin.step (fun _ => XS.aload X35.here hx rfl (hb hby at_188) rfl rfl) ?_
  show own_Fin p e below s _ _ _ (T35.setTop (mkF m 190 #[.val (.long q1), .second, .val (.long q2), .second, .val (.long q3), .second, .val (.int p4), .val (.int va), .val (.int vb), .val (.int vc), .val (.int vd), .val (.int ve), .val (.int vf), .val (.int sv), .val (.ref b3), .val (.ref r14), .val (.int (1 : Int32)), .unset, .unset] [(.ref r14), (.int (6 : Int32)), (.ref r14)]))
  refine own_Fin.step (fun _ => XS.bipush X35.here hx rfl (hb hby at_190)) ?_
  show own_Fin p e below s _ _ _ (T35.setTop (mkF m 192 #[.val (.long q1), .second, .val (.long q2), .second, .val (.long q3), .second, .val (.int p4), .val (.int va), .val (.int vb), .val (.int vc), .val (.int vd), .val (.int ve), .val (.int vf), .val (.int sv), .val (.ref b3), .val (.ref r14), .val (.int (1 : Int32)), .unset, .unset] [(.int (6 : Int32)), (.ref r14), (.int (6 : Int32)), (.ref r14)]))
  refine own_Fin.step (own_ldI X35 hx hZ e35 V35' (j := (6 : Int32)) (v := (.int sv)) ⟨by decide, by decide⟩ rfl (g := (mkF m 192 #[.val (.long q1), .second, .val (.long q2), .second, .val (.long q3), .second, .val (.int p4), .val (.int va), .val (.int vb), .val (.int vc), .val (.int vd), .val (.int ve), .val (.int vf), .val (.int sv), .val (.ref b3), .val (.ref r14), .val (.int (1 : Int32)), .unset, .unset] [(.int (6 : Int32)), (.ref r14), (.int (6 : Int32)), (.ref r14)])) rfl rfl (hb hby at_192)) ?_
  show own_Fin p e below s _ _ _ (T35.setTop (mkF m 193 #[.val (.long q1), .second, .val (.long q2), .second, .val (.long q3), .second, .val (.int p4), .val (.int va), .val (.int vb), .val (.int vc), .val (.int vd), .val (.int ve), .val (.int vf), .val (.int sv), .val (.ref b3), .val (.ref r14), .val (.int (1 : Int32)), .unset, .unset] [(.int sv), (.int (6 : Int32)), (.ref r14)]))
  refine own_Fin.step (fun _ => XS.iconst X35.here hx rfl (hb hby at_193)) ?_
  show own_Fin p e below s _ _ _ (T35.setTop (mkF m 194 #[.val (.long q1), .second, .val (.long q2), .second, .val (.long q3), .second, .val (.int p4), .val (.int va), .val (.int vb), .val (.int vc), .val (.int vd), .val (.int ve), .val (.int vf), .val (.int sv), .val (.ref b3), .val (.ref r14), .val (.int (1 : Int32)), .unset, .unset] [(.int (-1 : Int32)), (.int sv), (.int (6 : Int32)), (.ref r14)]))
  refine own_Fin.step (fun _ => XS.ixor X35.here hx rfl (hb hby at_194) rfl) ?_
  show own_Fin p e below s _ _ _ (T35.setTop (mkF m 195 #[.val (.long q1), .second, .val (.long q2), .second, .val (.long q3), .second, .val (.int p4), .val (.int va), .val (.int vb), .val (.int vc), .val (.int vd), .val (.int ve), .val (.int vf), .val (.int sv), .val (.ref b3), .val (.ref r14), .val (.int (1 : Int32)), .unset, .unset] [(.int (sv ^^^ (-1 : Int32))), (.int (6 : Int32)), (.ref r14)]))
  obtain ⟨T45, h45, X45, e45, V45, W45, st45⟩ := own_stI X35 hx hZ e35 V35' (j := (6 : Int32)) ⟨by decide, by decide⟩ (6) rfl (Nat.le_of_ble_eq_true rfl) (g := (mkF m 195 #[.val (.long q1), .second, .val (.long q2), .second, .val (.long q3), .second, .val (.int p4), .val (.int va), .val (.int vb), .val (.int vc), .val (.int vd), .val (.int ve), .val (.int vf), .val (.int sv), .val (.ref b3), .val (.ref r14), .val (.int (1 : Int32)), .unset, .unset] [(.int (sv ^^^ (-1 : Int32))), (.int (6 : Int32)), (.ref r14)])) rfl rfl (hb hby at_195)
  have V45' : Arv Z h45 r14 kk14 .int (7 : Int32) [(.int (va ^^^ (-1 : Int32))), (.int vb), (.int vc), (.int (vd ^^^ (-1 : Int32))), (.int ve), (.int vf), (.int (sv ^^^ (-1 : Int32)))] (.int (0 : Int32)) := V45
  have f46 := f36.wr W45
  have f47 := f37.other W45 (Or.inl ne15)
  have f48 := f38.other W45 (Or.inl ne15)
  have f49 := f39.other W45 (Or.inl ne15)
  have f50 := f40.other W45 (Or.inl ne15)
  have f51 := f41.other W45 (Or.inl ne15)
  have f52 := f42.other W45 (Or.inl ne15)
  have f53 := f43.other W45 (Or.inl ne15)
  have N45 := Fr.snoc X45 N35 ge16
  have Z45 : n0 ≤ h45.size := Nat.le_trans Z35 (Nat.le_of_eq W45.size.symm)
  refine own_Fin.step st45 ?_
  show own_Fin p e below s _ _ _ (T45.setTop (mkF m 196 #[.val (.long q1), .second, .val (.long q2), .second, .val (.long q3), .second, .val (.int p4), .val (.int va), .val (.int vb), .val (.int vc), .val (.int vd), .val (.int ve), .val (.int vf), .val (.int sv), .val (.ref b3), .val (.ref r14), .val (.int (1 : Int32)), .unset, .unset] []))
  refine own_Fin.step (fun _ => XS.aload X45.here hx rfl (hb hby at_196) rfl rfl) ?_
  show own_Fin p e below s _ _ _ (T45.setTop (mkF m 198 #[.val (.long q1), .second, .val (.long q2), .second, .val (.long q3), .second, .val (.int p4), .val (.int va), .val (.int vb), .val (.int vc), .val (.int vd), .val (.int ve), .val (.int vf), .val (.int sv), .val (.ref b3), .val (.ref r14), .val (.int (1 : Int32)), .unset, .unset] [(.ref b3)]))
  obtain ⟨_, T55, L55, X55, ⟨r55, kk55, rfl, N55q, K55, sz55, V55⟩, st55⟩ := own_callV X45 hx hZ hown (own_w hw 28 rfl) (own_w hw 29 rfl) (own_w hw 31 rfl) (own_w hw 30 rfl) (own_w hw 2 rfl) (own_w hw 32 rfl) (by decide) (rm3 l Z a0 hw b3 va vb vc vd ve vf sv h45 n0 Z45 f47 f48 f49 f50 f51 f52 f53) (by decide) (by decide) f46 e45 (W := 0) (g := (mkF m 198 #[.val (.long q1), .second, .val (.long q2), .second, .val (.long q3), .second, .val (.int p4), .val (.int va), .val (.int vb), .val (.int vc), .val (.int vd), .val (.int ve), .val (.int vf), .val (.int sv), .val (.ref b3), .val (.ref r14), .val (.int (1 : Int32)), .unset, .unset] [(.ref b3)])) rfl (by rw [hml]; rfl) (argsL := []) (rest := []) (lenOf pd_2 rfl) rfl rfl (by show 2 * 0 + _ ≤ _; exact Nat.le_of_eq rfl) (hb hby at_198) (by decide) (by decide)
  have N55 := Fr.app N45 N55q
  have ne56 : b3 ≠ r55 := Nat.ne_of_lt (Nat.lt_of_lt_of_le f46.lt sz55)
  have ne57 : r14 ≠ r55 := Nat.ne_of_lt (Nat.lt_of_lt_of_le V45'.lt sz55)
  have ge58 : n0 ≤ r55 := Nat.le_trans Z45 sz55
  have f59 := f46.keep K55
  have f60 := f47.keep K55 nin0
  have f61 := f48.keep K55 nin0
  have f62 := f49.keep K55 nin0
  have f63 := f50.keep K55 nin0
  have f64 := f51.keep K55 nin0
  have f65 := f52.keep K55 nin0
  have f66 := f53.keep K55 nin0
  have f67 := V45'.keep K55 nin0
  have Z55 : n0 ≤ T55.heap.size := Nat.le_trans Z45 K55.1
  refine own_Fin.step st55 ?_
  show own_Fin p e below s _ _ _ (T55.setTop (mkF m 201 #[.val (.long q1), .second, .val (.long q2), .second, .val (.long q3), .second, .val (.int p4), .val (.int va), .val (.int vb), .val (.int vc), .val (.int vd), .val (.int ve), .val (.int vf), .val (.int sv), .val (.ref b3), .val (.ref r14), .val (.int (1 : Int32)), .unset, .unset] [(.ref r55)]))
  refine own_Fin.step (fun _ => XS.astore X55.here hx rfl (hb hby at_201) rfl rfl (l' := #[.val (.long q1), .second, .val (.long q2), .second, .val (.long q3), .second, .val (.int p4), .val (.int va), .val (.int vb), .val (.int vc), .val (.int vd), .val (.int ve), .val (.int vf), .val (.int sv), .val (.ref b3), .val (.ref r14), .val (.int (1 : Int32)), .val (.ref r55), .unset]) rfl) ?_
  show own_Fin p e below s _ _ _ (T55.setTop (mkF m 203 #[.val (.long q1), .second, .val (.long q2), .second, .val (.long q3), .second, .val (.int p4), .val (.int va), .val (.int vb), .val (.int vc), .val (.int vd), .val (.int ve), .val (.int vf), .val (.int sv), .val (.ref b3), .val (.ref r14), .val (.int (1 : Int32)), .val (.ref r55), .unset] []))
  refine own_Fin.step (fun _ => XS.aload X55.here hx rfl (hb hby at_203) rfl rfl) ?_
  show own_Fin p e below s _ _ _ (T55.setTop (mkF m 205 #[.val (.long q1), .second, .val (.long q2), .second, .val (.long q3), .second, .val (.int p4), .val (.int va), .val (.int vb), .val (.int vc), .val (.int vd), .val (.int ve), .val (.int vf), .val (.int sv), .val (.ref b3), .val (.ref r14), .val (.int (1 : Int32)), .val (.ref r55), .unset] [(.ref r55)]))
  refine own_Fin.step (fun _ => XS.ifnullNo X55.here hx rfl (hb hby at_205) rfl) ?_
  show own_Fin p e below s _ _ _ (T55.setTop (mkF m 208 #[.val (.long q1), .second, .val (.long q2), .second, .val (.long q3), .second, .val (.int p4), .val (.int va), .val (.int vb), .val (.int vc), .val (.int vd), .val (.int ve), .val (.int vf), .val (.int sv), .val (.ref b3), .val (.ref r14), .val (.int (1 : Int32)), .val (.ref r55), .unset] []))
  refine own_Fin.step (fun _ => XS.aload X55.here hx rfl (hb hby at_208) rfl rfl) ?_
  show own_Fin p e below s _ _ _ (T55.setTop (mkF m 210 #[.val (.long q1), .second, .val (.long q2), .second, .val (.long q3), .second, .val (.int p4), .val (.int va), .val (.int vb), .val (.int vc), .val (.int vd), .val (.int ve), .val (.int vf), .val (.int sv), .val (.ref b3), .val (.ref r14), .val (.int (1 : Int32)), .val (.ref r55), .unset] [(.ref r55)]))
  refine own_Fin.step (own_len X55 hx hZ rfl V55 (g := (mkF m 210 #[.val (.long q1), .second, .val (.long q2), .second, .val (.long q3), .second, .val (.int p4), .val (.int va), .val (.int vb), .val (.int vc), .val (.int vd), .val (.int ve), .val (.int vf), .val (.int sv), .val (.ref b3), .val (.ref r14), .val (.int (1 : Int32)), .val (.ref r55), .unset] [(.ref r55)])) rfl rfl (hb hby at_210)) ?_
  show own_Fin p e below s _ _ _ (T55.setTop (mkF m 211 #[.val (.long q1), .second, .val (.long q2), .second, .val (.long q3), .second, .val (.int p4), .val (.int va), .val (.int vb), .val (.int vc), .val (.int vd), .val (.int ve), .val (.int vf), .val (.int sv), .val (.ref b3), .val (.ref r14), .val (.int (1 : Int32)), .val (.ref r55), .unset] [(.int (7 : Int32))]))
  refine own_Fin.step (fun _ => XS.bipush X55.here hx rfl (hb hby at_211)) ?_
  show own_Fin p e below s _ _ _ (T55.setTop (mkF m 213 #[.val (.long q1), .second, .val (.long q2), .second, .val (.long q3), .second, .val (.int p4), .val (.int va), .val (.int vb), .val (.int vc), .val (.int vd), .val (.int ve), .val (.int vf), .val (.int sv), .val (.ref b3), .val (.ref r14), .val (.int (1 : Int32)), .val (.ref r55), .unset] [(.int (7 : Int32)), (.int (7 : Int32))]))
  refine own_Fin.step (fun _ => XS.icmpYes X55.here hx rfl (pc0 := 213) (pc' := 218) rfl (hb hby at_213) rfl (XT.ii_eq_t (by decide : (7 : Int32) = (7 : Int32))) (by decide) (by decide)) ?_
  show own_Fin p e below s _ _ _ (T55.setTop (mkF m 218 #[.val (.long q1), .second, .val (.long q2), .second, .val (.long q3), .second, .val (.int p4), .val (.int va), .val (.int vb), .val (.int vc), .val (.int vd), .val (.int ve), .val (.int vf), .val (.int sv), .val (.ref b3), .val (.ref r14), .val (.int (1 : Int32)), .val (.ref r55), .unset] []))
  refine own_Fin.step (fun _ => XS.aload X55.here hx rfl (hb hby at_218) rfl rfl) ?_
  show own_Fin p e below s _ _ _ (T55.setTop (mkF m 220 #[.val (.long q1), .second, .val (.long q2), .second, .val (.long q3), .second, .val (.int p4), .val (.int va), .val (.int vb), .val (.int vc), .val (.int vd), .val (.int ve), .val (.int vf), .val (.int sv), .val (.ref b3), .val (.ref r14), .val (.int (1 : Int32)), .val (.ref r55), .unset] [(.ref r55)]))
  refine own_Fin.step (fun _ => XS.iconst X55.here hx rfl (hb hby at_220)) ?_
  show own_Fin p e below s _ _ _ (T55.setTop (mkF m 221 #[.val (.long q1), .second, .val (.long q2), .second, .val (.long q3), .second, .val (.int p4), .val (.int va), .val (.int vb), .val (.int vc), .val (.int vd), .val (.int ve), .val (.int vf), .val (.int sv), .val (.ref b3), .val (.ref r14), .val (.int (1 : Int32)), .val (.ref r55), .unset] [(.int (0 : Int32)), (.ref r55)]))
  refine own_Fin.step (own_ldI X55 hx hZ rfl V55 (j := (0 : Int32)) (v := (.int va)) ⟨by decide, by decide⟩ rfl (g := (mkF m 221 #[.val (.long q1), .second, .val (.long q2), .second, .val (.long q3), .second, .val (.int p4), .val (.int va), .val (.int vb), .val (.int vc), .val (.int vd), .val (.int ve), .val (.int vf), .val (.int sv), .val (.ref b3), .val (.ref r14), .val (.int (1 : Int32)), .val (.ref r55), .unset] [(.int (0 : Int32)), (.ref r55)])) rfl rfl (hb hby at_221)) ?_
  show own_Fin p e below s _ _ _ (T55.setTop (mkF m 222 #[.val (.long q1), .second, .val (.long q2), .second, .val (.long q3), .second, .val (.int p4), .val (.int va), .val (.int vb), .val (.int vc), .val (.int vd), .val (.int ve), .val (.int vf), .val (.int sv), .val (.ref b3), .val (.ref r14), .val (.int (1 : Int32)), .val (.ref r55), .unset] [(.int va)]))
  refine own_Fin.step (fun _ => XS.iload X55.here hx rfl (hb hby at_222) rfl) ?_
  show own_Fin p e below s _ _ _ (T55.setTop (mkF m 224 #[.val (.long q1), .second, .val (.long q2), .second, .val (.long q3), .second, .val (.int p4), .val (.int va), .val (.int vb), .val (.int vc), .val (.int vd), .val (.int ve), .val (.int vf), .val (.int sv), .val (.ref b3), .val (.ref r14), .val (.int (1 : Int32)), .val (.ref r55), .unset] [(.int va), (.int va)]))
  refine own_Fin.step (fun _ => XS.icmpNo X55.here hx rfl (hb hby at_224) rfl (XT.ii_ne_f (rfl : va = va))) ?_
  show own_Fin p e below s _ _ _ (T55.setTop (mkF m 227 #[.val (.long q1), .second, .val (.long q2), .second, .val (.long q3), .second, .val (.int p4), .val (.int va), .val (.int vb), .val (.int vc), .val (.int vd), .val (.int ve), .val (.int vf), .val (.int sv), .val (.ref b3), .val (.ref r14), .val (.int (1 : Int32)), .val (.ref r55), .unset] []))
  refine own_Fin.step (fun _ => XS.aload X55.here hx rfl (hb hby at_227) rfl rfl) ?_
  show own_Fin p e below s _ _ _ (T55.setTop (mkF m 229 #[.val (.long q1), .second, .val (.long q2), .second, .val (.long q3), .second, .val (.int p4), .val (.int va), .val (.int vb), .val (.int vc), .val (.int vd), .val (.int ve), .val (.int vf), .val (.int sv), .val (.ref b3), .val (.ref r14), .val (.int (1 : Int32)), .val (.ref r55), .unset] [(.ref r55)]))
  refine own_Fin.step (fun _ => XS.iconst X55.here hx rfl (hb hby at_229)) ?_
  show own_Fin p e below s _ _ _ (T55.setTop (mkF m 230 #[.val (.long q1), .second, .val (.long q2), .second, .val (.long q3), .second, .val (.int p4), .val (.int va), .val (.int vb), .val (.int vc), .val (.int vd), .val (.int ve), .val (.int vf), .val (.int sv), .val (.ref b3), .val (.ref r14), .val (.int (1 : Int32)), .val (.ref r55), .unset] [(.int (1 : Int32)), (.ref r55)]))
  refine own_Fin.step (own_ldI X55 hx hZ rfl V55 (j := (1 : Int32)) (v := (.int vb)) ⟨by decide, by decide⟩ rfl (g := (mkF m 230 #[.val (.long q1), .second, .val (.long q2), .second, .val (.long q3), .second, .val (.int p4), .val (.int va), .val (.int vb), .val (.int vc), .val (.int vd), .val (.int ve), .val (.int vf), .val (.int sv), .val (.ref b3), .val (.ref r14), .val (.int (1 : Int32)), .val (.ref r55), .unset] [(.int (1 : Int32)), (.ref r55)])) rfl rfl (hb hby at_230)) ?_
  show own_Fin p e below s _ _ _ (T55.setTop (mkF m 231 #[.val (.long q1), .second, .val (.long q2), .second, .val (.long q3), .second, .val (.int p4), .val (.int va), .val (.int vb), .val (.int vc), .val (.int vd), .val (.int ve), .val (.int vf), .val (.int sv), .val (.ref b3), .val (.ref r14), .val (.int (1 : Int32)), .val (.ref r55), .unset] [(.int vb)]))
  refine own_Fin.step (fun _ => XS.iload X55.here hx rfl (hb hby at_231) rfl) ?_
  show own_Fin p e below s _ _ _ (T55.setTop (mkF m 233 #[.val (.long q1), .second, .val (.long q2), .second, .val (.long q3), .second, .val (.int p4), .val (.int va), .val (.int vb), .val (.int vc), .val (.int vd), .val (.int ve), .val (.int vf), .val (.int sv), .val (.ref b3), .val (.ref r14), .val (.int (1 : Int32)), .val (.ref r55), .unset] [(.int vb), (.int vb)]))
  refine own_Fin.step (fun _ => XS.icmpNo X55.here hx rfl (hb hby at_233) rfl (XT.ii_ne_f (rfl : vb = vb))) ?_
  show own_Fin p e below s _ _ _ (T55.setTop (mkF m 236 #[.val (.long q1), .second, .val (.long q2), .second, .val (.long q3), .second, .val (.int p4), .val (.int va), .val (.int vb), .val (.int vc), .val (.int vd), .val (.int ve), .val (.int vf), .val (.int sv), .val (.ref b3), .val (.ref r14), .val (.int (1 : Int32)), .val (.ref r55), .unset] []))
  refine own_Fin.step (fun _ => XS.aload X55.here hx rfl (hb hby at_236) rfl rfl) ?_
  show own_Fin p e below s _ _ _ (T55.setTop (mkF m 238 #[.val (.long q1), .second, .val (.long q2), .second, .val (.long q3), .second, .val (.int p4), .val (.int va), .val (.int vb), .val (.int vc), .val (.int vd), .val (.int ve), .val (.int vf), .val (.int sv), .val (.ref b3), .val (.ref r14), .val (.int (1 : Int32)), .val (.ref r55), .unset] [(.ref r55)]))
  refine own_Fin.step (fun _ => XS.iconst X55.here hx rfl (hb hby at_238)) ?_
  show own_Fin p e below s _ _ _ (T55.setTop (mkF m 239 #[.val (.long q1), .second, .val (.long q2), .second, .val (.long q3), .second, .val (.int p4), .val (.int va), .val (.int vb), .val (.int vc), .val (.int vd), .val (.int ve), .val (.int vf), .val (.int sv), .val (.ref b3), .val (.ref r14), .val (.int (1 : Int32)), .val (.ref r55), .unset] [(.int (2 : Int32)), (.ref r55)]))
  refine own_Fin.step (own_ldI X55 hx hZ rfl V55 (j := (2 : Int32)) (v := (.int vc)) ⟨by decide, by decide⟩ rfl (g := (mkF m 239 #[.val (.long q1), .second, .val (.long q2), .second, .val (.long q3), .second, .val (.int p4), .val (.int va), .val (.int vb), .val (.int vc), .val (.int vd), .val (.int ve), .val (.int vf), .val (.int sv), .val (.ref b3), .val (.ref r14), .val (.int (1 : Int32)), .val (.ref r55), .unset] [(.int (2 : Int32)), (.ref r55)])) rfl rfl (hb hby at_239)) ?_
  show own_Fin p e below s _ _ _ (T55.setTop (mkF m 240 #[.val (.long q1), .second, .val (.long q2), .second, .val (.long q3), .second, .val (.int p4), .val (.int va), .val (.int vb), .val (.int vc), .val (.int vd), .val (.int ve), .val (.int vf), .val (.int sv), .val (.ref b3), .val (.ref r14), .val (.int (1 : Int32)), .val (.ref r55), .unset] [(.int vc)]))
  refine own_Fin.step (fun _ => XS.iload X55.here hx rfl (hb hby at_240) rfl) ?_
  show own_Fin p e below s _ _ _ (T55.setTop (mkF m 242 #[.val (.long q1), .second, .val (.long q2), .second, .val (.long q3), .second, .val (.int p4), .val (.int va), .val (.int vb), .val (.int vc), .val (.int vd), .val (.int ve), .val (.int vf), .val (.int sv), .val (.ref b3), .val (.ref r14), .val (.int (1 : Int32)), .val (.ref r55), .unset] [(.int vc), (.int vc)]))
  refine own_Fin.step (fun _ => XS.icmpNo X55.here hx rfl (hb hby at_242) rfl (XT.ii_ne_f (rfl : vc = vc))) ?_
  show own_Fin p e below s _ _ _ (T55.setTop (mkF m 245 #[.val (.long q1), .second, .val (.long q2), .second, .val (.long q3), .second, .val (.int p4), .val (.int va), .val (.int vb), .val (.int vc), .val (.int vd), .val (.int ve), .val (.int vf), .val (.int sv), .val (.ref b3), .val (.ref r14), .val (.int (1 : Int32)), .val (.ref r55), .unset] []))
  refine own_Fin.step (fun _ => XS.aload X55.here hx rfl (hb hby at_245) rfl rfl) ?_
  show own_Fin p e below s _ _ _ (T55.setTop (mkF m 247 #[.val (.long q1), .second, .val (.long q2), .second, .val (.long q3), .second, .val (.int p4), .val (.int va), .val (.int vb), .val (.int vc), .val (.int vd), .val (.int ve), .val (.int vf), .val (.int sv), .val (.ref b3), .val (.ref r14), .val (.int (1 : Int32)), .val (.ref r55), .unset] [(.ref r55)]))
  refine own_Fin.step (fun _ => XS.iconst X55.here hx rfl (hb hby at_247)) ?_
  show own_Fin p e below s _ _ _ (T55.setTop (mkF m 248 #[.val (.long q1), .second, .val (.long q2), .second, .val (.long q3), .second, .val (.int p4), .val (.int va), .val (.int vb), .val (.int vc), .val (.int vd), .val (.int ve), .val (.int vf), .val (.int sv), .val (.ref b3), .val (.ref r14), .val (.int (1 : Int32)), .val (.ref r55), .unset] [(.int (3 : Int32)), (.ref r55)]))
  refine own_Fin.step (own_ldI X55 hx hZ rfl V55 (j := (3 : Int32)) (v := (.int vd)) ⟨by decide, by decide⟩ rfl (g := (mkF m 248 #[.val (.long q1), .second, .val (.long q2), .second, .val (.long q3), .second, .val (.int p4), .val (.int va), .val (.int vb), .val (.int vc), .val (.int vd), .val (.int ve), .val (.int vf), .val (.int sv), .val (.ref b3), .val (.ref r14), .val (.int (1 : Int32)), .val (.ref r55), .unset] [(.int (3 : Int32)), (.ref r55)])) rfl rfl (hb hby at_248)) ?_
  show own_Fin p e below s _ _ _ (T55.setTop (mkF m 249 #[.val (.long q1), .second, .val (.long q2), .second, .val (.long q3), .second, .val (.int p4), .val (.int va), .val (.int vb), .val (.int vc), .val (.int vd), .val (.int ve), .val (.int vf), .val (.int sv), .val (.ref b3), .val (.ref r14), .val (.int (1 : Int32)), .val (.ref r55), .unset] [(.int vd)]))
  refine own_Fin.step (fun _ => XS.iload X55.here hx rfl (hb hby at_249) rfl) ?_
  show own_Fin p e below s _ _ _ (T55.setTop (mkF m 251 #[.val (.long q1), .second, .val (.long q2), .second, .val (.long q3), .second, .val (.int p4), .val (.int va), .val (.int vb), .val (.int vc), .val (.int vd), .val (.int ve), .val (.int vf), .val (.int sv), .val (.ref b3), .val (.ref r14), .val (.int (1 : Int32)), .val (.ref r55), .unset] [(.int vd), (.int vd)]))
  refine own_Fin.step (fun _ => XS.icmpNo X55.here hx rfl (hb hby at_251) rfl (XT.ii_ne_f (rfl : vd = vd))) ?_
  show own_Fin p e below s _ _ _ (T55.setTop (mkF m 254 #[.val (.long q1), .second, .val (.long q2), .second, .val (.long q3), .second, .val (.int p4), .val (.int va), .val (.int vb), .val (.int vc), .val (.int vd), .val (.int ve), .val (.int vf), .val (.int sv), .val (.ref b3), .val (.ref r14), .val (.int (1 : Int32)), .val (.ref r55), .unset] []))
  refine own_Fin.step (fun _ => XS.aload X55.here hx rfl (hb hby at_254) rfl rfl) ?_
  show own_Fin p e below s _ _ _ (T55.setTop (mkF m 256 #[.val (.long q1), .second, .val (.long q2), .second, .val (.long q3), .second, .val (.int p4), .val (.int va), .val (.int vb), .val (.int vc), .val (.int vd), .val (.int ve), .val (.int vf), .val (.int sv), .val (.ref b3), .val (.ref r14), .val (.int (1 : Int32)), .val (.ref r55), .unset] [(.ref r55)]))
  refine own_Fin.step (fun _ => XS.iconst X55.here hx rfl (hb hby at_256)) ?_
  show own_Fin p e below s _ _ _ (T55.setTop (mkF m 257 #[.val (.long q1), .second, .val (.long q2), .second, .val (.long q3), .second, .val (.int p4), .val (.int va), .val (.int vb), .val (.int vc), .val (.int vd), .val (.int ve), .val (.int vf), .val (.int sv), .val (.ref b3), .val (.ref r14), .val (.int (1 : Int32)), .val (.ref r55), .unset] [(.int (4 : Int32)), (.ref r55)]))
  refine own_Fin.step (own_ldI X55 hx hZ rfl V55 (j := (4 : Int32)) (v := (.int ve)) ⟨by decide, by decide⟩ rfl (g := (mkF m 257 #[.val (.long q1), .second, .val (.long q2), .second, .val (.long q3), .second, .val (.int p4), .val (.int va), .val (.int vb), .val (.int vc), .val (.int vd), .val (.int ve), .val (.int vf), .val (.int sv), .val (.ref b3), .val (.ref r14), .val (.int (1 : Int32)), .val (.ref r55), .unset] [(.int (4 : Int32)), (.ref r55)])) rfl rfl (hb hby at_257)) ?_
  show own_Fin p e below s _ _ _ (T55.setTop (mkF m 258 #[.val (.long q1), .second, .val (.long q2), .second, .val (.long q3), .second, .val (.int p4), .val (.int va), .val (.int vb), .val (.int vc), .val (.int vd), .val (.int ve), .val (.int vf), .val (.int sv), .val (.ref b3), .val (.ref r14), .val (.int (1 : Int32)), .val (.ref r55), .unset] [(.int ve)]))
  refine own_Fin.step (fun _ => XS.iload X55.here hx rfl (hb hby at_258) rfl) ?_
  show own_Fin p e below s _ _ _ (T55.setTop (mkF m 260 #[.val (.long q1), .second, .val (.long q2), .second, .val (.long q3), .second, .val (.int p4), .val (.int va), .val (.int vb), .val (.int vc), .val (.int vd), .val (.int ve), .val (.int vf), .val (.int sv), .val (.ref b3), .val (.ref r14), .val (.int (1 : Int32)), .val (.ref r55), .unset] [(.int ve), (.int ve)]))
  refine own_Fin.step (fun _ => XS.icmpNo X55.here hx rfl (hb hby at_260) rfl (XT.ii_ne_f (rfl : ve = ve))) ?_
  show own_Fin p e below s _ _ _ (T55.setTop (mkF m 263 #[.val (.long q1), .second, .val (.long q2), .second, .val (.long q3), .second, .val (.int p4), .val (.int va), .val (.int vb), .val (.int vc), .val (.int vd), .val (.int ve), .val (.int vf), .val (.int sv), .val (.ref b3), .val (.ref r14), .val (.int (1 : Int32)), .val (.ref r55), .unset] []))
  refine own_Fin.step (fun _ => XS.aload X55.here hx rfl (hb hby at_263) rfl rfl) ?_
  show own_Fin p e below s _ _ _ (T55.setTop (mkF m 265 #[.val (.long q1), .second, .val (.long q2), .second, .val (.long q3), .second, .val (.int p4), .val (.int va), .val (.int vb), .val (.int vc), .val (.int vd), .val (.int ve), .val (.int vf), .val (.int sv), .val (.ref b3), .val (.ref r14), .val (.int (1 : Int32)), .val (.ref r55), .unset] [(.ref r55)]))
  refine own_Fin.step (fun _ => XS.iconst X55.here hx rfl (hb hby at_265)) ?_
  show own_Fin p e below s _ _ _ (T55.setTop (mkF m 266 #[.val (.long q1), .second, .val (.long q2), .second, .val (.long q3), .second, .val (.int p4), .val (.int va), .val (.int vb), .val (.int vc), .val (.int vd), .val (.int ve), .val (.int vf), .val (.int sv), .val (.ref b3), .val (.ref r14), .val (.int (1 : Int32)), .val (.ref r55), .unset] [(.int (5 : Int32)), (.ref r55)]))
  refine own_Fin.step (own_ldI X55 hx hZ rfl V55 (j := (5 : Int32)) (v := (.int vf)) ⟨by decide, by decide⟩ rfl (g := (mkF m 266 #[.val (.long q1), .second, .val (.long q2), .second, .val (.long q3), .second, .val (.int p4), .val (.int va), .val (.int vb), .val (.int vc), .val (.int vd), .val (.int ve), .val (.int vf), .val (.int sv), .val (.ref b3), .val (.ref r14), .val (.int (1 : Int32)), .val (.ref r55), .unset] [(.int (5 : Int32)), (.ref r55)])) rfl rfl (hb hby at_266)) ?_
  show own_Fin p e below s _ _ _ (T55.setTop (mkF m 267 #[.val (.long q1), .second, .val (.long q2), .second, .val (.long q3), .second, .val (.int p4), .val (.int va), .val (.int vb), .val (.int vc), .val (.int vd), .val (.int ve), .val (.int vf), .val (.int sv), .val (.ref b3), .val (.ref r14), .val (.int (1 : Int32)), .val (.ref r55), .unset] [(.int vf)]))
  refine own_Fin.step (fun _ => XS.iload X55.here hx rfl (hb hby at_267) rfl) ?_
  show own_Fin p e below s _ _ _ (T55.setTop (mkF m 269 #[.val (.long q1), .second, .val (.long q2), .second, .val (.long q3), .second, .val (.int p4), .val (.int va), .val (.int vb), .val (.int vc), .val (.int vd), .val (.int ve), .val (.int vf), .val (.int sv), .val (.ref b3), .val (.ref r14), .val (.int (1 : Int32)), .val (.ref r55), .unset] [(.int vf), (.int vf)]))
  refine own_Fin.step (fun _ => XS.icmpNo X55.here hx rfl (hb hby at_269) rfl (XT.ii_ne_f (rfl : vf = vf))) ?_
  show own_Fin p e below s _ _ _ (T55.setTop (mkF m 272 #[.val (.long q1), .second, .val (.long q2), .second, .val (.long q3), .second, .val (.int p4), .val (.int va), .val (.int vb), .val (.int vc), .val (.int vd), .val (.int ve), .val (.int vf), .val (.int sv), .val (.ref b3), .val (.ref r14), .val (.int (1 : Int32)), .val (.ref r55), .unset] []))
  refine own_Fin.step (fun _ => XS.aload X55.here hx rfl (hb hby at_272) rfl rfl) ?_
  show own_Fin p e below s _ _ _ (T55.setTop (mkF m 274 #[.val (.long q1), .second, .val (.long q2), .second, .val (.long q3), .second, .val (.int p4), .val (.int va), .val (.int vb), .val (.int vc), .val (.int vd), .val (.int ve), .val (.int vf), .val (.int sv), .val (.ref b3), .val (.ref r14), .val (.int (1 : Int32)), .val (.ref r55), .unset] [(.ref r55)]))
  refine own_Fin.step (fun _ => XS.bipush X55.here hx rfl (hb hby at_274)) ?_
  show own_Fin p e below s _ _ _ (T55.setTop (mkF m 276 #[.val (.long q1), .second, .val (.long q2), .second, .val (.long q3), .second, .val (.int p4), .val (.int va), .val (.int vb), .val (.int vc), .val (.int vd), .val (.int ve), .val (.int vf), .val (.int sv), .val (.ref b3), .val (.ref r14), .val (.int (1 : Int32)), .val (.ref r55), .unset] [(.int (6 : Int32)), (.ref r55)]))
  refine own_Fin.step (own_ldI X55 hx hZ rfl V55 (j := (6 : Int32)) (v := (.int sv)) ⟨by decide, by decide⟩ rfl (g := (mkF m 276 #[.val (.long q1), .second, .val (.long q2), .second, .val (.long q3), .second, .val (.int p4), .val (.int va), .val (.int vb), .val (.int vc), .val (.int vd), .val (.int ve), .val (.int vf), .val (.int sv), .val (.ref b3), .val (.ref r14), .val (.int (1 : Int32)), .val (.ref r55), .unset] [(.int (6 : Int32)), (.ref r55)])) rfl rfl (hb hby at_276)) ?_
  show own_Fin p e below s _ _ _ (T55.setTop (mkF m 277 #[.val (.long q1), .second, .val (.long q2), .second, .val (.long q3), .second, .val (.int p4), .val (.int va), .val (.int vb), .val (.int vc), .val (.int vd), .val (.int ve), .val (.int vf), .val (.int sv), .val (.ref b3), .val (.ref r14), .val (.int (1 : Int32)), .val (.ref r55), .unset] [(.int sv)]))
  refine own_Fin.step (fun _ => XS.iload X55.here hx rfl (hb hby at_277) rfl) ?_
  show own_Fin p e below s _ _ _ (T55.setTop (mkF m 279 #[.val (.long q1), .second, .val (.long q2), .second, .val (.long q3), .second, .val (.int p4), .val (.int va), .val (.int vb), .val (.int vc), .val (.int vd), .val (.int ve), .val (.int vf), .val (.int sv), .val (.ref b3), .val (.ref r14), .val (.int (1 : Int32)), .val (.ref r55), .unset] [(.int sv), (.int sv)]))
  refine own_Fin.step (fun _ => XS.icmpNo X55.here hx rfl (hb hby at_279) rfl (XT.ii_ne_f (rfl : sv = sv))) ?_
  show own_Fin p e below s _ _ _ (T55.setTop (mkF m 282 #[.val (.long q1), .second, .val (.long q2), .second, .val (.long q3), .second, .val (.int p4), .val (.int va), .val (.int vb), .val (.int vc), .val (.int vd), .val (.int ve), .val (.int vf), .val (.int sv), .val (.ref b3), .val (.ref r14), .val (.int (1 : Int32)), .val (.ref r55), .unset] []))
  refine own_Fin.step (fun _ => XS.iconst X55.here hx rfl (hb hby at_282)) ?_
  show own_Fin p e below s _ _ _ (T55.setTop (mkF m 283 #[.val (.long q1), .second, .val (.long q2), .second, .val (.long q3), .second, .val (.int p4), .val (.int va), .val (.int vb), .val (.int vc), .val (.int vd), .val (.int ve), .val (.int vf), .val (.int sv), .val (.ref b3), .val (.ref r14), .val (.int (1 : Int32)), .val (.ref r55), .unset] [(.int (1 : Int32))]))
  refine own_Fin.step (fun _ => XS.goto X55.here hx rfl (pc0 := 283) (pc' := 287) rfl (hb hby at_283) (by decide) (by decide)) ?_
  show own_Fin p e below s _ _ _ (T55.setTop (mkF m 287 #[.val (.long q1), .second, .val (.long q2), .second, .val (.long q3), .second, .val (.int p4), .val (.int va), .val (.int vb), .val (.int vc), .val (.int vd), .val (.int ve), .val (.int vf), .val (.int sv), .val (.ref b3), .val (.ref r14), .val (.int (1 : Int32)), .val (.ref r55), .unset] [(.int (1 : Int32))]))
  refine own_Fin.step (fun _ => XS.istore X55.here hx rfl (hb hby at_287) rfl (l' := #[.val (.long q1), .second, .val (.long q2), .second, .val (.long q3), .second, .val (.int p4), .val (.int va), .val (.int vb), .val (.int vc), .val (.int vd), .val (.int ve), .val (.int vf), .val (.int sv), .val (.ref b3), .val (.ref r14), .val (.int (1 : Int32)), .val (.ref r55), .val (.int (1 : Int32))]) rfl) ?_
  show own_Fin p e below s _ _ _ (T55.setTop (mkF m 289 #[.val (.long q1), .second, .val (.long q2), .second, .val (.long q3), .second, .val (.int p4), .val (.int va), .val (.int vb), .val (.int vc), .val (.int vd), .val (.int ve), .val (.int vf), .val (.int sv), .val (.ref b3), .val (.ref r14), .val (.int (1 : Int32)), .val (.ref r55), .val (.int (1 : Int32))] []))
  refine own_Fin.step (fun _ => XS.iload X55.here hx rfl (hb hby at_289) rfl) ?_
  show own_Fin p e below s _ _ _ (T55.setTop (mkF m 291 #[.val (.long q1), .second, .val (.long q2), .second, .val (.long q3), .second, .val (.int p4), .val (.int va), .val (.int vb), .val (.int vc), .val (.int vd), .val (.int ve), .val (.int vf), .val (.int sv), .val (.ref b3), .val (.ref r14), .val (.int (1 : Int32)), .val (.ref r55), .val (.int (1 : Int32))] [(.int (1 : Int32))]))
  refine own_Fin.step (fun _ => XS.ifNo X55.here hx rfl (hb hby at_291) rfl (XT.i0_eq_f (by decide : ¬ ((1 : Int32) = (0 : Int32))))) ?_
  show own_Fin p e below s _ _ _ (T55.setTop (mkF m 294 #[.val (.long q1), .second, .val (.long q2), .second, .val (.long q3), .second, .val (.int p4), .val (.int va), .val (.int vb), .val (.int vc), .val (.int vd), .val (.int ve), .val (.int vf), .val (.int sv), .val (.ref b3), .val (.ref r14), .val (.int (1 : Int32)), .val (.ref r55), .val (.int (1 : Int32))] []))
  refine own_Fin.step (fun _ => XS.iload X55.here hx rfl (hb hby at_294) rfl) ?_
  show own_Fin p e below s _ _ _ (T55.setTop (mkF m 296 #[.val (.long q1), .second, .val (.long q2), .second, .val (.long q3), .second, .val (.int p4), .val (.int va), .val (.int vb), .val (.int vc), .val (.int vd), .val (.int ve), .val (.int vf), .val (.int sv), .val (.ref b3), .val (.ref r14), .val (.int (1 : Int32)), .val (.ref r55), .val (.int (1 : Int32))] [(.int (1 : Int32))]))
  refine own_Fin.step (fun _ => XS.ifNo X55.here hx rfl (hb hby at_296) rfl (XT.i0_eq_f (by decide : ¬ ((1 : Int32) = (0 : Int32))))) ?_
  show own_Fin p e below s _ _ _ (T55.setTop (mkF m 299 #[.val (.long q1), .second, .val (.long q2), .second, .val (.long q3), .second, .val (.int p4), .val (.int va), .val (.int vb), .val (.int vc), .val (.int vd), .val (.int ve), .val (.int vf), .val (.int sv), .val (.ref b3), .val (.ref r14), .val (.int (1 : Int32)), .val (.ref r55), .val (.int (1 : Int32))] []))
  refine own_Fin.step (fun _ => XS.iconst X55.here hx rfl (hb hby at_299)) ?_
  show own_Fin p e below s _ _ _ (T55.setTop (mkF m 300 #[.val (.long q1), .second, .val (.long q2), .second, .val (.long q3), .second, .val (.int p4), .val (.int va), .val (.int vb), .val (.int vc), .val (.int vd), .val (.int ve), .val (.int vf), .val (.int sv), .val (.ref b3), .val (.ref r14), .val (.int (1 : Int32)), .val (.ref r55), .val (.int (1 : Int32))] [(.int (1 : Int32))]))
  refine own_Fin.step (fun _ => XS.goto X55.here hx rfl (pc0 := 300) (pc' := 304) rfl (hb hby at_300) (by decide) (by decide)) ?_
  show own_Fin p e below s _ _ _ (T55.setTop (mkF m 304 #[.val (.long q1), .second, .val (.long q2), .second, .val (.long q3), .second, .val (.int p4), .val (.int va), .val (.int vb), .val (.int vc), .val (.int vd), .val (.int ve), .val (.int vf), .val (.int sv), .val (.ref b3), .val (.ref r14), .val (.int (1 : Int32)), .val (.ref r55), .val (.int (1 : Int32))] [(.int (1 : Int32))]))
  exact own_retN X55 hx hlk (t := .boolean) hret (by simp) (hb hby at_304) ⟨rfl, N55⟩ (by decide) (by decide)
set_option maxRecDepth 65536 in
set_option maxHeartbeats 40000000 in
theorem comes_1 {Post : Tables → Env → Array Value → State → Outcome → State → Prop} (hpost : ∀ tb e args s v u, (limb_1_1.after args s (.returned v) u = true ∧ limb_1_2.after args s (.returned v) u = true ∧ True) → FrameEnd s (.returned v) u (Jvm.fieldLocs frame_1_writes args s ++ Jvm.arrayLocs frame_1_arrays args s ++ Jvm.staticLocs frame_1_statics s) 16 128 → Post tb e args s (.returned v) u) :
    ArmFor flags0 classFile x code maxLocals ret World_1 tables_1 room_1 Calls_1 rest_1 Pre_1 Post := by
  intro l hfl _ _ p e ha hc hk s m args below hf hA hF happ hP
  obtain ⟨hcalls, hrest, hpre⟩ := hP
  obtain ⟨-, -, -, hnamed, -, -, -, hat⟩ := (Spec.applies_iff hf).mp happ
  obtain ⟨hg, hn⟩ := and_e (Cond.before_iff.mp (show (Jvm.Cond.and given_1 narrow_1).before args s = true from hpre))
  obtain ⟨hcount, g0⟩ := and_e hg
  obtain ⟨a0, g1⟩ := and_e g0
  obtain ⟨a1, g2⟩ := and_e g1
  obtain ⟨a2, g3⟩ := and_e g2
  have a3 := g3
  obtain ⟨w0, w1, w2, w3, rfl⟩ : ∃ w0 w1 w2 w3 : Value, args = #[w0, w1, w2, w3] := by
    have hs : args.size = 4 := by simpa [Cond.value, given_1] using hcount
    obtain ⟨L⟩ := args
    match L, hs with
    | [w0, w1, w2, w3], _ => exact ⟨w0, w1, w2, w3, rfl⟩
  have hw := fun d (hd : d ∈ tables_1) => atoms_spec (ws := Jvm.Cond.code x code maxLocals ret :: tables_1) hat d (List.mem_cons_of_mem _ hd)
  obtain ⟨i0, ei0⟩ := isL_v a0
  obtain rfl : w0 = (.long i0) := Option.some.inj ei0
  obtain ⟨i1, ei1⟩ := isL_v a1
  obtain rfl : w1 = (.long i1) := Option.some.inj ei1
  obtain ⟨i2, ei2⟩ := isL_v a2
  obtain rfl : w2 = (.long i2) := Option.some.inj ei2
  obtain ⟨i3, ei3⟩ := is_v a3
  obtain rfl : w3 = (.int i3) := Option.some.inj ei3
  obtain ⟨n, o, h1, h2, h3, _, L, rfl, ⟨rfl, N⟩, hq⟩ := rm0 l s _ hw i0 i1 i2 i3 s.heap s.heap.size (Nat.le_refl _)  p e ha hc hk s m _ below hf ((Spec.applies_iff_loose hf).mp happ).1 ⟨rfl, State.Warmed39.refl s, rfl⟩ trivial
  refine ⟨n, _, h1, h2, h3, hpost _ _ _ _ _ _ ⟨Cond.after_iff.mpr rfl, Cond.after_iff.mpr (eq_i res_at (Term.int_eval (1)) rfl), trivial⟩ ⟨hq.1, hq.2.1, (hq.2.2.sift fun y hy => Or.inr (N y hy)).mono (by decide) (by decide)⟩⟩
theorem main_1_1 : Claimed_1_1 := comes_1 fun _ _ _ _ _ _ h hF => ⟨h.1, hF⟩
theorem main_1_2 : Claimed_1_2 := comes_1 fun _ _ _ _ _ _ h hF => ⟨h.2.1, hF⟩
end Jvm.Pilot.@@N@@
namespace Jvm.Pilot.@@N@@
open Jvm Jvm.ClassFile Sem Op Lib Jvm.Free Jvm.Stand Jvm.Pilot.@@N@@.Jvm.D
/-! MADE BY PROGRAM (witnessworld.py) out of the Statement's table words and the real class files: 11 classes; the members and pool entries that the words name. The judged class is class 1, her method 1. -/
namespace start1
open Jvm.ClassFile
def u (s : String) : CpInfo := .utf8 (stringToUtf16 s)
/-- a pool by its gaps: so many unusable entries, then the entry; so many at the end -/
def gap : Nat → List CpInfo → List CpInfo
  | 0, r => r
  | n + 1, r => .unusable :: gap n r
def poolList (es : List (Nat × CpInfo)) (last : Nat) : List CpInfo := es.foldr (fun e r => gap e.1 (e.2 :: r)) (gap last [])
def pool (es : List (Nat × CpInfo)) (last : Nat) : Array CpInfo := ⟨poolList es last⟩
def fileOf (pool : Array CpInfo) (this : Nat) (attrs : Array Attribute := #[]) (ms : Array MethodInfo := #[]) (fl : Nat := 33) (sup : Nat := 0) (ifs : Array Nat := #[]) (fds : Array FieldInfo := #[]) : ClassFile where
  minorVersion := 0
  majorVersion := 65
  constantPool := pool
  accessFlags := fl
  thisClass := this
  superClass := sup
  interfaces := ifs
  fields := fds
  methods := ms
  attributes := attrs
def plain (name : String) (sup : Option ClassId) : Class where
  name := name
  kind := .ordinary
  loader := none
  accessFlags := 33
  super := sup
  interfaces := #[]
  cf := none
  fields := #[]
  methods := #[]
  instanceTypes := #[]
  staticTypes := #[]
  resolved := #[]
  callSites := []
  init := .initialized
  statics := none
  mirror := none

def pool0 : Array CpInfo := pool [(5, u "<init>"), (0, u "()V"), (1, .class_ 10), (1, u "java/lang/Object")] 113

def k0c0 : Code := { maxStack := 0, maxLocals := 1, code := object_method_1_code, exceptionTable := #[], attributes := #[] }
def k0m0 : Method := { name := "<init>", desc := "()V", sig := { parameters := [], returnType := none }, accessFlags := 1, code := some k0c0 }
/-- java/lang/Object -/
def k0 : Class := { plain "java/lang/Object" none with
  accessFlags := 33
  interfaces := #[]
  cf := some (fileOf pool0 8 #[] #[{ accessFlags := 1, nameIndex := 5, descriptorIndex := 6, attributes := #[] }] 33 0 #[] #[])
  fields := #[]
  methods := #[k0m0]
  instanceTypes := #[]
  staticTypes := #[]
  resolved := Array.replicate 124 none
  statics := none }

def pool1 : Array CpInfo := pool [(2, .class_ 4), (1, u "java/lang/Object"), (0, u "<init>"), (0, u "()V"), (0, .class_ 8), (0, u "com/example/raw_to_screen/rawtoscreen/mapping/Calibration"), (0, .methodref 7 10), (0, .nameAndType 5 11), (0, u "(IIIIIII)V"), (0, .methodref 7 13), (0, .nameAndType 14 15), (0, u "integers"), (0, u "()[I"), (0, .class_ 17), (0, u "com/example/raw_to_screen/rawtoscreen/mapping/CalibrationIntegersPinLaw"), (2, u "law"), (0, u "(JJJI)Z")] 5

def k1m0 : Method := { name := "<init>", desc := "()V", sig := { parameters := [], returnType := none }, accessFlags := 1, code := none }
def k1c1 : Code := { maxStack := 9, maxLocals := 19, code := code, exceptionTable := #[], attributes := #[] }
def k1m1 : Method := { name := "law", desc := "(JJJI)Z", sig := { parameters := [.long, .long, .long, .int], returnType := some .boolean }, accessFlags := 9, code := some k1c1 }
/-- com/example/raw_to_screen/rawtoscreen/mapping/CalibrationIntegersPinLaw -/
def k1 : Class := { plain "com/example/raw_to_screen/rawtoscreen/mapping/CalibrationIntegersPinLaw" (some 0) with
  accessFlags := 49
  interfaces := #[]
  cf := some (fileOf pool1 16 #[] #[{ accessFlags := 1, nameIndex := 5, descriptorIndex := 6, attributes := #[] }, { accessFlags := 9, nameIndex := 20, descriptorIndex := 21, attributes := #[] }] 49 2 #[] #[])
  fields := #[]
  methods := #[k1m0, k1m1]
  instanceTypes := #[]
  staticTypes := #[]
  resolved := Array.replicate 27 none
  statics := none }

def pool2 : Array CpInfo := pool [(2, .class_ 4), (1, u "com/example/raw_to_screen/rawtoscreen/mapping/ScreenMapping"), (11, .class_ 17), (0, u "java/lang/Object")] 7

/-- com/example/raw_to_screen/rawtoscreen/mapping/ScreenMapping -/
def k2 : Class := { plain "com/example/raw_to_screen/rawtoscreen/mapping/ScreenMapping" (some 0) with
  accessFlags := 1537
  interfaces := #[]
  cf := some (fileOf pool2 2 #[] #[] 1537 16 #[] #[])
  fields := #[]
  methods := #[]
  instanceTypes := #[]
  staticTypes := #[]
  resolved := Array.replicate 25 none
  statics := none }

def pool3 : Array CpInfo := pool [(1, .methodref 2 3), (0, .class_ 4), (0, .nameAndType 5 6), (0, u "java/lang/Object"), (0, u "<init>"), (0, u "()V"), (4, .class_ 13), (1, u "com/example/raw_to_screen/rawtoscreen/mapping/InPlaceMapping"), (9, .class_ 24), (0, u "com/example/raw_to_screen/rawtoscreen/mapping/InPlaceMapping$1"), (3, .class_ 29), (0, u "com/example/raw_to_screen/rawtoscreen/mapping/ScreenMapping")] 10

def k3c0 : Code := { maxStack := 1, maxLocals := 1, code := prog_72_method_1_code, exceptionTable := #[], attributes := #[] }
def k3m0 : Method := { name := "<init>", desc := "()V", sig := { parameters := [], returnType := none }, accessFlags := 0, code := some k3c0 }
/-- com/example/raw_to_screen/rawtoscreen/mapping/InPlaceMapping -/
def k3 : Class := { plain "com/example/raw_to_screen/rawtoscreen/mapping/InPlaceMapping" (some 0) with
  accessFlags := 1056
  interfaces := #[2]
  cf := some (fileOf pool3 11 #[.nestMembers #[23]] #[{ accessFlags := 0, nameIndex := 5, descriptorIndex := 6, attributes := #[] }] 1056 2 #[28] #[])
  fields := #[]
  methods := #[k3m0]
  instanceTypes := #[]
  staticTypes := #[]
  resolved := Array.replicate 40 none
  statics := none }

def pool4 : Array CpInfo := pool [(1, .methodref 2 3), (0, .class_ 4), (0, .nameAndType 5 6), (0, u "com/example/raw_to_screen/rawtoscreen/mapping/InPlaceMapping"), (0, u "<init>"), (0, u "()V"), (7, .fieldref 15 16), (0, .class_ 17), (0, .nameAndType 18 19), (0, u "com/example/raw_to_screen/rawtoscreen/mapping/Calibration"), (0, u "a"), (0, u "I"), (0, .fieldref 15 21), (0, .nameAndType 22 19), (0, u "b"), (0, .fieldref 15 24), (0, .nameAndType 25 19), (0, u "c"), (0, .fieldref 15 27), (0, .nameAndType 28 19), (0, u "d"), (0, .fieldref 15 30), (0, .nameAndType 31 19), (0, u "e"), (0, .fieldref 15 33), (0, .nameAndType 34 19), (0, u "f"), (0, .fieldref 15 36), (0, .nameAndType 37 19), (0, u "s"), (31, u "(IIIIIII)V"), (6, u "integers"), (0, u "()[I")] 2

def k4c0 : Code := { maxStack := 3, maxLocals := 8, code := prog_56_method_1_code, exceptionTable := #[], attributes := #[] }
def k4m0 : Method := { name := "<init>", desc := "(IIIIIII)V", sig := { parameters := [.int, .int, .int, .int, .int, .int, .int], returnType := none }, accessFlags := 1, code := some k4c0 }
def k4c1 : Code := { maxStack := 4, maxLocals := 1, code := prog_56_method_4_code, exceptionTable := #[], attributes := #[] }
def k4m1 : Method := { name := "integers", desc := "()[I", sig := { parameters := [], returnType := some (.array .int) }, accessFlags := 0, code := some k4c1 }
/-- com/example/raw_to_screen/rawtoscreen/mapping/Calibration -/
def k4 : Class := { plain "com/example/raw_to_screen/rawtoscreen/mapping/Calibration" (some 3) with
  accessFlags := 49
  interfaces := #[]
  cf := some (fileOf pool4 15 #[] #[{ accessFlags := 1, nameIndex := 5, descriptorIndex := 69, attributes := #[] }, { accessFlags := 0, nameIndex := 76, descriptorIndex := 77, attributes := #[] }] 49 2 #[] #[{ accessFlags := 18, nameIndex := 18, descriptorIndex := 19, attributes := #[] }, { accessFlags := 18, nameIndex := 22, descriptorIndex := 19, attributes := #[] }, { accessFlags := 18, nameIndex := 25, descriptorIndex := 19, attributes := #[] }, { accessFlags := 18, nameIndex := 28, descriptorIndex := 19, attributes := #[] }, { accessFlags := 18, nameIndex := 31, descriptorIndex := 19, attributes := #[] }, { accessFlags := 18, nameIndex := 34, descriptorIndex := 19, attributes := #[] }, { accessFlags := 18, nameIndex := 37, descriptorIndex := 19, attributes := #[] }])
  fields := #[{ name := "a", type := .int, accessFlags := 18, slot := 0, constantValue := 0 }, { name := "b", type := .int, accessFlags := 18, slot := 1, constantValue := 0 }, { name := "c", type := .int, accessFlags := 18, slot := 2, constantValue := 0 }, { name := "d", type := .int, accessFlags := 18, slot := 3, constantValue := 0 }, { name := "e", type := .int, accessFlags := 18, slot := 4, constantValue := 0 }, { name := "f", type := .int, accessFlags := 18, slot := 5, constantValue := 0 }, { name := "s", type := .int, accessFlags := 18, slot := 6, constantValue := 0 }]
  methods := #[k4m0, k4m1]
  instanceTypes := #[.int, .int, .int, .int, .int, .int, .int]
  staticTypes := #[]
  resolved := Array.replicate 80 none
  statics := none }

def pool5 : Array CpInfo := pool [(1, u "java/lang/Cloneable"), (0, .class_ 1), (0, u "java/lang/Object"), (0, .class_ 3)] 3

/-- java/lang/Cloneable -/
def k5 : Class := { plain "java/lang/Cloneable" (some 0) with
  accessFlags := 1537
  interfaces := #[]
  cf := some (fileOf pool5 2 #[] #[] 1537 4 #[] #[])
  fields := #[]
  methods := #[]
  instanceTypes := #[]
  staticTypes := #[]
  resolved := Array.replicate 8 none
  statics := none }

def pool6 : Array CpInfo := pool [(1, u "java/io/Serializable"), (0, .class_ 1), (0, u "java/lang/Object"), (0, .class_ 3)] 3

/-- java/io/Serializable -/
def k6 : Class := { plain "java/io/Serializable" (some 0) with
  accessFlags := 1537
  interfaces := #[]
  cf := some (fileOf pool6 2 #[] #[] 1537 4 #[] #[])
  fields := #[]
  methods := #[]
  instanceTypes := #[]
  staticTypes := #[]
  resolved := Array.replicate 8 none
  statics := none }

/-- the primitive byte -/
def k7 : Class := { plain "byte" none with kind := .primitive 'B', accessFlags := 0x411 }
/-- [B -/
def k8 : Class := { plain "[B" (some 0) with kind := .array 7 .byte, interfaces := #[5, 6], accessFlags := 1041 }

/-- the primitive int -/
def k9 : Class := { plain "int" none with kind := .primitive 'I', accessFlags := 0x411 }
/-- [I -/
def k10 : Class := { plain "[I" (some 0) with kind := .array 9 .int, interfaces := #[5, 6], accessFlags := 1041 }

def heap : Heap := #[]
def classes : Array Class := #[k0, k1, k2, k3, k4, k5, k6, k7, k8, k9, k10]
def interned : List (Array UInt16 × Addr) := []
def slotsUsed : Nat := 0
def theMethod : MethodId := ⟨1, 1⟩
def args0 : Array Value := #[.long 5, .long 44, .long 77, .int 3]
def aboutOver (below : List Frame) : State where
  vm := { classes := classes, interned := interned.toArray }
  heap := heap
  slotsUsed := slotsUsed
  threads := #[{ frames := .invoking theMethod args0 :: below }]
def below0 : List Frame := [.native { method := ⟨0, 0⟩, args := #[] }]
def about1 : State := aboutOver below0
def p0 : Program := .bare "" "" ""
def e0 : Env := launch0.env 0 0 0
theorem w_frames : about1.frames = Frame.invoking theMethod args0 :: below0 := rfl
set_option maxRecDepth 65536 in
theorem w_args : argsFit about1.vm theMethod args0 = true := by decide +kernel
set_option maxRecDepth 65536 in
theorem w_heap : heapFits about1 = true := by decide +kernel
set_option maxRecDepth 65536 in
theorem w_runnable : about1.curStatus? = some .runnable := by decide +kernel
set_option maxRecDepth 65536 in
theorem w_alone : about1.alone = true := by decide +kernel
set_option maxRecDepth 65536 in
theorem w_named : about1.methodNamed? x = some theMethod := by decide +kernel
set_option maxRecDepth 65536 in
theorem w_hears : about1.hears theMethod below0 = true := by decide +kernel
set_option maxRecDepth 65536 in
theorem w_ripe : about1.ripe theMethod args0 below0 = true := by decide +kernel
theorem w_running : about1.status = .running := rfl
set_option maxRecDepth 65536 in
theorem w_room : about1.hasRoom e0.platform room_1 = true :=
  launch0.hasRoom_least _ room_1 (by decide +kernel) (by decide +kernel) (by decide +kernel) (by decide +kernel) (by decide +kernel) (by decide +kernel)
theorem allAtoms_all (ts : List Jvm.Cond) (a : Array Jvm.Value) (st : Jvm.State) : (allAtoms ts).before a st = ts.all (fun c => c.before a st) := by
  induction ts with
  | nil => rfl
  | cons c t ih =>
    show (Jvm.Cond.and c (allAtoms t)).before a st = _
    rw [Jvm.Cond.before_and, ih, List.all_cons]
def words1 : List Jvm.Cond := Jvm.Cond.code x code maxLocals ret :: tables_1
/-- a 'code' word, met by the world's own term for the bytes: nothing is compared byte by byte -/
theorem code_word {y : MethodName} {bytes : ByteArray} {mx : Nat} {rt : Option FieldType} {a : Array Value} {s : State} {m : MethodId} {meth : Method} {c : Code} (h1 : s.methodNamed? y = some m) (h2 : s.vm.method? m = some meth) (h3 : meth.code = some c) (h4 : c.code = bytes)
    (h5 : (c.maxLocals == mx && c.exceptionTable.isEmpty && decide (c.maxStack ≤ mostOperands) && decide (meth.sig.returnType = rt) && !meth.locks && decide (parseMethodDescriptor y.desc = some meth.sig)) = true) : (Jvm.Cond.code y bytes mx rt).before a s = true := by
  simp only [Bool.and_eq_true, beq_iff_eq, Bool.not_eq_true', decide_eq_true_eq] at h5
  obtain ⟨⟨⟨⟨⟨g1, g2⟩, g3⟩, g4⟩, g5⟩, g6⟩ := h5
  simp [Cond.before, Cond.holds, Cond.value, h1, h2, h3, h4, g1, g2, g3, g4, g5, g6]
def isCode : Jvm.Cond → Bool
  | .code _ _ _ _ => true
  | _ => false
theorem all_split {L : List Jvm.Cond} {P : Jvm.Cond → Bool} (h1 : L.all (fun c => isCode c || P c) = true) (h2 : ∀ c ∈ L.filter isCode, P c = true) : L.all P = true := by
  refine List.all_eq_true.mpr fun c hc => ?_
  have h := List.all_eq_true.mp h1 c hc
  rcases Bool.eq_false_or_eq_true (isCode c) with hi | hi
  · exact h2 c (List.mem_filter.mpr ⟨hc, hi⟩)
  · simpa [hi] using h
set_option maxRecDepth 65536 in
theorem w_c0 : (Jvm.Cond.code x code maxLocals ret).before args0 about1 = true := code_word (m := ⟨1, 1⟩) (meth := k1m1) (c := k1c1) (by decide +kernel) rfl rfl rfl (by decide +kernel)
set_option maxRecDepth 65536 in
theorem w_c1 : (Jvm.Cond.code ({ cls := "com/example/raw_to_screen/rawtoscreen/mapping/Calibration", name := "<init>", desc := "(IIIIIII)V" } : Jvm.MethodName) prog_56_method_1_code (8 : Nat) (Option.none : Option Jvm.ClassFile.FieldType)).before args0 about1 = true := code_word (m := ⟨4, 0⟩) (meth := k4m0) (c := k4c0) (by decide +kernel) rfl rfl rfl (by decide +kernel)
set_option maxRecDepth 65536 in
theorem w_c2 : (Jvm.Cond.code ({ cls := "com/example/raw_to_screen/rawtoscreen/mapping/InPlaceMapping", name := "<init>", desc := "()V" } : Jvm.MethodName) prog_72_method_1_code (1 : Nat) (Option.none : Option Jvm.ClassFile.FieldType)).before args0 about1 = true := code_word (m := ⟨3, 0⟩) (meth := k3m0) (c := k3c0) (by decide +kernel) rfl rfl rfl (by decide +kernel)
set_option maxRecDepth 65536 in
theorem w_c3 : (Jvm.Cond.code ({ cls := "java/lang/Object", name := "<init>", desc := "()V" } : Jvm.MethodName) object_method_1_code (1 : Nat) (Option.none : Option Jvm.ClassFile.FieldType)).before args0 about1 = true := code_word (m := ⟨0, 0⟩) (meth := k0m0) (c := k0c0) (by decide +kernel) rfl rfl rfl (by decide +kernel)
set_option maxRecDepth 65536 in
theorem w_c4 : (Jvm.Cond.code ({ cls := "com/example/raw_to_screen/rawtoscreen/mapping/Calibration", name := "integers", desc := "()[I" } : Jvm.MethodName) prog_56_method_4_code (1 : Nat) (Option.some (Jvm.ClassFile.FieldType.array Jvm.ClassFile.FieldType.int))).before args0 about1 = true := code_word (m := ⟨4, 1⟩) (meth := k4m1) (c := k4c1) (by decide +kernel) rfl rfl rfl (by decide +kernel)
def codes1 : List Jvm.Cond := [Jvm.Cond.code x code maxLocals ret, Jvm.Cond.code ({ cls := "com/example/raw_to_screen/rawtoscreen/mapping/Calibration", name := "<init>", desc := "(IIIIIII)V" } : Jvm.MethodName) prog_56_method_1_code (8 : Nat) (Option.none : Option Jvm.ClassFile.FieldType), Jvm.Cond.code ({ cls := "com/example/raw_to_screen/rawtoscreen/mapping/InPlaceMapping", name := "<init>", desc := "()V" } : Jvm.MethodName) prog_72_method_1_code (1 : Nat) (Option.none : Option Jvm.ClassFile.FieldType), Jvm.Cond.code ({ cls := "java/lang/Object", name := "<init>", desc := "()V" } : Jvm.MethodName) object_method_1_code (1 : Nat) (Option.none : Option Jvm.ClassFile.FieldType), Jvm.Cond.code ({ cls := "com/example/raw_to_screen/rawtoscreen/mapping/Calibration", name := "integers", desc := "()[I" } : Jvm.MethodName) prog_56_method_4_code (1 : Nat) (Option.some (Jvm.ClassFile.FieldType.array Jvm.ClassFile.FieldType.int))]
set_option maxRecDepth 65536 in
theorem codes_eq : words1.filter isCode = codes1 := rfl
theorem w_codes : ∀ c ∈ words1.filter isCode, c.before args0 about1 = true := by
  rw [codes_eq]
  intro c hc
  simp only [codes1, List.mem_cons, List.not_mem_nil, or_false] at hc
  rcases hc with rfl | rfl | rfl | rfl | rfl
  · exact w_c0
  · exact w_c1
  · exact w_c2
  · exact w_c3
  · exact w_c4
set_option maxRecDepth 65536 in
theorem w_t1 : (words1.take 24).all (fun c => isCode c || c.before args0 about1) = true := by decide +kernel
set_option maxRecDepth 65536 in
theorem w_t2 : (words1.drop 24).all (fun c => isCode c || c.before args0 about1) = true := by decide +kernel
theorem w_tables : (allAtoms (Jvm.Cond.code x code maxLocals ret :: tables_1)).before args0 about1 = true := by
  rw [allAtoms_all]
  show words1.all (fun c => c.before args0 about1) = true
  refine all_split ?_ w_codes
  rw [← List.take_append_drop 24 words1, List.all_append, w_t1, w_t2]
  rfl
set_option maxRecDepth 65536 in
theorem w_case : (Jvm.Cond.and given_1 narrow_1).before args0 about1 = true := by decide +kernel
theorem w_applies : (headSpec (Jvm.Cond.code x code maxLocals ret :: tables_1) room_1).applies x e0.platform about1 = true :=
  (Spec.applies_iff w_frames).mpr ⟨w_running, w_runnable, w_alone, w_named, w_hears, w_ripe, w_room, w_tables⟩
theorem atStart : AtStart classFile x code maxLocals ret World_1 tables_1 room_1 Calls_1 rest_1 Pre_1 launch0 p0 e0 about1 theMethod args0 below0 :=
  ⟨lists_1, trivial, launch0.admits_env _ _ _, launch0.least_env, fairChoices_fair.cas, fairChoices_fair.clock, w_frames, w_args, w_heap, w_applies, trivial, trivial, w_case⟩
end start1
theorem witness_1 : WitnessClaimed_1 := ⟨start1.p0, start1.e0, start1.about1, start1.theMethod, start1.args0, start1.below0, start1.atStart⟩
end Jvm.Pilot.@@N@@
