import JvmDerived
import JvmDerived.Pilot.@@N@@Statement
import JvmDerived.Pilot.@@N@@Code
set_option linter.unusedVariables false
set_option linter.unusedSimpArgs false
namespace Jvm.Pilot.@@N@@
open Jvm Jvm.ClassFile Sem Op Lib Jvm.Free Jvm.Stand Jvm.LawKit Jvm.RoadKit Bundle Jvm.Pilot.@@N@@.Jvm.D
theorem own_w {Z : State} {a0 : Array Value} (hw : ∀ d ∈ tables_1, d.before a0 Z = true) (k : Nat) {d : Jvm.Cond} (h : tables_1[k]? = some d) : d.before a0 Z = true := hw _ (List.mem_of_getElem? h)
/-- the run from U ends, and Q says what it leaves -/
def own_Fin (p : Program) (e : Env) (below : List Frame) (s : State) (Q : Option Value → Heap → List Loc → Prop) (k n : Nat) (U : State) : Prop :=
  ∃ s₂ o, Steps p.tables e below U s₂ ∧ s₂.status = .running ∧ Ended s₂ below o ∧ ∃ v L, o = .returned v ∧ Q v s₂.heap L ∧ FrameEnd s o s₂ L k n
theorem own_Fin.step {p : Program} {e : Env} {below : List Frame} {s : State} {Q : Option Value → Heap → List Loc → Prop} {k n : Nat} {U U' : State} (st : ∀ t, Steps p.tables e below U' t → Steps p.tables e below U t) (h : own_Fin p e below s Q k n U') : own_Fin p e below s Q k n U := by
  obtain ⟨s₂, o, h1, h2⟩ := h
  exact ⟨s₂, o, st _ h1, h2⟩
/-- a contract: called with as' at the heap h, the body leaves what Q says -/
abbrev own_Met (l : Launch) (Z : State) (ws : List Jvm.Cond) (y : MethodName) (bytes : ByteArray) (maxL : Nat) (ret : Option FieldType) (rm : Room) (as' : Array Value) (h : Heap) (Q : Option Value → Heap → List Loc → Prop) : Prop :=
  MetFree l y (head1 (Jvm.Cond.code y bytes maxL ret :: ws) rm) (fun a U => a = as' ∧ Z.Warmed39 U.vm ∧ U.heap = h) (fun _ _ _ _ _ => True) (fun _ U o U' => ∃ v L, o = .returned v ∧ Q v U'.heap L ∧ FrameEnd U o U' L rm.cells rm.slots)
/-- what a body leaves that returns w and writes nothing -/
def own_QP (w : Option Value) (h0 : Heap) (n0 : Nat) (v : Option Value) (h : Heap) (L : List Loc) : Prop := v = w ∧ Fr n0 L ∧ h = h0
/-- the law's own end -/
def own_Q0 (n0 : Nat) (v : Option Value) (h : Heap) (L : List Loc) : Prop := v = some (.int 1) ∧ Fr n0 L
theorem own_enter {l : Launch} {Z : State} {ws : List Jvm.Cond} {y : MethodName} {bytes : ByteArray} {maxL : Nat} {ret : Option FieldType} {rm : Room} {as' : Array Value} {h : Heap} {Q : Option Value → Heap → List Loc → Prop} (hp : plainFor y = true)
    (body : ∀ (p : Program) (e : Env) (s : State) (m : MethodId) (below : List Frame) (meth : Method) (c : Code) (s₁ : State), Stand p l e rm s m as' below meth c s₁ [] 0 0 → p.tables.exec = Jvm.exec → c.code = bytes → c.maxLocals = maxL → s.vm.findClass y.cls = some m.cls → meth.sig.returnType = ret → meth.locks = false → meth.name = y.name → Z.Warmed39 s.vm → s₁.heap = h →
      own_Fin p e below s Q rm.cells rm.slots (s₁.setTop (entryFrame m as' maxL))) : own_Met l Z ws y bytes maxL ret rm as' h Q := by
  refine MetFree.of_bodySF hp hisR ?_
  intro p e s m args below meth c s₁ Bd hml0 hP hK
  obtain ⟨rfl, hZ, hh⟩ := hP
  exact body p e s m below meth c s₁ (Stand.of_body Bd) Bd.exec Bd.bytes hml0 (findClass_of_methodNamed Bd.named) Bd.returns (BodyLoose.notSynchronized Bd) (name_of_methodNamed Bd.named Bd.method).1 hZ (by rw [← hh, Bd.state]; rfl)
section Own
variable {p : Program} {l : Launch} {e : Env} {R : Room} {s : State} {m : MethodId} {args : Array Value} {below : List Frame} {meth : Method} {c : Code} {T : State} {locs : List Loc} {cells slots : Nat} {Z : State} {a0 : Array Value} {h : Heap} {Q : Option Value → Heap → List Loc → Prop} {k n : Nat}
theorem own_retI (X : Stand p l e R s m args below meth c T locs cells slots) (hx : p.tables.exec = Jvm.exec) (hlk : meth.locks = false) {pc : Nat} {Ls : Array Slot} {z : Int32} {rest : List Value} (hret : meth.sig.returnType = some .int) (hd : decode c.code pc = .ok (.ireturn, 1)) (hQ : Q (some (.int z)) T.heap locs) (hk : cells ≤ k) (hn : slots ≤ n) :
    own_Fin p e below s Q k n (T.setTop (mkF m pc Ls (.int z :: rest))) := by
  obtain ⟨fs, hr, hrun, hended, hW, hsame⟩ := X.leave (v := some (.int z)) (fun h => by rw [hret] at h; cases h) hlk
  refine ⟨_, _, ?_, hrun, hended, _, _, rfl, hQ, ⟨_, rfl⟩, hW, hsame.mono hk hn⟩
  have hm' : T.vm.method? m = some meth := X.method'
  have hnn : narrow .int (.int z) = .int z := rfl
  show Steps p.tables e below (T.setTop { method := m, pc := pc, locals := Ls, stack := _ :: rest, locked := none }) _
  jvm_step X.here [X.here.top, hx, hd, hm', hret, hnn]
  first | (intro acts; rw [hr _ acts rfl rfl rfl]) | rw [hr _ _ rfl rfl rfl]
  exact Steps.refl _
theorem own_retN (X : Stand p l e R s m args below meth c T locs cells slots) (hx : p.tables.exec = Jvm.exec) (hlk : meth.locks = false) {pc : Nat} {Ls : Array Slot} {z : Int32} {t : FieldType} {rest : List Value} (hret : meth.sig.returnType = some t) (ht : t = .boolean ∨ t = .byte ∨ t = .char ∨ t = .short) (hd : decode c.code pc = .ok (.ireturn, 1)) (hQ : Q (some (.int (nar t z))) T.heap locs) (hk : cells ≤ k) (hn : slots ≤ n) :
    own_Fin p e below s Q k n (T.setTop (mkF m pc Ls (.int z :: rest))) := by
  obtain ⟨fs, hr, hrun, hended, hW, hsame⟩ := X.leave (v := some (.int (nar t z))) (fun h => by rw [hret] at h; cases h) hlk
  exact ⟨_, _, retN X hx hret ht hd hr, hrun, hended, _, _, rfl, hQ, ⟨_, rfl⟩, hW, hsame.mono hk hn⟩
theorem own_retJ (X : Stand p l e R s m args below meth c T locs cells slots) (hx : p.tables.exec = Jvm.exec) (hlk : meth.locks = false) {pc : Nat} {Ls : Array Slot} {z : Int64} (hret : meth.sig.returnType = some .long) (hd : decode c.code pc = .ok (.lreturn, 1)) (hQ : Q (some (.long z)) T.heap locs) (hk : cells ≤ k) (hn : slots ≤ n) :
    own_Fin p e below s Q k n (T.setTop (mkF m pc Ls [.long z])) := by
  obtain ⟨fs, hr, hrun, hended, hW, hsame⟩ := X.leave (v := some (.long z)) (fun h => by rw [hret] at h; cases h) hlk
  exact ⟨_, _, X.lreturnOut hx hret hd hr, hrun, hended, _, _, rfl, hQ, ⟨_, rfl⟩, hW, hsame.mono hk hn⟩
theorem own_retR (X : Stand p l e R s m args below meth c T locs cells slots) (hx : p.tables.exec = Jvm.exec) (hlk : meth.locks = false) {pc : Nat} {Ls : Array Slot} {w : Value} {t : FieldType} (hw : w.isRef = true) (hret : meth.sig.returnType = some t) (ht : t.isReference = true) (hd : decode c.code pc = .ok (.areturn, 1)) (hQ : Q (some w) T.heap locs) (hk : cells ≤ k) (hn : slots ≤ n) :
    own_Fin p e below s Q k n (T.setTop (mkF m pc Ls [w])) := by
  obtain ⟨fs, hr, hrun, hended, hW, hsame⟩ := X.leave (v := some w) (fun h => by rw [hret] at h; cases h) hlk
  exact ⟨_, _, X.areturnOut hx hw hret ht hd hr, hrun, hended, _, _, rfl, hQ, ⟨_, rfl⟩, hW, hsame.mono hk hn⟩
theorem own_ret0 (X : Stand p l e R s m args below meth c T locs cells slots) (hx : p.tables.exec = Jvm.exec) (hlk : meth.locks = false) {pc : Nat} {Ls : Array Slot} (hret : meth.sig.returnType = none) (hd : decode c.code pc = .ok (.return_, 1)) (hQ : Q none T.heap locs) (hk : cells ≤ k) (hn : slots ≤ n) :
    own_Fin p e below s Q k n (T.setTop (mkF m pc Ls [])) := by
  obtain ⟨fs, hr, hrun, hended, hW, hsame⟩ := X.leave (v := none) (fun _ => rfl) hlk
  exact ⟨_, _, X.returnOut hx hret hd hr, hrun, hended, _, _, rfl, hQ, ⟨_, rfl⟩, hW, hsame.mono hk hn⟩
theorem own_lrem {tb : Tables} [Ours tb] {target : State} {g : JFrame} (h : At T m c below) (hx : tb.exec = Jvm.exec) (hg : g.method = m) {x y : Int64} {rest : List Value} (hd : decode c.code g.pc = .ok (.lrem, 1)) (hs : g.stack = .long y :: .long x :: rest) (hy : y ≠ 0)
    (hr : Steps tb e below (T.setTop { g with pc := g.pc + 1, stack := .long (x % y) :: rest }) target) : Steps tb e below (T.setTop g) target := by
  have q : x - x / y * y = x % y := lrem_mod x y
  exact XS.lrem h hx hg hd hs hy (by rw [q]; exact hr)
theorem own_callS (X : Stand p l e R s m args below meth c T locs cells slots) (hx : p.tables.exec = Jvm.exec) (hZ : Z.Warmed39 s.vm) {own : String} {index : Nat} {y : MethodName} {bytes : ByteArray} {maxL : Nat} {ret : Option FieldType} {rm : Room} {as' : Array Value}
    (hown : s.vm.findClass own = some m.cls) (w1 : (Jvm.Cond.methodLink own index y).before a0 Z = true) (w2 : (Jvm.Cond.static y).before a0 Z = true) (w3 : (Jvm.Cond.initialized y.cls).before a0 Z = true) (w4 : (Jvm.Cond.code y bytes maxL ret).before a0 Z = true)
    (hy : y.cls ≠ "java/lang/invoke/MethodHandle" ∧ y.cls ≠ "java/lang/invoke/VarHandle") (hM : own_Met l Z [] y bytes maxL ret rm as' h Q) {W : Nat} (hf : rm.frames + 1 ≤ R.frames) (hl : W + (maxL + 11) + rm.locals ≤ R.locals) (eT : T.heap = h)
    {g : JFrame} (hg : g.method = m) (hsize : g.locals.size = c.maxLocals) {argsL rest : List Value} (hlen : ∀ sig, parseMethodDescriptor y.desc = some sig → argsL.length = sig.parameters.length) (has : argsL.toArray = as') (hstack : g.stack = argsL.reverse ++ rest) (hW : 2 * g.monitorRoom + (rest.map fun v => v.category).sum ≤ W)
    (hdg : decode c.code g.pc = .ok (.invokestatic index, 3)) (hc : cells + rm.cells ≤ R.cells) (hs : slots + rm.slots ≤ R.slots) :
    ∃ v T' L, Stand p l e R s m args below meth c T' (locs ++ L) (cells + rm.cells) (slots + rm.slots) ∧ Q v T'.heap L ∧ ∀ t, Steps p.tables e below (T'.setTop { g with pc := g.pc + 3, stack := v.toList ++ rest }) t → Steps p.tables e below (T.setTop g) t := by
  obtain ⟨v, vm1, ⟨T', L', k', n'⟩, -, X', ⟨Lc, hQ, l1, y1, z1⟩, st⟩ := Jvm.LawKit.callS X hx (y := y) hown (mvT hZ w1) (mvT hZ w2) (mvT hZ w3) (mvT hZ w4) hy (backOf (W := W) hM hZ w4 w3 hf hl) (g := g) hg hsize (argsL := argsL) (rest := rest) hlen hstack hW hdg (fun _ _ => ⟨has, eT, hc, hs⟩)
  dsimp only [Pt.U, Pt.locs, Pt.cells, Pt.slots] at X' l1 y1 z1 st hQ
  subst l1 y1 z1
  exact ⟨v, T', Lc, X', hQ, st⟩
theorem own_callN (X : Stand p l e R s m args below meth c T locs cells slots) (hx : p.tables.exec = Jvm.exec) (hZ : Z.Warmed39 s.vm) {own : String} {index : Nat} {y : MethodName} {bytes : ByteArray} {maxL : Nat} {rm : Room} {as' : Array Value} (hy1 : y.name = "<init>")
    (hown : s.vm.findClass own = some m.cls) (w1 : (Jvm.Cond.methodLink own index y).before a0 Z = true) (w2 : (Jvm.Cond.instanceMethod y).before a0 Z = true) (w3 : (Jvm.Cond.initialized y.cls).before a0 Z = true) (w4 : (Jvm.Cond.code y bytes maxL none).before a0 Z = true)
    (hy : y.cls ≠ "java/lang/invoke/MethodHandle" ∧ y.cls ≠ "java/lang/invoke/VarHandle") (hM : own_Met l Z [] y bytes maxL none rm as' h Q) {W : Nat} (hf : rm.frames + 1 ≤ R.frames) (hl : W + (maxL + 11) + rm.locals ≤ R.locals) {a : Addr} (eT : T.heap = h)
    {g : JFrame} (hg : g.method = m) (hsize : g.locals.size = c.maxLocals) {argsL rest : List Value} (hlen : ∀ sig, parseMethodDescriptor y.desc = some sig → argsL.length = sig.parameters.length) (has : (.ref a :: argsL).toArray = as') (hstack : g.stack = argsL.reverse ++ .ref a :: rest) (hW : 2 * g.monitorRoom + (rest.map fun v => v.category).sum ≤ W)
    (hdg : decode c.code g.pc = .ok (.invokespecial index, 3)) (hc : cells + rm.cells ≤ R.cells) (hs : slots + rm.slots ≤ R.slots) :
    ∃ v T' L, Stand p l e R s m args below meth c T' (locs ++ L) (cells + rm.cells) (slots + rm.slots) ∧ Q v T'.heap L ∧ ∀ t, Steps p.tables e below (T'.setTop { g with pc := g.pc + 3, stack := v.toList ++ rest }) t → Steps p.tables e below (T.setTop g) t := by
  obtain ⟨v, vm1, ⟨T', L', k', n'⟩, -, X', ⟨Lc, hQ, l1, y1, z1⟩, st⟩ := X.specialBack hx (y := y) hy1 hown (mvT hZ w1) (mvT hZ w2) (mvT hZ w4) hy (backOf (W := W) hM hZ w4 w3 hf hl) (g := g) hg hsize (Steps.refl _) (a := a) (argsL := argsL) (rest := rest) hlen hstack hW hdg (fun _ _ => ⟨has, eT, hc, hs⟩)
  dsimp only [Pt.U, Pt.locs, Pt.cells, Pt.slots] at X' l1 y1 z1 st hQ
  subst l1 y1 z1
  exact ⟨v, T', Lc, X', hQ, fun t k => st.trans k⟩
theorem own_callV (X : Stand p l e R s m args below meth c T locs cells slots) (hx : p.tables.exec = Jvm.exec) (hZ : Z.Warmed39 s.vm) {own C : String} {index : Nat} {y : MethodName} {bytes : ByteArray} {maxL : Nat} {ret : Option FieldType} {rm : Room} {as' : Array Value}
    (hown : s.vm.findClass own = some m.cls) (w1 : (Jvm.Cond.methodLink own index y).before a0 Z = true) (w2 : (Jvm.Cond.declares y).before a0 Z = true) (w5 : (Jvm.Cond.selects C y y).before a0 Z = true) (w6 : (Jvm.Cond.instanceMethod y).before a0 Z = true) (w3 : (Jvm.Cond.initialized y.cls).before a0 Z = true) (w4 : (Jvm.Cond.code y bytes maxL ret).before a0 Z = true)
    (hy : y.cls ≠ "java/lang/invoke/MethodHandle" ∧ y.cls ≠ "java/lang/invoke/VarHandle") (hM : own_Met l Z [] y bytes maxL ret rm as' h Q) {W : Nat} (hf : rm.frames + 1 ≤ R.frames) (hl : W + (maxL + 11) + rm.locals ≤ R.locals) {a : Addr} (E : Exa Z h a C) (eT : T.heap = h)
    {g : JFrame} (hg : g.method = m) (hsize : g.locals.size = c.maxLocals) {argsL rest : List Value} (hlen : ∀ sig, parseMethodDescriptor y.desc = some sig → argsL.length = sig.parameters.length) (has : (.ref a :: argsL).toArray = as') (hstack : g.stack = argsL.reverse ++ .ref a :: rest) (hW : 2 * g.monitorRoom + (rest.map fun v => v.category).sum ≤ W)
    (hdg : decode c.code g.pc = .ok (.invokevirtual index, 3)) (hc : cells + rm.cells ≤ R.cells) (hs : slots + rm.slots ≤ R.slots) :
    ∃ v T' L, Stand p l e R s m args below meth c T' (locs ++ L) (cells + rm.cells) (slots + rm.slots) ∧ Q v T'.heap L ∧ ∀ t, Steps p.tables e below (T'.setTop { g with pc := g.pc + 3, stack := v.toList ++ rest }) t → Steps p.tables e below (T.setTop g) t := by
  obtain ⟨cq, kq, qa, qb, qc⟩ := isOf hZ eT E
  obtain ⟨v, vm1, ⟨T', L', k', n'⟩, -, X', ⟨Lc, hQ, l1, y1, z1⟩, st⟩ := X.virtualBack hx (y := y) (z := y) hown (mvT hZ w1) (mvT hZ w2) (notFace_of_selects (args := #[]) (mvT hZ w5)) (mvT hZ w5) (mvT hZ w6) hy (backOf (W := W) hM hZ w4 w3 hf hl) qa qc (g := g) hg hsize (Steps.refl _) (argsL := argsL) (rest := rest) hlen hstack hW hdg (fun _ _ => ⟨has, eT, hc, hs⟩)
  dsimp only [Pt.U, Pt.locs, Pt.cells, Pt.slots] at X' l1 y1 z1 st hQ
  subst l1 y1 z1
  exact ⟨v, T', Lc, X', hQ, fun t k => st.trans k⟩
theorem own_newA (X : Stand p l e R s m args below meth c T locs cells slots) (hx : p.tables.exec = Jvm.exec) (hZ : Z.Warmed39 s.vm) {aty : ArrayType} (w : (Jvm.Cond.arrayClass (newarray.typeOf aty)).before a0 Z = true) (eT : T.heap = h) {ty : FieldType} {dv : Value} (hty : newarray.typeOf aty = ty) (hdv : defaultValue ty = dv)
    {g : JFrame} (hg : g.method = m) (hd : decode c.code g.pc = .ok (.newarray aty, 2)) {n : Int32} {rest : List Value} (hs : g.stack = .int n :: rest) (hn : ¬ n < 0) {cap : Nat} (hcap : n.toNatClampNeg ≤ cap) (hb : cap * 8 ≤ 536870912) (hc : cells + 1 ≤ R.cells) (hl : slots + cap ≤ R.slots) (N : Nat) :
    ∃ T' h' k a, Stand p l e R s m args below meth c T' locs (cells + 1) (slots + cap) ∧ T'.heap = h' ∧ Ext h h' ∧ a = h.size ∧ Arv Z h' a k ty n (List.replicate N dv) dv ∧
      ∀ t, Steps p.tables e below (T'.setTop { g with pc := g.pc + 2, stack := .ref a :: rest }) t → Steps p.tables e below (T.setTop g) t := by
  subst hty hdv
  obtain ⟨T', h', k, X', e', E, A, st⟩ := newP X hx hZ w eT hg hd hs hn hcap hb hc hl
  exact ⟨T', h', k, _, X', e', E, rfl, by simpa using (Arv.new A hn).pad (pad_rep [] _ N), st⟩
theorem own_stI (X : Stand p l e R s m args below meth c T locs cells slots) (hx : p.tables.exec = Jvm.exec) (hZ : Z.Warmed39 s.vm) (eT : T.heap = h) {a : Addr} {k : ClassId} {n : Int32} {vs : List Value} {dv : Value} (F : Arv Z h a k .int n vs dv) {j x : Int32} (hj : ¬ j < 0 ∧ j < n) (i : Nat) (hi : j.toNatClampNeg = i) (hl : i < vs.length)
    {g : JFrame} (hg : g.method = m) {rest : List Value} (hs : g.stack = .int x :: .int j :: .ref a :: rest) (hd : decode c.code g.pc = .ok (.iastore, 1)) :
    ∃ T' h', Stand p l e R s m args below meth c T' (locs ++ [⟨a, j.toNatClampNeg⟩]) cells slots ∧ T'.heap = h' ∧ Arv Z h' a k .int n (vs.set i (.int x)) dv ∧ Wr h h' a j.toNatClampNeg (.int x) ∧ ∀ t, Steps p.tables e below (T'.setTop { g with pc := g.pc + 1, stack := rest }) t → Steps p.tables e below (T.setTop g) t := by
  obtain ⟨cl, A, q1, q2, q3, H, G⟩ := F
  obtain ⟨T', h', X', e', W, st⟩ := stI X hx hZ eT A (j := j) (inb_of q2 hj) hg hs hd
  exact ⟨T', h', X', e', Arv.set A q1 q2 q3 H G rfl W i hi hl, W, st⟩
theorem own_stJ (X : Stand p l e R s m args below meth c T locs cells slots) (hx : p.tables.exec = Jvm.exec) (hZ : Z.Warmed39 s.vm) (eT : T.heap = h) {a : Addr} {k : ClassId} {n : Int32} {vs : List Value} {dv : Value} (F : Arv Z h a k .long n vs dv) {j : Int32} {x : Int64} (hj : ¬ j < 0 ∧ j < n) (i : Nat) (hi : j.toNatClampNeg = i) (hl : i < vs.length)
    {g : JFrame} (hg : g.method = m) {rest : List Value} (hs : g.stack = .long x :: .int j :: .ref a :: rest) (hd : decode c.code g.pc = .ok (.lastore, 1)) :
    ∃ T' h', Stand p l e R s m args below meth c T' (locs ++ [⟨a, j.toNatClampNeg⟩]) cells slots ∧ T'.heap = h' ∧ Arv Z h' a k .long n (vs.set i (.long x)) dv ∧ Wr h h' a j.toNatClampNeg (.long x) ∧ ∀ t, Steps p.tables e below (T'.setTop { g with pc := g.pc + 1, stack := rest }) t → Steps p.tables e below (T.setTop g) t := by
  obtain ⟨cl, A, q1, q2, q3, H, G⟩ := F
  obtain ⟨T', h', X', e', W, st⟩ := stJ X hx hZ eT A (j := j) (inb_of q2 hj) hg hs hd
  exact ⟨T', h', X', e', Arv.set A q1 q2 q3 H G rfl W i hi hl, W, st⟩
theorem own_stB (X : Stand p l e R s m args below meth c T locs cells slots) (hx : p.tables.exec = Jvm.exec) (hZ : Z.Warmed39 s.vm) (eT : T.heap = h) {a : Addr} {k : ClassId} {n : Int32} {vs : List Value} {dv : Value} (F : Arv Z h a k .byte n vs dv) {j x : Int32} (hj : ¬ j < 0 ∧ j < n) (i : Nat) (hi : j.toNatClampNeg = i) (hl : i < vs.length)
    {g : JFrame} (hg : g.method = m) {rest : List Value} (hs : g.stack = .int x :: .int j :: .ref a :: rest) (hd : decode c.code g.pc = .ok (.bastore, 1)) :
    ∃ T' h', Stand p l e R s m args below meth c T' (locs ++ [⟨a, j.toNatClampNeg⟩]) cells slots ∧ T'.heap = h' ∧ Arv Z h' a k .byte n (vs.set i (.int (nar .byte x))) dv ∧ Wr h h' a j.toNatClampNeg (.int (nar .byte x)) ∧ ∀ t, Steps p.tables e below (T'.setTop { g with pc := g.pc + 1, stack := rest }) t → Steps p.tables e below (T.setTop g) t := by
  obtain ⟨cl, A, q1, q2, q3, H, G⟩ := F
  obtain ⟨T', h', X', e', W, st⟩ := stB X hx hZ eT A (j := j) (inb_of q2 hj) hg hs hd
  exact ⟨T', h', X', e', Arv.set A q1 q2 q3 H G (fits_nar_byte x) W i hi hl, W, st⟩
theorem own_nar (y : Int32) : nar .byte y.toInt8.toInt32 = y.toInt8.toInt32 := by
  show y.toInt8.toInt32.toInt8.toInt32 = _
  simp
theorem own_stBn (X : Stand p l e R s m args below meth c T locs cells slots) (hx : p.tables.exec = Jvm.exec) (hZ : Z.Warmed39 s.vm) (eT : T.heap = h) {a : Addr} {k : ClassId} {n : Int32} {vs : List Value} {dv : Value} (F : Arv Z h a k .byte n vs dv) {j x : Int32} (hj : ¬ j < 0 ∧ j < n) (i : Nat) (hi : j.toNatClampNeg = i) (hl : i < vs.length)
    {g : JFrame} (hg : g.method = m) {rest : List Value} (hs : g.stack = .int x.toInt8.toInt32 :: .int j :: .ref a :: rest) (hd : decode c.code g.pc = .ok (.bastore, 1)) :
    ∃ T' h', Stand p l e R s m args below meth c T' (locs ++ [⟨a, j.toNatClampNeg⟩]) cells slots ∧ T'.heap = h' ∧ Arv Z h' a k .byte n (vs.set i (.int x.toInt8.toInt32)) dv ∧ Wr h h' a j.toNatClampNeg (.int x.toInt8.toInt32) ∧ ∀ t, Steps p.tables e below (T'.setTop { g with pc := g.pc + 1, stack := rest }) t → Steps p.tables e below (T.setTop g) t := by
  have h := own_stB X hx hZ eT F hj i hi hl hg hs hd
  rw [own_nar] at h
  exact h
theorem own_ldI (X : Stand p l e R s m args below meth c T locs cells slots) (hx : p.tables.exec = Jvm.exec) (hZ : Z.Warmed39 s.vm) (eT : T.heap = h) {a : Addr} {k : ClassId} {n : Int32} {vs : List Value} {dv v : Value} (F : Arv Z h a k .int n vs dv) {j : Int32} (hj : ¬ j < 0 ∧ j < n) (hv : vs.getD j.toNatClampNeg dv = v)
    {g : JFrame} (hg : g.method = m) {rest : List Value} (hs : g.stack = .int j :: .ref a :: rest) (hd : decode c.code g.pc = .ok (.iaload, 1)) :
    ∀ t, Steps p.tables e below (T.setTop { g with pc := g.pc + 1, stack := v :: rest }) t → Steps p.tables e below (T.setTop g) t := by
  obtain ⟨cl, A, q1, q2, q3, H, G⟩ := F
  have hin := inb_of q2 hj
  exact fun t kt => X.iaload hx (j := j) (v := v) (by rw [eT]; exact A.1) (State.isArrayOf_alike hZ.alike A.2.1) A.2.2 hin (H.at hin hv) hg hs hd _ kt
theorem own_ldJ (X : Stand p l e R s m args below meth c T locs cells slots) (hx : p.tables.exec = Jvm.exec) (hZ : Z.Warmed39 s.vm) (eT : T.heap = h) {a : Addr} {k : ClassId} {n : Int32} {vs : List Value} {dv v : Value} (F : Arv Z h a k .long n vs dv) {j : Int32} (hj : ¬ j < 0 ∧ j < n) (hv : vs.getD j.toNatClampNeg dv = v)
    {g : JFrame} (hg : g.method = m) {rest : List Value} (hs : g.stack = .int j :: .ref a :: rest) (hd : decode c.code g.pc = .ok (.laload, 1)) :
    ∀ t, Steps p.tables e below (T.setTop { g with pc := g.pc + 1, stack := v :: rest }) t → Steps p.tables e below (T.setTop g) t := by
  obtain ⟨cl, A, q1, q2, q3, H, G⟩ := F
  have hin := inb_of q2 hj
  exact fun t kt => X.laload hx (j := j) (v := v) (by rw [eT]; exact A.1) (State.isArrayOf_alike hZ.alike A.2.1) A.2.2 hin (H.at hin hv) hg hs hd _ kt
theorem own_ldB (X : Stand p l e R s m args below meth c T locs cells slots) (hx : p.tables.exec = Jvm.exec) (hZ : Z.Warmed39 s.vm) (eT : T.heap = h) {a : Addr} {k : ClassId} {n : Int32} {vs : List Value} {dv v : Value} (F : Arv Z h a k .byte n vs dv) {j : Int32} (hj : ¬ j < 0 ∧ j < n) (hv : vs.getD j.toNatClampNeg dv = v)
    {g : JFrame} (hg : g.method = m) {rest : List Value} (hs : g.stack = .int j :: .ref a :: rest) (hd : decode c.code g.pc = .ok (.baload, 1)) :
    ∀ t, Steps p.tables e below (T.setTop { g with pc := g.pc + 1, stack := v :: rest }) t → Steps p.tables e below (T.setTop g) t := by
  obtain ⟨cl, A, q1, q2, q3, H, G⟩ := F
  have hin := inb_of q2 hj
  exact fun t kt => X.baloadBytes hx (j := j) (v := v) (by rw [eT]; exact A.1) (State.isArrayOf_alike hZ.alike A.2.1) A.2.2 hin (H.at hin hv) hg hs hd _ kt
theorem own_len (X : Stand p l e R s m args below meth c T locs cells slots) (hx : p.tables.exec = Jvm.exec) (hZ : Z.Warmed39 s.vm) (eT : T.heap = h) {a : Addr} {k : ClassId} {ty : FieldType} {n : Int32} {vs : List Value} {dv : Value} (F : Arv Z h a k ty n vs dv)
    {g : JFrame} (hg : g.method = m) {rest : List Value} (hs : g.stack = .ref a :: rest) (hd : decode c.code g.pc = .ok (.arraylength, 1)) :
    ∀ t, Steps p.tables e below (T.setTop { g with pc := g.pc + 1, stack := .int n :: rest }) t → Steps p.tables e below (T.setTop g) t := by
  obtain ⟨cl, A, q1, q2, q3, H, G⟩ := F
  exact fun t kt => X.arraylength hx (by rw [eT]; exact A.1) (State.isArrayOf_alike hZ.alike A.2.1) hg hs hd _ (by rw [len_of q2 q3]; exact kt)
end Own
/-- a text's bytes, as ints -/
def own_bs (t : String) : List Int32 := t.toList.map fun c => Jvm.Lit.byteI c.toNat.toUInt16
def own_ln (bs : List Int32) : Int32 := Int32.ofNat bs.length
theorem own_ln_toInt {bs : List Int32} (h : bs.length < 1000) : (own_ln bs).toInt = bs.length := by
  unfold own_ln
  rw [Int32.toInt_ofNat_of_lt (by omega)]
/-- a is a String of one byte a sign, bs its bytes -/
def own_Str (Z : State) (h : Heap) (a : Addr) (bs : List Int32) : Prop := ∃ (b : Addr) (k : ClassId), Exa Z h a "java/lang/String" ∧ Fld Z h a "java/lang/String" "coder" "B" (.int (0 : Int32)) ∧ Fld Z h a "java/lang/String" "value" "[B" (.ref b) ∧ Arv Z h b k .byte (own_ln bs) (bs.map Value.int) (.int (0 : Int32))
theorem own_Str.ext {Z : State} {h h' : Heap} {a : Addr} {bs : List Int32} (S : own_Str Z h a bs) (E : Ext h h') : own_Str Z h' a bs := by
  obtain ⟨b, k, h1, h2, h3, h4⟩ := S
  exact ⟨b, k, h1.ext E, h2.ext E, h3.ext E, h4.ext E⟩
def own_Sts (Z : State) (h : Heap) (cs : Int32) (fm : Value) : Prop := Sta Z h "java/lang/String" "COMPACT_STRINGS" "Z" (.int cs) ∧ Sta Z h "jdk/internal/util/Preconditions" "SIOOBE_FORMATTER" "Ljava/util/function/BiFunction;" fm
theorem own_Sts.ext {Z : State} {h h' : Heap} {cs : Int32} {fm : Value} (S : own_Sts Z h cs fm) (E : Ext h h') : own_Sts Z h' cs fm := ⟨S.1.ext E, S.2.ext E⟩
/-- the run from U ends (String constants may have been loaded meanwhile), and Q says what it leaves -/
def own_FinV (p : Program) (e : Env) (below : List Frame) (s : State) (Q : Option Value → State → List Loc → Prop) (k n : Nat) (U : State) : Prop :=
  ∃ s₂ o, Steps p.tables e below U s₂ ∧ s₂.status = .running ∧ Ended s₂ below o ∧ ∃ v L, o = .returned v ∧ Q v s₂ L ∧ ReturnedEndW s o s₂ L k n
theorem own_FinV.step {p : Program} {e : Env} {below : List Frame} {s : State} {Q : Option Value → State → List Loc → Prop} {k n : Nat} {U U' : State} (st : ∀ t, Steps p.tables e below U' t → Steps p.tables e below U t) (h : own_FinV p e below s Q k n U') : own_FinV p e below s Q k n U := by
  obtain ⟨s₂, o, h1, h2⟩ := h
  exact ⟨s₂, o, st _ h1, h2⟩
def own_QH (Z : State) (vm : Vm) (h0 : Heap) (Q : Option Value → Heap → List Loc → Prop) (v : Option Value) (U : State) (L : List Loc) : Prop := Q v U.heap L ∧ CHr Z consts_1 vm h0 U.vm U.heap
abbrev own_MetV (l : Launch) (Z : State) (ws : List Jvm.Cond) (y : MethodName) (bytes : ByteArray) (maxL : Nat) (ret : Option FieldType) (rm : Room) (as' : Array Value) (h : Heap) (Q : Option Value → Heap → List Loc → Prop) : Prop :=
  MetFree l y (head1 (Jvm.Cond.code y bytes maxL ret :: ws) rm) (fun a U => a = as' ∧ Z.Warmed39 U.vm ∧ U.heap = h ∧ CHv Z consts_1 U.vm h) (fun _ _ _ _ _ => True) (fun _ U o U' => ∃ v L, o = .returned v ∧ Q v U'.heap L ∧ CHr Z consts_1 U.vm U.heap U'.vm U'.heap ∧ ReturnedEndW U o U' L rm.cells rm.slots)
theorem own_enterV {l : Launch} {Z : State} {ws : List Jvm.Cond} {y : MethodName} {bytes : ByteArray} {maxL : Nat} {ret : Option FieldType} {rm : Room} {as' : Array Value} {h : Heap} {Q : Option Value → Heap → List Loc → Prop} (hp : plainFor y = true)
    (body : ∀ (p : Program) (e : Env) (s : State) (m : MethodId) (below : List Frame) (meth : Method) (c : Code) (s₁ : State), Stand p l e rm s m as' below meth c s₁ [] 0 0 → p.tables.exec = Jvm.exec → c.code = bytes → c.maxLocals = maxL → s.vm.findClass y.cls = some m.cls → meth.sig.returnType = ret → meth.locks = false → meth.name = y.name → Z.Warmed39 s.vm → s₁.heap = h → s.Since s.vm s₁.heap.size → CHr Z consts_1 s.vm h s.vm h →
      own_FinV p e below s (own_QH Z s.vm h Q) rm.cells rm.slots (s₁.setTop (entryFrame m as' maxL))) : own_MetV l Z ws y bytes maxL ret rm as' h Q := by
  refine MetFree.of_bodySF hp hisR ?_
  intro p e s m args below meth c s₁ Bd hml0 hP hK
  obtain ⟨rfl, hZ, rfl, hC⟩ := hP
  obtain ⟨s₂, o, h1, h2, h3, v, L, e1, ⟨q1, q2⟩, hE⟩ := body p e s m below meth c s₁ (Stand.of_body Bd) Bd.exec Bd.bytes hml0 (findClass_of_methodNamed Bd.named) Bd.returns (BodyLoose.notSynchronized Bd) (name_of_methodNamed Bd.named Bd.method).1 hZ (by rw [Bd.state]; rfl) (State.WarmedH.since (State.WarmedH.refl s) _) (CHr.refl hC)
  exact ⟨s₂, o, h1, h2, h3, v, L, e1, q1, q2, hE⟩
section OwnV
variable {p : Program} {l : Launch} {e : Env} {R : Room} {s : State} {vm0 : Vm} {m : MethodId} {args : Array Value} {below : List Frame} {meth : Method} {c : Code} {T : State} {locs : List Loc} {cells slots : Nat} {Z : State} {a0 : Array Value} {h h0 : Heap} {Q : Option Value → Heap → List Loc → Prop} {k n : Nat}
theorem own_retNV (X : Stand p l e R (s.setVm vm0) m args below meth c T locs cells slots) {k0 : Nat} (hS : s.Since vm0 k0) (hk0 : k0 ≤ h.size) (eT : T.heap = h) (hZ : Z.Warmed39 vm0) (hEL : EW Z a0 consts_1) (C : CHr Z consts_1 s.vm h0 vm0 h) (hx : p.tables.exec = Jvm.exec) (hlk : meth.locks = false) {pc : Nat} {Ls : Array Slot} {z : Int32} {t : FieldType} {rest : List Value} (hret : meth.sig.returnType = some t) (ht : t = .boolean ∨ t = .byte ∨ t = .char ∨ t = .short) (hd : decode c.code pc = .ok (.ireturn, 1)) (hQ : Q (some (.int (nar t z))) T.heap locs) (hk : cells ≤ k) (hn : slots ≤ n) :
    own_FinV p e below s (own_QH Z s.vm h0 Q) k n (T.setTop (mkF m pc Ls (.int z :: rest))) := by
  subst eT
  have hC := C.trans (CHv.at X hZ hEL C.1)
  obtain ⟨fs, hr, hrun, hended, hE⟩ := X.leaveW hS hk0 (v := some (.int (nar t z))) (fun h => by rw [hret] at h; cases h) hlk
  exact ⟨_, _, retN X hx hret ht hd hr, hrun, hended, _, _, rfl, ⟨hQ, hC⟩, hE.1, hE.2.1, hE.2.2.1, hE.2.2.2.mono hk hn⟩
theorem own_retRV (X : Stand p l e R (s.setVm vm0) m args below meth c T locs cells slots) {k0 : Nat} (hS : s.Since vm0 k0) (hk0 : k0 ≤ h.size) (eT : T.heap = h) (hZ : Z.Warmed39 vm0) (hEL : EW Z a0 consts_1) (C : CHr Z consts_1 s.vm h0 vm0 h) (hx : p.tables.exec = Jvm.exec) (hlk : meth.locks = false) {pc : Nat} {Ls : Array Slot} {w : Value} {t : FieldType} (hw : w.isRef = true) (hret : meth.sig.returnType = some t) (ht : t.isReference = true) (hd : decode c.code pc = .ok (.areturn, 1)) (hQ : Q (some w) T.heap locs) (hk : cells ≤ k) (hn : slots ≤ n) :
    own_FinV p e below s (own_QH Z s.vm h0 Q) k n (T.setTop (mkF m pc Ls [w])) := by
  subst eT
  have hC := C.trans (CHv.at X hZ hEL C.1)
  obtain ⟨fs, hr, hrun, hended, hE⟩ := X.leaveW hS hk0 (v := some w) (fun h => by rw [hret] at h; cases h) hlk
  exact ⟨_, _, X.areturnOut hx hw hret ht hd hr, hrun, hended, _, _, rfl, ⟨hQ, hC⟩, hE.1, hE.2.1, hE.2.2.1, hE.2.2.2.mono hk hn⟩
theorem own_ldcV (X : Stand p l e R (s.setVm vm0) m args below meth c T locs cells slots) (hx : p.tables.exec = Jvm.exec) (hZ : Z.Warmed39 vm0) {own text : String} {index : Nat} (hown : vm0.findClass own = some m.cls) (w : (Cond.stringLink own index text).before a0 Z = true) (wS : ∀ a ∈ Bundle.stringAtoms, a.before a0 Z = true)
    (eT : T.heap = h) {k0 : Nat} (hS : s.Since vm0 k0) (hk : k0 ≤ h.size) (hEL : EW Z a0 consts_1) (hmem : (own, index) ∈ consts_1) (H : CHr Z consts_1 s.vm h0 vm0 h) (ht : (∀ c ∈ text.toList, c.toNat < 256) ∧ text.toList.length < 1000)
    {g : JFrame} (hg : g.method = m) (hd : decode c.code g.pc = .ok (.ldc index, 2)) {n : Nat} (hn : 4 * text.toList.length ≤ n) (hbig : n ≤ 536870912) (hc : cells + 2 ≤ R.cells) (hl' : slots + (n + 4) ≤ R.slots) :
    ∃ (a : Addr) (T' : State) (h' : Heap) (k1 : Nat), Stand p l e R (s.setVm T'.vm) m args below meth c T' locs (cells + 2) (slots + (n + 4)) ∧ T'.heap = h' ∧ Ext h h' ∧ s.Since T'.vm k1 ∧ k1 ≤ h'.size ∧ Z.Warmed39 (s.setVm T'.vm).vm ∧ (s.setVm T'.vm).vm.findClass own = some m.cls ∧
      own_Str Z h' a (own_bs text) ∧ CHr Z consts_1 s.vm h0 T'.vm h' ∧
      ∀ target, Steps p.tables e below (T'.setTop { g with pc := g.pc + 2, stack := .ref a :: g.stack }) target → Steps p.tables e below (T.setTop g) target := by
  have el : (own_bs text).length = text.toList.length := by simp [own_bs]
  have hi := own_ln_toInt (bs := own_bs text) (by rw [el]; exact ht.2)
  obtain ⟨a, T', h', k1, b, k, h1, h2, h3, h4, h5, h6, h7, h8, h9, h10, h11, -, -, h12, -, -, st⟩ := ldcCH X hx hZ hown w wS eT hS hk hEL hmem H.1 (vs := (own_bs text).map Value.int) (z := own_ln (own_bs text)) ⟨ht.1, by simp [own_bs, List.map_map]⟩ (by rw [Int32.lt_iff_toInt_lt, hi, show (0 : Int32).toInt = 0 by decide]; omega) (by show (own_ln (own_bs text)).toInt.toNat = _; rw [hi]; simp) hg hd hn hbig hc hl'
  exact ⟨a, T', h', k1, h1, h2, h3, h4, h5, h6, h7, ⟨b, k, h8, h9, h10, h11⟩, H.trans h12, st⟩
theorem own_callSV (X : Stand p l e R (s.setVm vm0) m args below meth c T locs cells slots) (hx : p.tables.exec = Jvm.exec) (hZ : Z.Warmed39 vm0) {own : String} {index : Nat} {y : MethodName} {bytes : ByteArray} {maxL : Nat} {ret : Option FieldType} {rm : Room} {as' : Array Value}
    (hown : vm0.findClass own = some m.cls) (w1 : (Jvm.Cond.methodLink own index y).before a0 Z = true) (w2 : (Jvm.Cond.static y).before a0 Z = true) (w3 : (Jvm.Cond.initialized y.cls).before a0 Z = true) (w4 : (Jvm.Cond.code y bytes maxL ret).before a0 Z = true)
    (hy : y.cls ≠ "java/lang/invoke/MethodHandle" ∧ y.cls ≠ "java/lang/invoke/VarHandle") (hM : own_MetV l Z [] y bytes maxL ret rm as' h Q) {W : Nat} (hf : rm.frames + 1 ≤ R.frames) (hl : W + (maxL + 11) + rm.locals ≤ R.locals) {k0 : Nat} (hS : s.Since vm0 k0) (hk : k0 ≤ h.size) (hEL : EW Z a0 consts_1) (H : CHr Z consts_1 s.vm h0 vm0 h) (eT : T.heap = h)
    {g : JFrame} (hg : g.method = m) (hsize : g.locals.size = c.maxLocals) {argsL rest : List Value} (hlen : ∀ sig, parseMethodDescriptor y.desc = some sig → argsL.length = sig.parameters.length) (has : argsL.toArray = as') (hstack : g.stack = argsL.reverse ++ rest) (hW : 2 * g.monitorRoom + (rest.map fun v => v.category).sum ≤ W)
    (hdg : decode c.code g.pc = .ok (.invokestatic index, 3)) (hc : cells + rm.cells ≤ R.cells) (hs : slots + rm.slots ≤ R.slots) :
    ∃ v T' L k1, Stand p l e R (s.setVm T'.vm) m args below meth c T' (locs ++ L) (cells + rm.cells) (slots + rm.slots) ∧ Q v T'.heap L ∧ s.Since T'.vm k1 ∧ k1 ≤ T'.heap.size ∧ Z.Warmed39 (s.setVm T'.vm).vm ∧ (s.setVm T'.vm).vm.findClass own = some m.cls ∧ CHr Z consts_1 s.vm h0 T'.vm T'.heap ∧
      ∀ t, Steps p.tables e below (T'.setTop { g with pc := g.pc + 3, stack := v.toList ++ rest }) t → Steps p.tables e below (T.setTop g) t := by
  obtain ⟨v, vm1, ⟨T', L', k', n'⟩, -, X', hS', hz, ⟨Lc, hQ, l1, y1, z1, hC⟩, st⟩ := callSS X hx (y := y) hown (mvT hZ w1) (mvT hZ w2) (mvT hZ w3) (mvT hZ w4) hy (backOfSH (W := W) hM hZ w4 w3 hf hl hEL H.1) (g := g) hg hsize (argsL := argsL) (rest := rest) hlen hstack hW hdg (fun _ _ => ⟨has, eT, hc, hs⟩)
  dsimp only [Pt.U, Pt.locs, Pt.cells, Pt.slots] at X' l1 y1 z1 st hQ hS' hz hC
  subst l1 y1 z1
  exact ⟨v, T', Lc, _, X', hQ, hS.trans hS' (Nat.le_trans hk (eT ▸ hz)), Nat.le_refl _, State.Warmed39.trans (t := s.setVm vm0) hZ hS'.1, by show T'.vm.findClass own = _; rw [hS'.1.alike.findClass]; exact hown, H.trans hC, fun t k => st.trans k⟩
end OwnV

theorem own_strings {Z : State} {a0 : Array Value} (hw : ∀ d ∈ tables_1, d.before a0 Z = true) : ∀ a ∈ Bundle.stringAtoms, a.before a0 Z = true := fun a ha => by
  simp only [Bundle.stringAtoms, List.mem_cons, List.not_mem_nil, or_false] at ha
  rcases ha with rfl | rfl | rfl | rfl | rfl | rfl | rfl
  · exact own_w hw 5 rfl
  · exact own_w hw 6 rfl
  · exact own_w hw 7 rfl
  · exact own_w hw 8 rfl
  · exact own_w hw 9 rfl
  · exact own_w hw 10 rfl
  · exact own_w hw 11 rfl
theorem own_EW {Z : State} {a0 : Array Value} (hw : ∀ d ∈ tables_1, d.before a0 Z = true) : EW Z a0 consts_1 := EW.cons (own_w hw 4 rfl) (by decide) (EW.cons (own_w hw 56 rfl) (by decide) (EW.cons (own_w hw 50 rfl) (by decide) (EW.cons (own_w hw 52 rfl) (by decide) (EW.cons (own_w hw 58 rfl) (by decide) (EW.cons (own_w hw 64 rfl) (by decide) (EW.cons (own_w hw 66 rfl) (by decide) (EW.cons (own_w hw 61 rfl) (by decide) (EW.cons (own_w hw 54 rfl) (by decide) (EW.cons (own_w hw 63 rfl) (by decide) (EW.cons (own_w hw 62 rfl) (by decide) (EW.cons (own_w hw 67 rfl) (by decide) (EW.cons (own_w hw 65 rfl) (by decide) (EW.cons (own_w hw 59 rfl) (by decide) (EW.cons (own_w hw 12 rfl) (by decide) (EW.cons (own_w hw 13 rfl) (by decide) (EW.cons (own_w hw 60 rfl) (by decide) (EW.cons (own_w hw 57 rfl) (by decide) (EW.cons (own_w hw 51 rfl) (by decide) (EW.cons (own_w hw 53 rfl) (by decide) (EW.cons (own_w hw 55 rfl) (by decide) (EW.nil)))))))))))))))))))))
theorem own_shr0 (z : Int32) : z >>> ((0 : Int32) &&& 31) = z := by
  have e : ((0 : Int32) &&& 31) = 0 := by decide
  rw [e]; simp
def own_c1 (b : Int32) : Int32 := nar .char ((b &&& (255 : Int32)).toUInt32.toUInt16.toUInt32.toInt32)
def own_ch (bs : List Int32) (i : Int32) : Int32 := nar .char (own_c1 (bs.getD i.toNatClampNeg 0))
theorem own_getD (bs : List Int32) (j : Nat) : (bs.map Value.int).getD j (.int (0 : Int32)) = .int (bs.getD j 0) := by
  simp only [List.getD_eq_getElem?_getD, List.getElem?_map]
  cases bs[j]? <;> rfl
theorem d1_0 : decode jdk_42_method_152_code 0 = .ok (.getstatic 38, 3) := by decide +kernel
theorem d1_3 : decode jdk_42_method_152_code 3 = .ok (.ifCond .eq 10, 3) := by decide +kernel
theorem d1_6 : decode jdk_42_method_152_code 6 = .ok (.aload_n 0, 1) := by decide +kernel
theorem d1_7 : decode jdk_42_method_152_code 7 = .ok (.getfield 15, 3) := by decide +kernel
theorem d1_10 : decode jdk_42_method_152_code 10 = .ok (.goto 4, 3) := by decide +kernel
theorem d1_13 : decode jdk_42_method_152_code 13 = .ok (.iconst 1, 1) := by decide +kernel
theorem d1_14 : decode jdk_42_method_152_code 14 = .ok (.ireturn, 1) := by decide +kernel
theorem pn_1 : plainFor (⟨"java/lang/String", "coder", "()B"⟩ : MethodName) = true := plainFor_of_name (by first | (simp [plainName, overriddenIn]; done) | decide +kernel)
theorem ef_1 (m : MethodId) (x0 : Addr) : entryFrame m #[(.ref x0)] 1 = mkF m 0 #[.val (.ref x0)] [] := by first | (simp [entryFrame, mkF, argsToLocals, Value.category]; done) | rfl
set_option maxRecDepth 65536 in
set_option maxHeartbeats 40000000 in
theorem rm1 (l : Launch) (Z : State) (a0 : Array Value) (hw : ∀ d ∈ tables_1, d.before a0 Z = true) (a1 : Addr) (cs : Int32) (h0 : Heap) (n0 : Nat) (Z0 : n0 ≤ h0.size) (S1 : Sta Z h0 "java/lang/String" "COMPACT_STRINGS" "Z" (.int cs)) (hcs : ¬ (cs = (0 : Int32))) (F1 : Fld Z h0 a1 "java/lang/String" "coder" "B" (.int (0 : Int32))) :
    own_Met l Z [] (⟨"java/lang/String", "coder", "()B"⟩ : MethodName) jdk_42_method_152_code 1 (some .byte) ({ frames := 0, cells := 0, slots := 0, locals := 0 } : Room) #[(.ref a1)] h0 (own_QP (some (.int (0 : Int32))) h0 n0) := by
  refine own_enter pn_1 ?_
  intro p e s m below meth c s₁ X0 hx hby hml hown hret hlk hnm hZ e0
  have hml : c.maxLocals = 1 := hml
  have N0 := Fr.nil n0
  rw [ef_1 m a1]
  show own_Fin p e below s _ _ _ (s₁.setTop (mkF m 0 #[.val (.ref a1)] []))
  obtain ⟨T1, X1, e1, st1⟩ := getS2 X0 hx hZ hown (host := "") (Or.inl (own_w hw 25 rfl)) Via.refl e0 S1 (g := (mkF m 0 #[.val (.ref a1)] [])) rfl (hb hby d1_0)
  refine own_Fin.step st1 ?_
  show own_Fin p e below s _ _ _ (T1.setTop (mkF m 3 #[.val (.ref a1)] [(.int cs)]))
  refine own_Fin.step (fun _ => XS.ifNo X1.here hx rfl (hb hby d1_3) rfl (XT.i0_eq_f hcs)) ?_
  show own_Fin p e below s _ _ _ (T1.setTop (mkF m 6 #[.val (.ref a1)] []))
  refine own_Fin.step (fun _ => XS.aloadN X1.here hx rfl (hb hby d1_6) rfl rfl) ?_
  show own_Fin p e below s _ _ _ (T1.setTop (mkF m 7 #[.val (.ref a1)] [(.ref a1)]))
  obtain ⟨T2, X2, e2, st2⟩ := getF X1 hx hZ hown (host := "") (Or.inl (own_w hw 26 rfl)) Via.refl e1 F1 (g := (mkF m 7 #[.val (.ref a1)] [(.ref a1)])) rfl rfl (hb hby d1_7)
  refine own_Fin.step st2 ?_
  show own_Fin p e below s _ _ _ (T2.setTop (mkF m 10 #[.val (.ref a1)] [(.int (0 : Int32))]))
  refine own_Fin.step (fun _ => XS.goto X2.here hx rfl (pc0 := 10) (pc' := 14) rfl (hb hby d1_10) (by decide) (by decide)) ?_
  show own_Fin p e below s _ _ _ (T2.setTop (mkF m 14 #[.val (.ref a1)] [(.int (0 : Int32))]))
  exact own_retN X2 hx hlk (t := .byte) hret (by simp) (hb hby d1_14) ⟨rfl, N0, e2⟩ (by decide) (by decide)
theorem d2_0 : decode jdk_42_method_54_code 0 = .ok (.aload_n 0, 1) := by decide +kernel
theorem d2_1 : decode jdk_42_method_54_code 1 = .ok (.getfield 9, 3) := by decide +kernel
theorem d2_4 : decode jdk_42_method_54_code 4 = .ok (.arraylength, 1) := by decide +kernel
theorem d2_5 : decode jdk_42_method_54_code 5 = .ok (.aload_n 0, 1) := by decide +kernel
theorem d2_6 : decode jdk_42_method_54_code 6 = .ok (.invokevirtual 335, 3) := by decide +kernel
theorem d2_9 : decode jdk_42_method_54_code 9 = .ok (.ishr, 1) := by decide +kernel
theorem d2_10 : decode jdk_42_method_54_code 10 = .ok (.ireturn, 1) := by decide +kernel
theorem pn_2 : plainFor (⟨"java/lang/String", "length", "()I"⟩ : MethodName) = true := plainFor_of_name (by first | (simp [plainName, overriddenIn]; done) | decide +kernel)
theorem ef_2 (m : MethodId) (x0 : Addr) : entryFrame m #[(.ref x0)] 1 = mkF m 0 #[.val (.ref x0)] [] := by first | (simp [entryFrame, mkF, argsToLocals, Value.category]; done) | rfl
theorem pd_0 : parseMethodDescriptor "()B" = some ⟨[], some .byte⟩ := by decide +kernel
set_option maxRecDepth 65536 in
set_option maxHeartbeats 40000000 in
theorem rm2 (l : Launch) (Z : State) (a0 : Array Value) (hw : ∀ d ∈ tables_1, d.before a0 Z = true) (a1 : Addr) (b1 : Addr) (k1 : ClassId) (z : Int32) (bs : List Int32) (cs : Int32) (h0 : Heap) (n0 : Nat) (Z0 : n0 ≤ h0.size) (S1 : Sta Z h0 "java/lang/String" "COMPACT_STRINGS" "Z" (.int cs)) (hcs : ¬ (cs = (0 : Int32))) (E1 : Exa Z h0 a1 "java/lang/String") (F1 : Fld Z h0 a1 "java/lang/String" "coder" "B" (.int (0 : Int32))) (F2 : Fld Z h0 a1 "java/lang/String" "value" "[B" (.ref b1)) (V1 : Arv Z h0 b1 k1 .byte z (bs.map Value.int) (.int (0 : Int32))) :
    own_Met l Z [] (⟨"java/lang/String", "length", "()I"⟩ : MethodName) jdk_42_method_54_code 1 (some .int) ({ frames := 1, cells := 0, slots := 0, locals := 13 } : Room) #[(.ref a1)] h0 (own_QP (some (.int z)) h0 n0) := by
  refine own_enter pn_2 ?_
  intro p e s m below meth c s₁ X0 hx hby hml hown hret hlk hnm hZ e0
  have hml : c.maxLocals = 1 := hml
  have N0 := Fr.nil n0
  rw [ef_2 m a1]
  show own_Fin p e below s _ _ _ (s₁.setTop (mkF m 0 #[.val (.ref a1)] []))
  refine own_Fin.step (fun _ => XS.aloadN X0.here hx rfl (hb hby d2_0) rfl rfl) ?_
  show own_Fin p e below s _ _ _ (s₁.setTop (mkF m 1 #[.val (.ref a1)] [(.ref a1)]))
  obtain ⟨T1, X1, e1, st1⟩ := getF X0 hx hZ hown (host := "") (Or.inl (own_w hw 19 rfl)) Via.refl e0 F2 (g := (mkF m 1 #[.val (.ref a1)] [(.ref a1)])) rfl rfl (hb hby d2_1)
  refine own_Fin.step st1 ?_
  show own_Fin p e below s _ _ _ (T1.setTop (mkF m 4 #[.val (.ref a1)] [(.ref b1)]))
  refine own_Fin.step (own_len X1 hx hZ e1 V1 (g := (mkF m 4 #[.val (.ref a1)] [(.ref b1)])) rfl rfl (hb hby d2_4)) ?_
  show own_Fin p e below s _ _ _ (T1.setTop (mkF m 5 #[.val (.ref a1)] [(.int z)]))
  refine own_Fin.step (fun _ => XS.aloadN X1.here hx rfl (hb hby d2_5) rfl rfl) ?_
  show own_Fin p e below s _ _ _ (T1.setTop (mkF m 6 #[.val (.ref a1)] [(.ref a1), (.int z)]))
  obtain ⟨_, T2, L2, X2, ⟨rfl, N2q, e2⟩, st2⟩ := own_callV X1 hx hZ hown (own_w hw 20 rfl) (own_w hw 21 rfl) (own_w hw 23 rfl) (own_w hw 22 rfl) (own_w hw 5 rfl) (own_w hw 24 rfl) (by decide) (rm1 l Z a0 hw a1 cs h0 n0 Z0 S1 hcs F1) (by decide) (by decide) E1 e1 (W := 1) (g := (mkF m 6 #[.val (.ref a1)] [(.ref a1), (.int z)])) rfl (by rw [hml]; rfl) (argsL := []) (rest := [(.int z)]) (lenOf pd_0 rfl) rfl rfl (by show 2 * 0 + _ ≤ _; exact Nat.le_of_eq rfl) (hb hby d2_6) (by decide) (by decide)
  have N2 := Fr.app N0 N2q
  refine own_Fin.step st2 ?_
  show own_Fin p e below s _ _ _ (T2.setTop (mkF m 9 #[.val (.ref a1)] [(.int (0 : Int32)), (.int z)]))
  refine own_Fin.step (fun _ => XS.ishr X2.here hx rfl (hb hby d2_9) rfl) ?_
  show own_Fin p e below s _ _ _ (T2.setTop (mkF m 10 #[.val (.ref a1)] [(.int (z >>> ((0 : Int32) &&& 31)))]))
  exact own_retI X2 hx hlk hret (hb hby d2_10) ⟨by rw [own_shr0], N2, e2⟩ (by decide) (by decide)
theorem d3_0 : decode jdk_42_method_154_code 0 = .ok (.getstatic 38, 3) := by decide +kernel
theorem d3_3 : decode jdk_42_method_154_code 3 = .ok (.ifCond .eq 14, 3) := by decide +kernel
theorem d3_6 : decode jdk_42_method_154_code 6 = .ok (.aload_n 0, 1) := by decide +kernel
theorem d3_7 : decode jdk_42_method_154_code 7 = .ok (.getfield 15, 3) := by decide +kernel
theorem d3_10 : decode jdk_42_method_154_code 10 = .ok (.ifCond .ne 7, 3) := by decide +kernel
theorem d3_13 : decode jdk_42_method_154_code 13 = .ok (.iconst 1, 1) := by decide +kernel
theorem d3_14 : decode jdk_42_method_154_code 14 = .ok (.goto 4, 3) := by decide +kernel
theorem d3_17 : decode jdk_42_method_154_code 17 = .ok (.iconst 0, 1) := by decide +kernel
theorem d3_18 : decode jdk_42_method_154_code 18 = .ok (.ireturn, 1) := by decide +kernel
theorem pn_3 : plainFor (⟨"java/lang/String", "isLatin1", "()Z"⟩ : MethodName) = true := plainFor_of_name (by first | (simp [plainName, overriddenIn]; done) | decide +kernel)
theorem ef_3 (m : MethodId) (x0 : Addr) : entryFrame m #[(.ref x0)] 1 = mkF m 0 #[.val (.ref x0)] [] := by first | (simp [entryFrame, mkF, argsToLocals, Value.category]; done) | rfl
set_option maxRecDepth 65536 in
set_option maxHeartbeats 40000000 in
theorem rm3 (l : Launch) (Z : State) (a0 : Array Value) (hw : ∀ d ∈ tables_1, d.before a0 Z = true) (a1 : Addr) (cs : Int32) (h0 : Heap) (n0 : Nat) (Z0 : n0 ≤ h0.size) (S1 : Sta Z h0 "java/lang/String" "COMPACT_STRINGS" "Z" (.int cs)) (hcs : ¬ (cs = (0 : Int32))) (F1 : Fld Z h0 a1 "java/lang/String" "coder" "B" (.int (0 : Int32))) :
    own_Met l Z [] (⟨"java/lang/String", "isLatin1", "()Z"⟩ : MethodName) jdk_42_method_154_code 1 (some .boolean) ({ frames := 0, cells := 0, slots := 0, locals := 0 } : Room) #[(.ref a1)] h0 (own_QP (some (.int (1 : Int32))) h0 n0) := by
  refine own_enter pn_3 ?_
  intro p e s m below meth c s₁ X0 hx hby hml hown hret hlk hnm hZ e0
  have hml : c.maxLocals = 1 := hml
  have N0 := Fr.nil n0
  rw [ef_3 m a1]
  show own_Fin p e below s _ _ _ (s₁.setTop (mkF m 0 #[.val (.ref a1)] []))
  obtain ⟨T1, X1, e1, st1⟩ := getS2 X0 hx hZ hown (host := "") (Or.inl (own_w hw 25 rfl)) Via.refl e0 S1 (g := (mkF m 0 #[.val (.ref a1)] [])) rfl (hb hby d3_0)
  refine own_Fin.step st1 ?_
  show own_Fin p e below s _ _ _ (T1.setTop (mkF m 3 #[.val (.ref a1)] [(.int cs)]))
  refine own_Fin.step (fun _ => XS.ifNo X1.here hx rfl (hb hby d3_3) rfl (XT.i0_eq_f hcs)) ?_
  show own_Fin p e below s _ _ _ (T1.setTop (mkF m 6 #[.val (.ref a1)] []))
  refine own_Fin.step (fun _ => XS.aloadN X1.here hx rfl (hb hby d3_6) rfl rfl) ?_
  show own_Fin p e below s _ _ _ (T1.setTop (mkF m 7 #[.val (.ref a1)] [(.ref a1)]))
  obtain ⟨T2, X2, e2, st2⟩ := getF X1 hx hZ hown (host := "") (Or.inl (own_w hw 26 rfl)) Via.refl e1 F1 (g := (mkF m 7 #[.val (.ref a1)] [(.ref a1)])) rfl rfl (hb hby d3_7)
  refine own_Fin.step st2 ?_
  show own_Fin p e below s _ _ _ (T2.setTop (mkF m 10 #[.val (.ref a1)] [(.int (0 : Int32))]))
  refine own_Fin.step (fun _ => XS.ifNo X2.here hx rfl (hb hby d3_10) rfl (XT.i0_ne_f (by decide : (0 : Int32) = (0 : Int32)))) ?_
  show own_Fin p e below s _ _ _ (T2.setTop (mkF m 13 #[.val (.ref a1)] []))
  refine own_Fin.step (fun _ => XS.iconst X2.here hx rfl (hb hby d3_13)) ?_
  show own_Fin p e below s _ _ _ (T2.setTop (mkF m 14 #[.val (.ref a1)] [(.int (1 : Int32))]))
  refine own_Fin.step (fun _ => XS.goto X2.here hx rfl (pc0 := 14) (pc' := 18) rfl (hb hby d3_14) (by decide) (by decide)) ?_
  show own_Fin p e below s _ _ _ (T2.setTop (mkF m 18 #[.val (.ref a1)] [(.int (1 : Int32))]))
  exact own_retN X2 hx hlk (t := .boolean) hret (by simp) (hb hby d3_18) ⟨rfl, N0, e2⟩ (by decide) (by decide)
theorem d4_0 : decode jdk_41_method_11_code 0 = .ok (.iload_n 0, 1) := by decide +kernel
theorem d4_1 : decode jdk_41_method_11_code 1 = .ok (.ifCond .lt 8, 3) := by decide +kernel
theorem d4_4 : decode jdk_41_method_11_code 4 = .ok (.iload_n 0, 1) := by decide +kernel
theorem d4_5 : decode jdk_41_method_11_code 5 = .ok (.iload_n 1, 1) := by decide +kernel
theorem d4_6 : decode jdk_41_method_11_code 6 = .ok (.if_icmp .lt 10, 3) := by decide +kernel
theorem d4_9 : decode jdk_41_method_11_code 9 = .ok (.aload_n 2, 1) := by decide +kernel
theorem d4_10 : decode jdk_41_method_11_code 10 = .ok (.iload_n 0, 1) := by decide +kernel
theorem d4_11 : decode jdk_41_method_11_code 11 = .ok (.iload_n 1, 1) := by decide +kernel
theorem d4_12 : decode jdk_41_method_11_code 12 = .ok (.invokestatic 95, 3) := by decide +kernel
theorem d4_15 : decode jdk_41_method_11_code 15 = .ok (.athrow, 1) := by decide +kernel
theorem d4_16 : decode jdk_41_method_11_code 16 = .ok (.iload_n 0, 1) := by decide +kernel
theorem d4_17 : decode jdk_41_method_11_code 17 = .ok (.ireturn, 1) := by decide +kernel
theorem pn_4 : plainFor (⟨"jdk/internal/util/Preconditions", "checkIndex", "(IILjava/util/function/BiFunction;)I"⟩ : MethodName) = true := plainFor_of_name (by first | (simp [plainName, overriddenIn]; done) | decide +kernel)
theorem ef_4 (m : MethodId) (x0 x1 : Int32) (x2 : Value) (h : x2.isRef = true) : entryFrame m #[.int x0, .int x1, x2] 3 = mkF m 0 #[.val (.int x0), .val (.int x1), .val x2] [] := by
  rcases ref_cases h with rfl | ⟨a, rfl⟩ <;> first | (simp [entryFrame, mkF, argsToLocals, Value.category]; done) | rfl
set_option maxRecDepth 65536 in
set_option maxHeartbeats 40000000 in
theorem rm4 (l : Launch) (Z : State) (a0 : Array Value) (hw : ∀ d ∈ tables_1, d.before a0 Z = true) (p1 : Int32) (p2 : Int32) (v3 : Value)  (h0 : Heap) (n0 : Nat) (Z0 : n0 ≤ h0.size) (rv : v3.isRef = true) (g1 : ¬ p1 < (0 : Int32)) (g2 : p1 < p2) :
    own_Met l Z [] (⟨"jdk/internal/util/Preconditions", "checkIndex", "(IILjava/util/function/BiFunction;)I"⟩ : MethodName) jdk_41_method_11_code 3 (some .int) ({ frames := 0, cells := 0, slots := 0, locals := 0 } : Room) #[(.int p1), (.int p2), v3] h0 (own_QP (some (.int p1)) h0 n0) := by
  refine own_enter pn_4 ?_
  intro p e s m below meth c s₁ X0 hx hby hml hown hret hlk hnm hZ e0
  have hml : c.maxLocals = 3 := hml
  have N0 := Fr.nil n0
  rw [ef_4 m p1 p2 v3 rv]
  show own_Fin p e below s _ _ _ (s₁.setTop (mkF m 0 #[.val (.int p1), .val (.int p2), .val v3] []))
  refine own_Fin.step (fun _ => XS.iloadN X0.here hx rfl (hb hby d4_0) rfl) ?_
  show own_Fin p e below s _ _ _ (s₁.setTop (mkF m 1 #[.val (.int p1), .val (.int p2), .val v3] [(.int p1)]))
  refine own_Fin.step (fun _ => XS.ifNo X0.here hx rfl (hb hby d4_1) rfl (XT.i0_lt_f g1)) ?_
  show own_Fin p e below s _ _ _ (s₁.setTop (mkF m 4 #[.val (.int p1), .val (.int p2), .val v3] []))
  refine own_Fin.step (fun _ => XS.iloadN X0.here hx rfl (hb hby d4_4) rfl) ?_
  show own_Fin p e below s _ _ _ (s₁.setTop (mkF m 5 #[.val (.int p1), .val (.int p2), .val v3] [(.int p1)]))
  refine own_Fin.step (fun _ => XS.iloadN X0.here hx rfl (hb hby d4_5) rfl) ?_
  show own_Fin p e below s _ _ _ (s₁.setTop (mkF m 6 #[.val (.int p1), .val (.int p2), .val v3] [(.int p2), (.int p1)]))
  refine own_Fin.step (fun _ => XS.icmpYes X0.here hx rfl (pc0 := 6) (pc' := 16) rfl (hb hby d4_6) rfl (XT.ii_lt_t g2) (by decide) (by decide)) ?_
  show own_Fin p e below s _ _ _ (s₁.setTop (mkF m 16 #[.val (.int p1), .val (.int p2), .val v3] []))
  refine own_Fin.step (fun _ => XS.iloadN X0.here hx rfl (hb hby d4_16) rfl) ?_
  show own_Fin p e below s _ _ _ (s₁.setTop (mkF m 17 #[.val (.int p1), .val (.int p2), .val v3] [(.int p1)]))
  exact own_retI X0 hx hlk hret (hb hby d4_17) ⟨rfl, N0, e0⟩ (by decide) (by decide)
theorem d5_0 : decode jdk_42_method_155_code 0 = .ok (.iload_n 0, 1) := by decide +kernel
theorem d5_1 : decode jdk_42_method_155_code 1 = .ok (.iload_n 1, 1) := by decide +kernel
theorem d5_2 : decode jdk_42_method_155_code 2 = .ok (.getstatic 1053, 3) := by decide +kernel
theorem d5_5 : decode jdk_42_method_155_code 5 = .ok (.invokestatic 1059, 3) := by decide +kernel
theorem d5_8 : decode jdk_42_method_155_code 8 = .ok (.pop, 1) := by decide +kernel
theorem d5_9 : decode jdk_42_method_155_code 9 = .ok (.return_, 1) := by decide +kernel
theorem pn_5 : plainFor (⟨"java/lang/String", "checkIndex", "(II)V"⟩ : MethodName) = true := plainFor_of_name (by first | (simp [plainName, overriddenIn]; done) | decide +kernel)
theorem ef_5 (m : MethodId) (x0 : Int32) (x1 : Int32) : entryFrame m #[(.int x0), (.int x1)] 2 = mkF m 0 #[.val (.int x0), .val (.int x1)] [] := by first | (simp [entryFrame, mkF, argsToLocals, Value.category]; done) | rfl
theorem pd_1 : parseMethodDescriptor "(IILjava/util/function/BiFunction;)I" = some ⟨[.int, .int, (.object "java/util/function/BiFunction")], some .int⟩ := by decide +kernel
set_option maxRecDepth 65536 in
set_option maxHeartbeats 40000000 in
theorem rm5 (l : Launch) (Z : State) (a0 : Array Value) (hw : ∀ d ∈ tables_1, d.before a0 Z = true) (p1 : Int32) (p2 : Int32) (fm : Value) (h0 : Heap) (n0 : Nat) (Z0 : n0 ≤ h0.size) (S2 : Sta Z h0 "jdk/internal/util/Preconditions" "SIOOBE_FORMATTER" "Ljava/util/function/BiFunction;" fm) (rv : fm.isRef = true) (g1 : ¬ p1 < (0 : Int32)) (g2 : p1 < p2) :
    own_Met l Z [] (⟨"java/lang/String", "checkIndex", "(II)V"⟩ : MethodName) jdk_42_method_155_code 2 none ({ frames := 1, cells := 0, slots := 0, locals := 14 } : Room) #[(.int p1), (.int p2)] h0 (own_QP none h0 n0) := by
  refine own_enter pn_5 ?_
  intro p e s m below meth c s₁ X0 hx hby hml hown hret hlk hnm hZ e0
  have hml : c.maxLocals = 2 := hml
  have N0 := Fr.nil n0
  rw [ef_5 m p1 p2]
  show own_Fin p e below s _ _ _ (s₁.setTop (mkF m 0 #[.val (.int p1), .val (.int p2)] []))
  refine own_Fin.step (fun _ => XS.iloadN X0.here hx rfl (hb hby d5_0) rfl) ?_
  show own_Fin p e below s _ _ _ (s₁.setTop (mkF m 1 #[.val (.int p1), .val (.int p2)] [(.int p1)]))
  refine own_Fin.step (fun _ => XS.iloadN X0.here hx rfl (hb hby d5_1) rfl) ?_
  show own_Fin p e below s _ _ _ (s₁.setTop (mkF m 2 #[.val (.int p1), .val (.int p2)] [(.int p2), (.int p1)]))
  obtain ⟨T1, X1, e1, st1⟩ := getS2 X0 hx hZ hown (host := "") (Or.inl (own_w hw 45 rfl)) Via.refl e0 S2 (g := (mkF m 2 #[.val (.int p1), .val (.int p2)] [(.int p2), (.int p1)])) rfl (hb hby d5_2)
  refine own_Fin.step st1 ?_
  show own_Fin p e below s _ _ _ (T1.setTop (mkF m 5 #[.val (.int p1), .val (.int p2)] [fm, (.int p2), (.int p1)]))
  obtain ⟨_, T2, L2, X2, ⟨rfl, N2q, e2⟩, st2⟩ := own_callS X1 hx hZ hown (own_w hw 47 rfl) (own_w hw 48 rfl) (own_w hw 46 rfl) (own_w hw 49 rfl) (by decide) (rm4 l Z a0 hw p1 p2 fm h0 n0 Z0 rv g1 g2) (by decide) (by decide) e1 (W := 0) (g := (mkF m 5 #[.val (.int p1), .val (.int p2)] [fm, (.int p2), (.int p1)])) rfl (by rw [hml]; rfl) (argsL := [(.int p1), (.int p2), fm]) (rest := []) (lenOf pd_1 rfl) rfl rfl (by show 2 * 0 + _ ≤ _; exact Nat.le_of_eq rfl) (hb hby d5_5) (by decide) (by decide)
  have N2 := Fr.app N0 N2q
  refine own_Fin.step st2 ?_
  show own_Fin p e below s _ _ _ (T2.setTop (mkF m 8 #[.val (.int p1), .val (.int p2)] [(.int p1)]))
  refine own_Fin.step (fun _ => XS.pop X2.here hx rfl (hb hby d5_8) rfl rfl) ?_
  show own_Fin p e below s _ _ _ (T2.setTop (mkF m 9 #[.val (.int p1), .val (.int p2)] []))
  exact own_ret0 X2 hx hlk hret (hb hby d5_9) ⟨rfl, N2, e2⟩ (by decide) (by decide)
theorem d6_0 : decode jdk_43_method_2_code 0 = .ok (.iload_n 1, 1) := by decide +kernel
theorem d6_1 : decode jdk_43_method_2_code 1 = .ok (.aload_n 0, 1) := by decide +kernel
theorem d6_2 : decode jdk_43_method_2_code 2 = .ok (.arraylength, 1) := by decide +kernel
theorem d6_3 : decode jdk_43_method_2_code 3 = .ok (.invokestatic 9, 3) := by decide +kernel
theorem d6_6 : decode jdk_43_method_2_code 6 = .ok (.aload_n 0, 1) := by decide +kernel
theorem d6_7 : decode jdk_43_method_2_code 7 = .ok (.iload_n 1, 1) := by decide +kernel
theorem d6_8 : decode jdk_43_method_2_code 8 = .ok (.baload, 1) := by decide +kernel
theorem d6_9 : decode jdk_43_method_2_code 9 = .ok (.sipush 255, 3) := by decide +kernel
theorem d6_12 : decode jdk_43_method_2_code 12 = .ok (.iand, 1) := by decide +kernel
theorem d6_13 : decode jdk_43_method_2_code 13 = .ok (.i2c, 1) := by decide +kernel
theorem d6_14 : decode jdk_43_method_2_code 14 = .ok (.ireturn, 1) := by decide +kernel
theorem pn_6 : plainFor (⟨"java/lang/StringLatin1", "charAt", "([BI)C"⟩ : MethodName) = true := plainFor_of_name (by first | (simp [plainName, overriddenIn]; done) | decide +kernel)
theorem ef_6 (m : MethodId) (x0 : Addr) (x1 : Int32) : entryFrame m #[(.ref x0), (.int x1)] 2 = mkF m 0 #[.val (.ref x0), .val (.int x1)] [] := by first | (simp [entryFrame, mkF, argsToLocals, Value.category]; done) | rfl
theorem pd_2 : parseMethodDescriptor "(II)V" = some ⟨[.int, .int], none⟩ := by decide +kernel
set_option maxRecDepth 65536 in
set_option maxHeartbeats 40000000 in
theorem rm6 (l : Launch) (Z : State) (a0 : Array Value) (hw : ∀ d ∈ tables_1, d.before a0 Z = true) (a1 : Addr) (p2 : Int32) (k1 : ClassId) (z : Int32) (bs : List Int32) (fm : Value) (h0 : Heap) (n0 : Nat) (Z0 : n0 ≤ h0.size) (S2 : Sta Z h0 "jdk/internal/util/Preconditions" "SIOOBE_FORMATTER" "Ljava/util/function/BiFunction;" fm) (rv : fm.isRef = true) (V1 : Arv Z h0 a1 k1 .byte z (bs.map Value.int) (.int (0 : Int32))) (g1 : ¬ p2 < (0 : Int32)) (g2 : p2 < z) :
    own_Met l Z [] (⟨"java/lang/StringLatin1", "charAt", "([BI)C"⟩ : MethodName) jdk_43_method_2_code 2 (some .char) ({ frames := 2, cells := 0, slots := 0, locals := 27 } : Room) #[(.ref a1), (.int p2)] h0 (own_QP (some (.int (own_c1 (bs.getD p2.toNatClampNeg 0)))) h0 n0) := by
  refine own_enter pn_6 ?_
  intro p e s m below meth c s₁ X0 hx hby hml hown hret hlk hnm hZ e0
  have hml : c.maxLocals = 2 := hml
  have N0 := Fr.nil n0
  rw [ef_6 m a1 p2]
  show own_Fin p e below s _ _ _ (s₁.setTop (mkF m 0 #[.val (.ref a1), .val (.int p2)] []))
  refine own_Fin.step (fun _ => XS.iloadN X0.here hx rfl (hb hby d6_0) rfl) ?_
  show own_Fin p e below s _ _ _ (s₁.setTop (mkF m 1 #[.val (.ref a1), .val (.int p2)] [(.int p2)]))
  refine own_Fin.step (fun _ => XS.aloadN X0.here hx rfl (hb hby d6_1) rfl rfl) ?_
  show own_Fin p e below s _ _ _ (s₁.setTop (mkF m 2 #[.val (.ref a1), .val (.int p2)] [(.ref a1), (.int p2)]))
  refine own_Fin.step (own_len X0 hx hZ e0 V1 (g := (mkF m 2 #[.val (.ref a1), .val (.int p2)] [(.ref a1), (.int p2)])) rfl rfl (hb hby d6_2)) ?_
  show own_Fin p e below s _ _ _ (s₁.setTop (mkF m 3 #[.val (.ref a1), .val (.int p2)] [(.int z), (.int p2)]))
  obtain ⟨_, T1, L1, X1, ⟨rfl, N1q, e1⟩, st1⟩ := own_callS X0 hx hZ hown (own_w hw 42 rfl) (own_w hw 43 rfl) (own_w hw 5 rfl) (own_w hw 44 rfl) (by decide) (rm5 l Z a0 hw p2 z fm h0 n0 Z0 S2 rv g1 g2) (by decide) (by decide) e0 (W := 0) (g := (mkF m 3 #[.val (.ref a1), .val (.int p2)] [(.int z), (.int p2)])) rfl (by rw [hml]; rfl) (argsL := [(.int p2), (.int z)]) (rest := []) (lenOf pd_2 rfl) rfl rfl (by show 2 * 0 + _ ≤ _; exact Nat.le_of_eq rfl) (hb hby d6_3) (by decide) (by decide)
  have N1 := Fr.app N0 N1q
  refine own_Fin.step st1 ?_
  show own_Fin p e below s _ _ _ (T1.setTop (mkF m 6 #[.val (.ref a1), .val (.int p2)] []))
  refine own_Fin.step (fun _ => XS.aloadN X1.here hx rfl (hb hby d6_6) rfl rfl) ?_
  show own_Fin p e below s _ _ _ (T1.setTop (mkF m 7 #[.val (.ref a1), .val (.int p2)] [(.ref a1)]))
  refine own_Fin.step (fun _ => XS.iloadN X1.here hx rfl (hb hby d6_7) rfl) ?_
  show own_Fin p e below s _ _ _ (T1.setTop (mkF m 8 #[.val (.ref a1), .val (.int p2)] [(.int p2), (.ref a1)]))
  refine own_Fin.step (own_ldB X1 hx hZ e1 V1 (j := p2) (v := (.int (bs.getD p2.toNatClampNeg 0))) ⟨g1, g2⟩ (own_getD bs _) (g := (mkF m 8 #[.val (.ref a1), .val (.int p2)] [(.int p2), (.ref a1)])) rfl rfl (hb hby d6_8)) ?_
  show own_Fin p e below s _ _ _ (T1.setTop (mkF m 9 #[.val (.ref a1), .val (.int p2)] [(.int (bs.getD p2.toNatClampNeg 0))]))
  refine own_Fin.step (fun _ => XS.sipush X1.here hx rfl (hb hby d6_9)) ?_
  show own_Fin p e below s _ _ _ (T1.setTop (mkF m 12 #[.val (.ref a1), .val (.int p2)] [(.int (255 : Int32)), (.int (bs.getD p2.toNatClampNeg 0))]))
  refine own_Fin.step (fun _ => XS.iand X1.here hx rfl (hb hby d6_12) rfl) ?_
  show own_Fin p e below s _ _ _ (T1.setTop (mkF m 13 #[.val (.ref a1), .val (.int p2)] [(.int ((bs.getD p2.toNatClampNeg 0) &&& (255 : Int32)))]))
  refine own_Fin.step (fun _ => XS.i2c X1.here hx rfl (hb hby d6_13) rfl) ?_
  show own_Fin p e below s _ _ _ (T1.setTop (mkF m 14 #[.val (.ref a1), .val (.int p2)] [(.int (((bs.getD p2.toNatClampNeg 0) &&& (255 : Int32)).toUInt32.toUInt16.toUInt32.toInt32))]))
  exact own_retN X1 hx hlk (t := .char) hret (by simp) (hb hby d6_14) ⟨rfl, N1, e1⟩ (by decide) (by decide)
theorem d7_0 : decode jdk_42_method_56_code 0 = .ok (.aload_n 0, 1) := by decide +kernel
theorem d7_1 : decode jdk_42_method_56_code 1 = .ok (.invokevirtual 492, 3) := by decide +kernel
theorem d7_4 : decode jdk_42_method_56_code 4 = .ok (.ifCond .eq 12, 3) := by decide +kernel
theorem d7_7 : decode jdk_42_method_56_code 7 = .ok (.aload_n 0, 1) := by decide +kernel
theorem d7_8 : decode jdk_42_method_56_code 8 = .ok (.getfield 9, 3) := by decide +kernel
theorem d7_11 : decode jdk_42_method_56_code 11 = .ok (.iload_n 1, 1) := by decide +kernel
theorem d7_12 : decode jdk_42_method_56_code 12 = .ok (.invokestatic 495, 3) := by decide +kernel
theorem d7_15 : decode jdk_42_method_56_code 15 = .ok (.ireturn, 1) := by decide +kernel
theorem d7_16 : decode jdk_42_method_56_code 16 = .ok (.aload_n 0, 1) := by decide +kernel
theorem d7_17 : decode jdk_42_method_56_code 17 = .ok (.getfield 9, 3) := by decide +kernel
theorem d7_20 : decode jdk_42_method_56_code 20 = .ok (.iload_n 1, 1) := by decide +kernel
theorem d7_21 : decode jdk_42_method_56_code 21 = .ok (.invokestatic 498, 3) := by decide +kernel
theorem d7_24 : decode jdk_42_method_56_code 24 = .ok (.ireturn, 1) := by decide +kernel
theorem pn_7 : plainFor (⟨"java/lang/String", "charAt", "(I)C"⟩ : MethodName) = true := plainFor_of_name (by first | (simp [plainName, overriddenIn]; done) | decide +kernel)
theorem ef_7 (m : MethodId) (x0 : Addr) (x1 : Int32) : entryFrame m #[(.ref x0), (.int x1)] 2 = mkF m 0 #[.val (.ref x0), .val (.int x1)] [] := by first | (simp [entryFrame, mkF, argsToLocals, Value.category]; done) | rfl
theorem pd_3 : parseMethodDescriptor "()Z" = some ⟨[], some .boolean⟩ := by decide +kernel
theorem pd_4 : parseMethodDescriptor "([BI)C" = some ⟨[(.array .byte), .int], some .char⟩ := by decide +kernel
set_option maxRecDepth 65536 in
set_option maxHeartbeats 40000000 in
theorem rm7 (l : Launch) (Z : State) (a0 : Array Value) (hw : ∀ d ∈ tables_1, d.before a0 Z = true) (a1 : Addr) (p2 : Int32) (b1 : Addr) (k1 : ClassId) (z : Int32) (bs : List Int32) (cs : Int32) (fm : Value) (h0 : Heap) (n0 : Nat) (Z0 : n0 ≤ h0.size) (S1 : Sta Z h0 "java/lang/String" "COMPACT_STRINGS" "Z" (.int cs)) (hcs : ¬ (cs = (0 : Int32))) (S2 : Sta Z h0 "jdk/internal/util/Preconditions" "SIOOBE_FORMATTER" "Ljava/util/function/BiFunction;" fm) (rv : fm.isRef = true) (E1 : Exa Z h0 a1 "java/lang/String") (F1 : Fld Z h0 a1 "java/lang/String" "coder" "B" (.int (0 : Int32))) (F2 : Fld Z h0 a1 "java/lang/String" "value" "[B" (.ref b1)) (V1 : Arv Z h0 b1 k1 .byte z (bs.map Value.int) (.int (0 : Int32))) (g1 : ¬ p2 < (0 : Int32)) (g2 : p2 < z) :
    own_Met l Z [] (⟨"java/lang/String", "charAt", "(I)C"⟩ : MethodName) jdk_42_method_56_code 2 (some .char) ({ frames := 3, cells := 0, slots := 0, locals := 40 } : Room) #[(.ref a1), (.int p2)] h0 (own_QP (some (.int (own_ch bs p2))) h0 n0) := by
  refine own_enter pn_7 ?_
  intro p e s m below meth c s₁ X0 hx hby hml hown hret hlk hnm hZ e0
  have hml : c.maxLocals = 2 := hml
  have N0 := Fr.nil n0
  rw [ef_7 m a1 p2]
  show own_Fin p e below s _ _ _ (s₁.setTop (mkF m 0 #[.val (.ref a1), .val (.int p2)] []))
  refine own_Fin.step (fun _ => XS.aloadN X0.here hx rfl (hb hby d7_0) rfl rfl) ?_
  show own_Fin p e below s _ _ _ (s₁.setTop (mkF m 1 #[.val (.ref a1), .val (.int p2)] [(.ref a1)]))
  obtain ⟨_, T1, L1, X1, ⟨rfl, N1q, e1⟩, st1⟩ := own_callV X0 hx hZ hown (own_w hw 33 rfl) (own_w hw 34 rfl) (own_w hw 36 rfl) (own_w hw 35 rfl) (own_w hw 5 rfl) (own_w hw 37 rfl) (by decide) (rm3 l Z a0 hw a1 cs h0 n0 Z0 S1 hcs F1) (by decide) (by decide) E1 e0 (W := 0) (g := (mkF m 1 #[.val (.ref a1), .val (.int p2)] [(.ref a1)])) rfl (by rw [hml]; rfl) (argsL := []) (rest := []) (lenOf pd_3 rfl) rfl rfl (by show 2 * 0 + _ ≤ _; exact Nat.le_of_eq rfl) (hb hby d7_1) (by decide) (by decide)
  have N1 := Fr.app N0 N1q
  refine own_Fin.step st1 ?_
  show own_Fin p e below s _ _ _ (T1.setTop (mkF m 4 #[.val (.ref a1), .val (.int p2)] [(.int (1 : Int32))]))
  refine own_Fin.step (fun _ => XS.ifNo X1.here hx rfl (hb hby d7_4) rfl (XT.i0_eq_f (by decide : ¬ ((1 : Int32) = (0 : Int32))))) ?_
  show own_Fin p e below s _ _ _ (T1.setTop (mkF m 7 #[.val (.ref a1), .val (.int p2)] []))
  refine own_Fin.step (fun _ => XS.aloadN X1.here hx rfl (hb hby d7_7) rfl rfl) ?_
  show own_Fin p e below s _ _ _ (T1.setTop (mkF m 8 #[.val (.ref a1), .val (.int p2)] [(.ref a1)]))
  obtain ⟨T2, X2, e2, st2⟩ := getF X1 hx hZ hown (host := "") (Or.inl (own_w hw 19 rfl)) Via.refl e1 F2 (g := (mkF m 8 #[.val (.ref a1), .val (.int p2)] [(.ref a1)])) rfl rfl (hb hby d7_8)
  refine own_Fin.step st2 ?_
  show own_Fin p e below s _ _ _ (T2.setTop (mkF m 11 #[.val (.ref a1), .val (.int p2)] [(.ref b1)]))
  refine own_Fin.step (fun _ => XS.iloadN X2.here hx rfl (hb hby d7_11) rfl) ?_
  show own_Fin p e below s _ _ _ (T2.setTop (mkF m 12 #[.val (.ref a1), .val (.int p2)] [(.int p2), (.ref b1)]))
  obtain ⟨_, T3, L3, X3, ⟨rfl, N3q, e3⟩, st3⟩ := own_callS X2 hx hZ hown (own_w hw 38 rfl) (own_w hw 39 rfl) (own_w hw 40 rfl) (own_w hw 41 rfl) (by decide) (rm6 l Z a0 hw b1 p2 k1 z bs fm h0 n0 Z0 S2 rv V1 g1 g2) (by decide) (by decide) e2 (W := 0) (g := (mkF m 12 #[.val (.ref a1), .val (.int p2)] [(.int p2), (.ref b1)])) rfl (by rw [hml]; rfl) (argsL := [(.ref b1), (.int p2)]) (rest := []) (lenOf pd_4 rfl) rfl rfl (by show 2 * 0 + _ ≤ _; exact Nat.le_of_eq rfl) (hb hby d7_12) (by decide) (by decide)
  have N3 := Fr.app N1 N3q
  refine own_Fin.step st3 ?_
  show own_Fin p e below s _ _ _ (T3.setTop (mkF m 15 #[.val (.ref a1), .val (.int p2)] [(.int (own_c1 (bs.getD p2.toNatClampNeg 0)))]))
  exact own_retN X3 hx hlk (t := .char) hret (by simp) (hb hby d7_15) ⟨rfl, N3, e3⟩ (by decide) (by decide)
def own_QS (Z : State) (bs : List Int32) (h0 : Heap) (n0 : Nat) (v : Option Value) (h : Heap) (L : List Loc) : Prop := ∃ a, v = some (.ref a) ∧ Fr n0 L ∧ Ext h0 h ∧ own_Str Z h a bs
def own_QN (h0 : Heap) (n0 : Nat) (v : Option Value) (h : Heap) (L : List Loc) : Prop := v = some .null ∧ Fr n0 L ∧ Ext h0 h
theorem own_ext0 (h : Heap) : Ext h h := ⟨Nat.le_refl _, fun _ _ q => q⟩
theorem d8_0 : decode prog_42_method_5_code 0 = .ok (.iload_n 0, 1) := by decide +kernel
theorem d8_1 : decode prog_42_method_5_code 1 = .ok (.tableswitch 144 192 207 #[79, 84, 89, 94, 144, 99, 104, 109, 144, 114, 119, 124, 144, 129, 134, 139], 79) := by decide +kernel
theorem d8_80 : decode prog_42_method_5_code 80 = .ok (.ldc 13, 2) := by decide +kernel
theorem d8_82 : decode prog_42_method_5_code 82 = .ok (.goto 64, 3) := by decide +kernel
theorem d8_85 : decode prog_42_method_5_code 85 = .ok (.ldc 15, 2) := by decide +kernel
theorem d8_87 : decode prog_42_method_5_code 87 = .ok (.goto 59, 3) := by decide +kernel
theorem d8_90 : decode prog_42_method_5_code 90 = .ok (.ldc 17, 2) := by decide +kernel
theorem d8_92 : decode prog_42_method_5_code 92 = .ok (.goto 54, 3) := by decide +kernel
theorem d8_95 : decode prog_42_method_5_code 95 = .ok (.ldc 19, 2) := by decide +kernel
theorem d8_97 : decode prog_42_method_5_code 97 = .ok (.goto 49, 3) := by decide +kernel
theorem d8_100 : decode prog_42_method_5_code 100 = .ok (.ldc 21, 2) := by decide +kernel
theorem d8_102 : decode prog_42_method_5_code 102 = .ok (.goto 44, 3) := by decide +kernel
theorem d8_105 : decode prog_42_method_5_code 105 = .ok (.ldc 23, 2) := by decide +kernel
theorem d8_107 : decode prog_42_method_5_code 107 = .ok (.goto 39, 3) := by decide +kernel
theorem d8_110 : decode prog_42_method_5_code 110 = .ok (.ldc 25, 2) := by decide +kernel
theorem d8_112 : decode prog_42_method_5_code 112 = .ok (.goto 34, 3) := by decide +kernel
theorem d8_115 : decode prog_42_method_5_code 115 = .ok (.ldc 27, 2) := by decide +kernel
theorem d8_117 : decode prog_42_method_5_code 117 = .ok (.goto 29, 3) := by decide +kernel
theorem d8_120 : decode prog_42_method_5_code 120 = .ok (.ldc 29, 2) := by decide +kernel
theorem d8_122 : decode prog_42_method_5_code 122 = .ok (.goto 24, 3) := by decide +kernel
theorem d8_125 : decode prog_42_method_5_code 125 = .ok (.ldc 31, 2) := by decide +kernel
theorem d8_127 : decode prog_42_method_5_code 127 = .ok (.goto 19, 3) := by decide +kernel
theorem d8_130 : decode prog_42_method_5_code 130 = .ok (.ldc 33, 2) := by decide +kernel
theorem d8_132 : decode prog_42_method_5_code 132 = .ok (.goto 14, 3) := by decide +kernel
theorem d8_135 : decode prog_42_method_5_code 135 = .ok (.ldc 35, 2) := by decide +kernel
theorem d8_137 : decode prog_42_method_5_code 137 = .ok (.goto 9, 3) := by decide +kernel
theorem d8_140 : decode prog_42_method_5_code 140 = .ok (.ldc 37, 2) := by decide +kernel
theorem d8_142 : decode prog_42_method_5_code 142 = .ok (.goto 4, 3) := by decide +kernel
theorem d8_145 : decode prog_42_method_5_code 145 = .ok (.aconst_null, 1) := by decide +kernel
theorem d8_146 : decode prog_42_method_5_code 146 = .ok (.areturn, 1) := by decide +kernel
theorem pn_8 : plainFor (⟨"com/example/libcoef/libcoef/JpegMarker", "process", "(I)Ljava/lang/String;"⟩ : MethodName) = true := plainFor_of_name (by first | (simp [plainName, overriddenIn]; done) | decide +kernel)
theorem ef_8 (m : MethodId) (x0 : Int32) : entryFrame m #[(.int x0)] 1 = mkF m 0 #[.val (.int x0)] [] := by first | (simp [entryFrame, mkF, argsToLocals, Value.category]; done) | rfl
set_option maxRecDepth 65536 in
set_option maxHeartbeats 40000000 in
theorem rm8_out (l : Launch) (Z : State) (a0 : Array Value) (hw : ∀ d ∈ tables_1, d.before a0 Z = true) (p1 : Int32)  (h0 : Heap) (n0 : Nat) (Z0 : n0 ≤ h0.size) (H : p1.toInt < 192 ∨ p1.toInt > 207) :
    own_MetV l Z [] (⟨"com/example/libcoef/libcoef/JpegMarker", "process", "(I)Ljava/lang/String;"⟩ : MethodName) prog_42_method_5_code 1 (some (.object "java/lang/String")) ({ frames := 0, cells := 0, slots := 0, locals := 0 } : Room) #[(.int p1)] h0 (own_QN h0 n0) := by
  refine own_enterV pn_8 ?_
  intro p e s m below meth c s₁ X0 hx hby hml hown hret hlk hnm hZ e0 hS C0
  have hEL := own_EW hw
  have hk : s₁.heap.size ≤ h0.size := by rw [e0]; exact Nat.le_refl _
  have own_wS : ∀ a ∈ Bundle.stringAtoms, a.before a0 Z = true := own_strings hw
  have hml : c.maxLocals = 1 := hml
  have N0 := Fr.nil n0
  rw [ef_8 m p1]
  show own_FinV p e below s _ _ _ (s₁.setTop (mkF m 0 #[.val (.int p1)] []))
  refine own_FinV.step (fun _ => XS.iloadN X0.here hx rfl (hb hby d8_0) rfl) ?_
  show own_FinV p e below s _ _ _ (s₁.setTop (mkF m 1 #[.val (.int p1)] [(.int p1)]))
  have hd1 : decode c.code 1 = .ok (.tableswitch 144 192 207 #[79, 84, 89, 94, 144, 99, 104, 109, 144, 114, 119, 124, 144, 129, 134, 139], 79) := (hb hby d8_1)
  have st1 := fun t => XS.tswOut (e := e) (below := below) (target := t) (g := (mkF m 1 #[.val (.int p1)] [(.int p1)])) X0.here hx rfl (pc0 := 1) (pc' := 145) rfl hd1 rfl H (by decide) (by decide)
  refine own_FinV.step st1 ?_
  show own_FinV p e below s _ _ _ (s₁.setTop (mkF m 145 #[.val (.int p1)] []))
  refine own_FinV.step (fun _ => XS.aconstNull X0.here hx rfl (hb hby d8_145)) ?_
  show own_FinV p e below s _ _ _ (s₁.setTop (mkF m 146 #[.val (.int p1)] [.null]))
  exact own_retRV X0 hS hk e0 hZ hEL C0 hx hlk rfl hret rfl (hb hby d8_146) ⟨rfl, N0, by rw [e0]; exact own_ext0 _⟩ (by decide) (by decide)
set_option maxRecDepth 65536 in
set_option maxHeartbeats 40000000 in
theorem rm8_192 (l : Launch) (Z : State) (a0 : Array Value) (hw : ∀ d ∈ tables_1, d.before a0 Z = true)   (h0 : Heap) (n0 : Nat) (Z0 : n0 ≤ h0.size)  :
    own_MetV l Z [] (⟨"com/example/libcoef/libcoef/JpegMarker", "process", "(I)Ljava/lang/String;"⟩ : MethodName) prog_42_method_5_code 1 (some (.object "java/lang/String")) ({ frames := 0, cells := 2, slots := 36, locals := 0 } : Room) #[(.int (192 : Int32))] h0 (own_QS Z (own_bs "baseline") h0 n0) := by
  refine own_enterV pn_8 ?_
  intro p e s m below meth c s₁ X0 hx hby hml hown hret hlk hnm hZ e0 hS C0
  have hEL := own_EW hw
  have hk : s₁.heap.size ≤ h0.size := by rw [e0]; exact Nat.le_refl _
  have own_wS : ∀ a ∈ Bundle.stringAtoms, a.before a0 Z = true := own_strings hw
  have hml : c.maxLocals = 1 := hml
  have N0 := Fr.nil n0
  rw [ef_8 m (192 : Int32)]
  show own_FinV p e below s _ _ _ (s₁.setTop (mkF m 0 #[.val (.int (192 : Int32))] []))
  refine own_FinV.step (fun _ => XS.iloadN X0.here hx rfl (hb hby d8_0) rfl) ?_
  show own_FinV p e below s _ _ _ (s₁.setTop (mkF m 1 #[.val (.int (192 : Int32))] [(.int (192 : Int32))]))
  have hd1 : decode c.code 1 = .ok (.tableswitch 144 192 207 #[79, 84, 89, 94, 144, 99, 104, 109, 144, 114, 119, 124, 144, 129, 134, 139], 79) := (hb hby d8_1)
  have st1 := fun t => XS.tswIn (e := e) (below := below) (target := t) (g := (mkF m 1 #[.val (.int (192 : Int32))] [(.int (192 : Int32))])) X0.here hx rfl (pc0 := 1) (pc' := 80) rfl hd1 rfl (by decide) (o := 79) (by decide) (by decide) (by decide)
  refine own_FinV.step st1 ?_
  show own_FinV p e below s _ _ _ (s₁.setTop (mkF m 80 #[.val (.int (192 : Int32))] []))
  obtain ⟨b2, T2, h2, k2, X2, e2, E2, hS2, hk2, hZ2, hown2, St2, C2, st2⟩ := own_ldcV (s := s) (vm0 := s.vm) X0 hx hZ hown (own_w hw 4 rfl) own_wS e0 hS hk hEL (List.mem_of_getElem? (i := 0) rfl) C0 (by decide) (g := (mkF m 80 #[.val (.int (192 : Int32))] [])) rfl (hb hby d8_80) (n := 32) (by decide) (by decide) (by decide) (by decide)
  have hS := hS2
  have hk := hk2
  have hZ := hZ2
  have hown := hown2
  have Z2 : n0 ≤ h2.size := Nat.le_trans Z0 E2.1
  refine own_FinV.step st2 ?_
  show own_FinV p e below s _ _ _ (T2.setTop (mkF m 82 #[.val (.int (192 : Int32))] [(.ref b2)]))
  refine own_FinV.step (fun _ => XS.goto X2.here hx rfl (pc0 := 82) (pc' := 146) rfl (hb hby d8_82) (by decide) (by decide)) ?_
  show own_FinV p e below s _ _ _ (T2.setTop (mkF m 146 #[.val (.int (192 : Int32))] [(.ref b2)]))
  exact own_retRV X2 hS hk e2 hZ hEL C2 hx hlk rfl hret rfl (hb hby d8_146) ⟨_, rfl, N0, by rw [e2]; exact E2, by rw [e2]; exact St2⟩ (by decide) (by decide)
set_option maxRecDepth 65536 in
set_option maxHeartbeats 40000000 in
theorem rm8_193 (l : Launch) (Z : State) (a0 : Array Value) (hw : ∀ d ∈ tables_1, d.before a0 Z = true)   (h0 : Heap) (n0 : Nat) (Z0 : n0 ≤ h0.size)  :
    own_MetV l Z [] (⟨"com/example/libcoef/libcoef/JpegMarker", "process", "(I)Ljava/lang/String;"⟩ : MethodName) prog_42_method_5_code 1 (some (.object "java/lang/String")) ({ frames := 0, cells := 2, slots := 80, locals := 0 } : Room) #[(.int (193 : Int32))] h0 (own_QS Z (own_bs "extended sequential") h0 n0) := by
  refine own_enterV pn_8 ?_
  intro p e s m below meth c s₁ X0 hx hby hml hown hret hlk hnm hZ e0 hS C0
  have hEL := own_EW hw
  have hk : s₁.heap.size ≤ h0.size := by rw [e0]; exact Nat.le_refl _
  have own_wS : ∀ a ∈ Bundle.stringAtoms, a.before a0 Z = true := own_strings hw
  have hml : c.maxLocals = 1 := hml
  have N0 := Fr.nil n0
  rw [ef_8 m (193 : Int32)]
  show own_FinV p e below s _ _ _ (s₁.setTop (mkF m 0 #[.val (.int (193 : Int32))] []))
  refine own_FinV.step (fun _ => XS.iloadN X0.here hx rfl (hb hby d8_0) rfl) ?_
  show own_FinV p e below s _ _ _ (s₁.setTop (mkF m 1 #[.val (.int (193 : Int32))] [(.int (193 : Int32))]))
  have hd1 : decode c.code 1 = .ok (.tableswitch 144 192 207 #[79, 84, 89, 94, 144, 99, 104, 109, 144, 114, 119, 124, 144, 129, 134, 139], 79) := (hb hby d8_1)
  have st1 := fun t => XS.tswIn (e := e) (below := below) (target := t) (g := (mkF m 1 #[.val (.int (193 : Int32))] [(.int (193 : Int32))])) X0.here hx rfl (pc0 := 1) (pc' := 85) rfl hd1 rfl (by decide) (o := 84) (by decide) (by decide) (by decide)
  refine own_FinV.step st1 ?_
  show own_FinV p e below s _ _ _ (s₁.setTop (mkF m 85 #[.val (.int (193 : Int32))] []))
  obtain ⟨b2, T2, h2, k2, X2, e2, E2, hS2, hk2, hZ2, hown2, St2, C2, st2⟩ := own_ldcV (s := s) (vm0 := s.vm) X0 hx hZ hown (own_w hw 56 rfl) own_wS e0 hS hk hEL (List.mem_of_getElem? (i := 1) rfl) C0 (by decide) (g := (mkF m 85 #[.val (.int (193 : Int32))] [])) rfl (hb hby d8_85) (n := 76) (by decide) (by decide) (by decide) (by decide)
  have hS := hS2
  have hk := hk2
  have hZ := hZ2
  have hown := hown2
  have Z2 : n0 ≤ h2.size := Nat.le_trans Z0 E2.1
  refine own_FinV.step st2 ?_
  show own_FinV p e below s _ _ _ (T2.setTop (mkF m 87 #[.val (.int (193 : Int32))] [(.ref b2)]))
  refine own_FinV.step (fun _ => XS.goto X2.here hx rfl (pc0 := 87) (pc' := 146) rfl (hb hby d8_87) (by decide) (by decide)) ?_
  show own_FinV p e below s _ _ _ (T2.setTop (mkF m 146 #[.val (.int (193 : Int32))] [(.ref b2)]))
  exact own_retRV X2 hS hk e2 hZ hEL C2 hx hlk rfl hret rfl (hb hby d8_146) ⟨_, rfl, N0, by rw [e2]; exact E2, by rw [e2]; exact St2⟩ (by decide) (by decide)
set_option maxRecDepth 65536 in
set_option maxHeartbeats 40000000 in
theorem rm8_194 (l : Launch) (Z : State) (a0 : Array Value) (hw : ∀ d ∈ tables_1, d.before a0 Z = true)   (h0 : Heap) (n0 : Nat) (Z0 : n0 ≤ h0.size)  :
    own_MetV l Z [] (⟨"com/example/libcoef/libcoef/JpegMarker", "process", "(I)Ljava/lang/String;"⟩ : MethodName) prog_42_method_5_code 1 (some (.object "java/lang/String")) ({ frames := 0, cells := 2, slots := 48, locals := 0 } : Room) #[(.int (194 : Int32))] h0 (own_QS Z (own_bs "progressive") h0 n0) := by
  refine own_enterV pn_8 ?_
  intro p e s m below meth c s₁ X0 hx hby hml hown hret hlk hnm hZ e0 hS C0
  have hEL := own_EW hw
  have hk : s₁.heap.size ≤ h0.size := by rw [e0]; exact Nat.le_refl _
  have own_wS : ∀ a ∈ Bundle.stringAtoms, a.before a0 Z = true := own_strings hw
  have hml : c.maxLocals = 1 := hml
  have N0 := Fr.nil n0
  rw [ef_8 m (194 : Int32)]
  show own_FinV p e below s _ _ _ (s₁.setTop (mkF m 0 #[.val (.int (194 : Int32))] []))
  refine own_FinV.step (fun _ => XS.iloadN X0.here hx rfl (hb hby d8_0) rfl) ?_
  show own_FinV p e below s _ _ _ (s₁.setTop (mkF m 1 #[.val (.int (194 : Int32))] [(.int (194 : Int32))]))
  have hd1 : decode c.code 1 = .ok (.tableswitch 144 192 207 #[79, 84, 89, 94, 144, 99, 104, 109, 144, 114, 119, 124, 144, 129, 134, 139], 79) := (hb hby d8_1)
  have st1 := fun t => XS.tswIn (e := e) (below := below) (target := t) (g := (mkF m 1 #[.val (.int (194 : Int32))] [(.int (194 : Int32))])) X0.here hx rfl (pc0 := 1) (pc' := 90) rfl hd1 rfl (by decide) (o := 89) (by decide) (by decide) (by decide)
  refine own_FinV.step st1 ?_
  show own_FinV p e below s _ _ _ (s₁.setTop (mkF m 90 #[.val (.int (194 : Int32))] []))
  obtain ⟨b2, T2, h2, k2, X2, e2, E2, hS2, hk2, hZ2, hown2, St2, C2, st2⟩ := own_ldcV (s := s) (vm0 := s.vm) X0 hx hZ hown (own_w hw 50 rfl) own_wS e0 hS hk hEL (List.mem_of_getElem? (i := 2) rfl) C0 (by decide) (g := (mkF m 90 #[.val (.int (194 : Int32))] [])) rfl (hb hby d8_90) (n := 44) (by decide) (by decide) (by decide) (by decide)
  have hS := hS2
  have hk := hk2
  have hZ := hZ2
  have hown := hown2
  have Z2 : n0 ≤ h2.size := Nat.le_trans Z0 E2.1
  refine own_FinV.step st2 ?_
  show own_FinV p e below s _ _ _ (T2.setTop (mkF m 92 #[.val (.int (194 : Int32))] [(.ref b2)]))
  refine own_FinV.step (fun _ => XS.goto X2.here hx rfl (pc0 := 92) (pc' := 146) rfl (hb hby d8_92) (by decide) (by decide)) ?_
  show own_FinV p e below s _ _ _ (T2.setTop (mkF m 146 #[.val (.int (194 : Int32))] [(.ref b2)]))
  exact own_retRV X2 hS hk e2 hZ hEL C2 hx hlk rfl hret rfl (hb hby d8_146) ⟨_, rfl, N0, by rw [e2]; exact E2, by rw [e2]; exact St2⟩ (by decide) (by decide)
set_option maxRecDepth 65536 in
set_option maxHeartbeats 40000000 in
theorem rm8_195 (l : Launch) (Z : State) (a0 : Array Value) (hw : ∀ d ∈ tables_1, d.before a0 Z = true)   (h0 : Heap) (n0 : Nat) (Z0 : n0 ≤ h0.size)  :
    own_MetV l Z [] (⟨"com/example/libcoef/libcoef/JpegMarker", "process", "(I)Ljava/lang/String;"⟩ : MethodName) prog_42_method_5_code 1 (some (.object "java/lang/String")) ({ frames := 0, cells := 2, slots := 36, locals := 0 } : Room) #[(.int (195 : Int32))] h0 (own_QS Z (own_bs "lossless") h0 n0) := by
  refine own_enterV pn_8 ?_
  intro p e s m below meth c s₁ X0 hx hby hml hown hret hlk hnm hZ e0 hS C0
  have hEL := own_EW hw
  have hk : s₁.heap.size ≤ h0.size := by rw [e0]; exact Nat.le_refl _
  have own_wS : ∀ a ∈ Bundle.stringAtoms, a.before a0 Z = true := own_strings hw
  have hml : c.maxLocals = 1 := hml
  have N0 := Fr.nil n0
  rw [ef_8 m (195 : Int32)]
  show own_FinV p e below s _ _ _ (s₁.setTop (mkF m 0 #[.val (.int (195 : Int32))] []))
  refine own_FinV.step (fun _ => XS.iloadN X0.here hx rfl (hb hby d8_0) rfl) ?_
  show own_FinV p e below s _ _ _ (s₁.setTop (mkF m 1 #[.val (.int (195 : Int32))] [(.int (195 : Int32))]))
  have hd1 : decode c.code 1 = .ok (.tableswitch 144 192 207 #[79, 84, 89, 94, 144, 99, 104, 109, 144, 114, 119, 124, 144, 129, 134, 139], 79) := (hb hby d8_1)
  have st1 := fun t => XS.tswIn (e := e) (below := below) (target := t) (g := (mkF m 1 #[.val (.int (195 : Int32))] [(.int (195 : Int32))])) X0.here hx rfl (pc0 := 1) (pc' := 95) rfl hd1 rfl (by decide) (o := 94) (by decide) (by decide) (by decide)
  refine own_FinV.step st1 ?_
  show own_FinV p e below s _ _ _ (s₁.setTop (mkF m 95 #[.val (.int (195 : Int32))] []))
  obtain ⟨b2, T2, h2, k2, X2, e2, E2, hS2, hk2, hZ2, hown2, St2, C2, st2⟩ := own_ldcV (s := s) (vm0 := s.vm) X0 hx hZ hown (own_w hw 52 rfl) own_wS e0 hS hk hEL (List.mem_of_getElem? (i := 3) rfl) C0 (by decide) (g := (mkF m 95 #[.val (.int (195 : Int32))] [])) rfl (hb hby d8_95) (n := 32) (by decide) (by decide) (by decide) (by decide)
  have hS := hS2
  have hk := hk2
  have hZ := hZ2
  have hown := hown2
  have Z2 : n0 ≤ h2.size := Nat.le_trans Z0 E2.1
  refine own_FinV.step st2 ?_
  show own_FinV p e below s _ _ _ (T2.setTop (mkF m 97 #[.val (.int (195 : Int32))] [(.ref b2)]))
  refine own_FinV.step (fun _ => XS.goto X2.here hx rfl (pc0 := 97) (pc' := 146) rfl (hb hby d8_97) (by decide) (by decide)) ?_
  show own_FinV p e below s _ _ _ (T2.setTop (mkF m 146 #[.val (.int (195 : Int32))] [(.ref b2)]))
  exact own_retRV X2 hS hk e2 hZ hEL C2 hx hlk rfl hret rfl (hb hby d8_146) ⟨_, rfl, N0, by rw [e2]; exact E2, by rw [e2]; exact St2⟩ (by decide) (by decide)
set_option maxRecDepth 65536 in
set_option maxHeartbeats 40000000 in
theorem rm8_196 (l : Launch) (Z : State) (a0 : Array Value) (hw : ∀ d ∈ tables_1, d.before a0 Z = true)   (h0 : Heap) (n0 : Nat) (Z0 : n0 ≤ h0.size)  :
    own_MetV l Z [] (⟨"com/example/libcoef/libcoef/JpegMarker", "process", "(I)Ljava/lang/String;"⟩ : MethodName) prog_42_method_5_code 1 (some (.object "java/lang/String")) ({ frames := 0, cells := 0, slots := 0, locals := 0 } : Room) #[(.int (196 : Int32))] h0 (own_QN h0 n0) := by
  refine own_enterV pn_8 ?_
  intro p e s m below meth c s₁ X0 hx hby hml hown hret hlk hnm hZ e0 hS C0
  have hEL := own_EW hw
  have hk : s₁.heap.size ≤ h0.size := by rw [e0]; exact Nat.le_refl _
  have own_wS : ∀ a ∈ Bundle.stringAtoms, a.before a0 Z = true := own_strings hw
  have hml : c.maxLocals = 1 := hml
  have N0 := Fr.nil n0
  rw [ef_8 m (196 : Int32)]
  show own_FinV p e below s _ _ _ (s₁.setTop (mkF m 0 #[.val (.int (196 : Int32))] []))
  refine own_FinV.step (fun _ => XS.iloadN X0.here hx rfl (hb hby d8_0) rfl) ?_
  show own_FinV p e below s _ _ _ (s₁.setTop (mkF m 1 #[.val (.int (196 : Int32))] [(.int (196 : Int32))]))
  have hd1 : decode c.code 1 = .ok (.tableswitch 144 192 207 #[79, 84, 89, 94, 144, 99, 104, 109, 144, 114, 119, 124, 144, 129, 134, 139], 79) := (hb hby d8_1)
  have st1 := fun t => XS.tswIn (e := e) (below := below) (target := t) (g := (mkF m 1 #[.val (.int (196 : Int32))] [(.int (196 : Int32))])) X0.here hx rfl (pc0 := 1) (pc' := 145) rfl hd1 rfl (by decide) (o := 144) (by decide) (by decide) (by decide)
  refine own_FinV.step st1 ?_
  show own_FinV p e below s _ _ _ (s₁.setTop (mkF m 145 #[.val (.int (196 : Int32))] []))
  refine own_FinV.step (fun _ => XS.aconstNull X0.here hx rfl (hb hby d8_145)) ?_
  show own_FinV p e below s _ _ _ (s₁.setTop (mkF m 146 #[.val (.int (196 : Int32))] [.null]))
  exact own_retRV X0 hS hk e0 hZ hEL C0 hx hlk rfl hret rfl (hb hby d8_146) ⟨rfl, N0, by rw [e0]; exact own_ext0 _⟩ (by decide) (by decide)
set_option maxRecDepth 65536 in
set_option maxHeartbeats 40000000 in
theorem rm8_197 (l : Launch) (Z : State) (a0 : Array Value) (hw : ∀ d ∈ tables_1, d.before a0 Z = true)   (h0 : Heap) (n0 : Nat) (Z0 : n0 ≤ h0.size)  :
    own_MetV l Z [] (⟨"com/example/libcoef/libcoef/JpegMarker", "process", "(I)Ljava/lang/String;"⟩ : MethodName) prog_42_method_5_code 1 (some (.object "java/lang/String")) ({ frames := 0, cells := 2, slots := 96, locals := 0 } : Room) #[(.int (197 : Int32))] h0 (own_QS Z (own_bs "differential sequential") h0 n0) := by
  refine own_enterV pn_8 ?_
  intro p e s m below meth c s₁ X0 hx hby hml hown hret hlk hnm hZ e0 hS C0
  have hEL := own_EW hw
  have hk : s₁.heap.size ≤ h0.size := by rw [e0]; exact Nat.le_refl _
  have own_wS : ∀ a ∈ Bundle.stringAtoms, a.before a0 Z = true := own_strings hw
  have hml : c.maxLocals = 1 := hml
  have N0 := Fr.nil n0
  rw [ef_8 m (197 : Int32)]
  show own_FinV p e below s _ _ _ (s₁.setTop (mkF m 0 #[.val (.int (197 : Int32))] []))
  refine own_FinV.step (fun _ => XS.iloadN X0.here hx rfl (hb hby d8_0) rfl) ?_
  show own_FinV p e below s _ _ _ (s₁.setTop (mkF m 1 #[.val (.int (197 : Int32))] [(.int (197 : Int32))]))
  have hd1 : decode c.code 1 = .ok (.tableswitch 144 192 207 #[79, 84, 89, 94, 144, 99, 104, 109, 144, 114, 119, 124, 144, 129, 134, 139], 79) := (hb hby d8_1)
  have st1 := fun t => XS.tswIn (e := e) (below := below) (target := t) (g := (mkF m 1 #[.val (.int (197 : Int32))] [(.int (197 : Int32))])) X0.here hx rfl (pc0 := 1) (pc' := 100) rfl hd1 rfl (by decide) (o := 99) (by decide) (by decide) (by decide)
  refine own_FinV.step st1 ?_
  show own_FinV p e below s _ _ _ (s₁.setTop (mkF m 100 #[.val (.int (197 : Int32))] []))
  obtain ⟨b2, T2, h2, k2, X2, e2, E2, hS2, hk2, hZ2, hown2, St2, C2, st2⟩ := own_ldcV (s := s) (vm0 := s.vm) X0 hx hZ hown (own_w hw 58 rfl) own_wS e0 hS hk hEL (List.mem_of_getElem? (i := 4) rfl) C0 (by decide) (g := (mkF m 100 #[.val (.int (197 : Int32))] [])) rfl (hb hby d8_100) (n := 92) (by decide) (by decide) (by decide) (by decide)
  have hS := hS2
  have hk := hk2
  have hZ := hZ2
  have hown := hown2
  have Z2 : n0 ≤ h2.size := Nat.le_trans Z0 E2.1
  refine own_FinV.step st2 ?_
  show own_FinV p e below s _ _ _ (T2.setTop (mkF m 102 #[.val (.int (197 : Int32))] [(.ref b2)]))
  refine own_FinV.step (fun _ => XS.goto X2.here hx rfl (pc0 := 102) (pc' := 146) rfl (hb hby d8_102) (by decide) (by decide)) ?_
  show own_FinV p e below s _ _ _ (T2.setTop (mkF m 146 #[.val (.int (197 : Int32))] [(.ref b2)]))
  exact own_retRV X2 hS hk e2 hZ hEL C2 hx hlk rfl hret rfl (hb hby d8_146) ⟨_, rfl, N0, by rw [e2]; exact E2, by rw [e2]; exact St2⟩ (by decide) (by decide)
set_option maxRecDepth 65536 in
set_option maxHeartbeats 40000000 in
theorem rm8_198 (l : Launch) (Z : State) (a0 : Array Value) (hw : ∀ d ∈ tables_1, d.before a0 Z = true)   (h0 : Heap) (n0 : Nat) (Z0 : n0 ≤ h0.size)  :
    own_MetV l Z [] (⟨"com/example/libcoef/libcoef/JpegMarker", "process", "(I)Ljava/lang/String;"⟩ : MethodName) prog_42_method_5_code 1 (some (.object "java/lang/String")) ({ frames := 0, cells := 2, slots := 100, locals := 0 } : Room) #[(.int (198 : Int32))] h0 (own_QS Z (own_bs "differential progressive") h0 n0) := by
  refine own_enterV pn_8 ?_
  intro p e s m below meth c s₁ X0 hx hby hml hown hret hlk hnm hZ e0 hS C0
  have hEL := own_EW hw
  have hk : s₁.heap.size ≤ h0.size := by rw [e0]; exact Nat.le_refl _
  have own_wS : ∀ a ∈ Bundle.stringAtoms, a.before a0 Z = true := own_strings hw
  have hml : c.maxLocals = 1 := hml
  have N0 := Fr.nil n0
  rw [ef_8 m (198 : Int32)]
  show own_FinV p e below s _ _ _ (s₁.setTop (mkF m 0 #[.val (.int (198 : Int32))] []))
  refine own_FinV.step (fun _ => XS.iloadN X0.here hx rfl (hb hby d8_0) rfl) ?_
  show own_FinV p e below s _ _ _ (s₁.setTop (mkF m 1 #[.val (.int (198 : Int32))] [(.int (198 : Int32))]))
  have hd1 : decode c.code 1 = .ok (.tableswitch 144 192 207 #[79, 84, 89, 94, 144, 99, 104, 109, 144, 114, 119, 124, 144, 129, 134, 139], 79) := (hb hby d8_1)
  have st1 := fun t => XS.tswIn (e := e) (below := below) (target := t) (g := (mkF m 1 #[.val (.int (198 : Int32))] [(.int (198 : Int32))])) X0.here hx rfl (pc0 := 1) (pc' := 105) rfl hd1 rfl (by decide) (o := 104) (by decide) (by decide) (by decide)
  refine own_FinV.step st1 ?_
  show own_FinV p e below s _ _ _ (s₁.setTop (mkF m 105 #[.val (.int (198 : Int32))] []))
  obtain ⟨b2, T2, h2, k2, X2, e2, E2, hS2, hk2, hZ2, hown2, St2, C2, st2⟩ := own_ldcV (s := s) (vm0 := s.vm) X0 hx hZ hown (own_w hw 64 rfl) own_wS e0 hS hk hEL (List.mem_of_getElem? (i := 5) rfl) C0 (by decide) (g := (mkF m 105 #[.val (.int (198 : Int32))] [])) rfl (hb hby d8_105) (n := 96) (by decide) (by decide) (by decide) (by decide)
  have hS := hS2
  have hk := hk2
  have hZ := hZ2
  have hown := hown2
  have Z2 : n0 ≤ h2.size := Nat.le_trans Z0 E2.1
  refine own_FinV.step st2 ?_
  show own_FinV p e below s _ _ _ (T2.setTop (mkF m 107 #[.val (.int (198 : Int32))] [(.ref b2)]))
  refine own_FinV.step (fun _ => XS.goto X2.here hx rfl (pc0 := 107) (pc' := 146) rfl (hb hby d8_107) (by decide) (by decide)) ?_
  show own_FinV p e below s _ _ _ (T2.setTop (mkF m 146 #[.val (.int (198 : Int32))] [(.ref b2)]))
  exact own_retRV X2 hS hk e2 hZ hEL C2 hx hlk rfl hret rfl (hb hby d8_146) ⟨_, rfl, N0, by rw [e2]; exact E2, by rw [e2]; exact St2⟩ (by decide) (by decide)
set_option maxRecDepth 65536 in
set_option maxHeartbeats 40000000 in
theorem rm8_199 (l : Launch) (Z : State) (a0 : Array Value) (hw : ∀ d ∈ tables_1, d.before a0 Z = true)   (h0 : Heap) (n0 : Nat) (Z0 : n0 ≤ h0.size)  :
    own_MetV l Z [] (⟨"com/example/libcoef/libcoef/JpegMarker", "process", "(I)Ljava/lang/String;"⟩ : MethodName) prog_42_method_5_code 1 (some (.object "java/lang/String")) ({ frames := 0, cells := 2, slots := 88, locals := 0 } : Room) #[(.int (199 : Int32))] h0 (own_QS Z (own_bs "differential lossless") h0 n0) := by
  refine own_enterV pn_8 ?_
  intro p e s m below meth c s₁ X0 hx hby hml hown hret hlk hnm hZ e0 hS C0
  have hEL := own_EW hw
  have hk : s₁.heap.size ≤ h0.size := by rw [e0]; exact Nat.le_refl _
  have own_wS : ∀ a ∈ Bundle.stringAtoms, a.before a0 Z = true := own_strings hw
  have hml : c.maxLocals = 1 := hml
  have N0 := Fr.nil n0
  rw [ef_8 m (199 : Int32)]
  show own_FinV p e below s _ _ _ (s₁.setTop (mkF m 0 #[.val (.int (199 : Int32))] []))
  refine own_FinV.step (fun _ => XS.iloadN X0.here hx rfl (hb hby d8_0) rfl) ?_
  show own_FinV p e below s _ _ _ (s₁.setTop (mkF m 1 #[.val (.int (199 : Int32))] [(.int (199 : Int32))]))
  have hd1 : decode c.code 1 = .ok (.tableswitch 144 192 207 #[79, 84, 89, 94, 144, 99, 104, 109, 144, 114, 119, 124, 144, 129, 134, 139], 79) := (hb hby d8_1)
  have st1 := fun t => XS.tswIn (e := e) (below := below) (target := t) (g := (mkF m 1 #[.val (.int (199 : Int32))] [(.int (199 : Int32))])) X0.here hx rfl (pc0 := 1) (pc' := 110) rfl hd1 rfl (by decide) (o := 109) (by decide) (by decide) (by decide)
  refine own_FinV.step st1 ?_
  show own_FinV p e below s _ _ _ (s₁.setTop (mkF m 110 #[.val (.int (199 : Int32))] []))
  obtain ⟨b2, T2, h2, k2, X2, e2, E2, hS2, hk2, hZ2, hown2, St2, C2, st2⟩ := own_ldcV (s := s) (vm0 := s.vm) X0 hx hZ hown (own_w hw 66 rfl) own_wS e0 hS hk hEL (List.mem_of_getElem? (i := 6) rfl) C0 (by decide) (g := (mkF m 110 #[.val (.int (199 : Int32))] [])) rfl (hb hby d8_110) (n := 84) (by decide) (by decide) (by decide) (by decide)
  have hS := hS2
  have hk := hk2
  have hZ := hZ2
  have hown := hown2
  have Z2 : n0 ≤ h2.size := Nat.le_trans Z0 E2.1
  refine own_FinV.step st2 ?_
  show own_FinV p e below s _ _ _ (T2.setTop (mkF m 112 #[.val (.int (199 : Int32))] [(.ref b2)]))
  refine own_FinV.step (fun _ => XS.goto X2.here hx rfl (pc0 := 112) (pc' := 146) rfl (hb hby d8_112) (by decide) (by decide)) ?_
  show own_FinV p e below s _ _ _ (T2.setTop (mkF m 146 #[.val (.int (199 : Int32))] [(.ref b2)]))
  exact own_retRV X2 hS hk e2 hZ hEL C2 hx hlk rfl hret rfl (hb hby d8_146) ⟨_, rfl, N0, by rw [e2]; exact E2, by rw [e2]; exact St2⟩ (by decide) (by decide)
set_option maxRecDepth 65536 in
set_option maxHeartbeats 40000000 in
theorem rm8_200 (l : Launch) (Z : State) (a0 : Array Value) (hw : ∀ d ∈ tables_1, d.before a0 Z = true)   (h0 : Heap) (n0 : Nat) (Z0 : n0 ≤ h0.size)  :
    own_MetV l Z [] (⟨"com/example/libcoef/libcoef/JpegMarker", "process", "(I)Ljava/lang/String;"⟩ : MethodName) prog_42_method_5_code 1 (some (.object "java/lang/String")) ({ frames := 0, cells := 0, slots := 0, locals := 0 } : Room) #[(.int (200 : Int32))] h0 (own_QN h0 n0) := by
  refine own_enterV pn_8 ?_
  intro p e s m below meth c s₁ X0 hx hby hml hown hret hlk hnm hZ e0 hS C0
  have hEL := own_EW hw
  have hk : s₁.heap.size ≤ h0.size := by rw [e0]; exact Nat.le_refl _
  have own_wS : ∀ a ∈ Bundle.stringAtoms, a.before a0 Z = true := own_strings hw
  have hml : c.maxLocals = 1 := hml
  have N0 := Fr.nil n0
  rw [ef_8 m (200 : Int32)]
  show own_FinV p e below s _ _ _ (s₁.setTop (mkF m 0 #[.val (.int (200 : Int32))] []))
  refine own_FinV.step (fun _ => XS.iloadN X0.here hx rfl (hb hby d8_0) rfl) ?_
  show own_FinV p e below s _ _ _ (s₁.setTop (mkF m 1 #[.val (.int (200 : Int32))] [(.int (200 : Int32))]))
  have hd1 : decode c.code 1 = .ok (.tableswitch 144 192 207 #[79, 84, 89, 94, 144, 99, 104, 109, 144, 114, 119, 124, 144, 129, 134, 139], 79) := (hb hby d8_1)
  have st1 := fun t => XS.tswIn (e := e) (below := below) (target := t) (g := (mkF m 1 #[.val (.int (200 : Int32))] [(.int (200 : Int32))])) X0.here hx rfl (pc0 := 1) (pc' := 145) rfl hd1 rfl (by decide) (o := 144) (by decide) (by decide) (by decide)
  refine own_FinV.step st1 ?_
  show own_FinV p e below s _ _ _ (s₁.setTop (mkF m 145 #[.val (.int (200 : Int32))] []))
  refine own_FinV.step (fun _ => XS.aconstNull X0.here hx rfl (hb hby d8_145)) ?_
  show own_FinV p e below s _ _ _ (s₁.setTop (mkF m 146 #[.val (.int (200 : Int32))] [.null]))
  exact own_retRV X0 hS hk e0 hZ hEL C0 hx hlk rfl hret rfl (hb hby d8_146) ⟨rfl, N0, by rw [e0]; exact own_ext0 _⟩ (by decide) (by decide)
set_option maxRecDepth 65536 in
set_option maxHeartbeats 40000000 in
theorem rm8_201 (l : Launch) (Z : State) (a0 : Array Value) (hw : ∀ d ∈ tables_1, d.before a0 Z = true)   (h0 : Heap) (n0 : Nat) (Z0 : n0 ≤ h0.size)  :
    own_MetV l Z [] (⟨"com/example/libcoef/libcoef/JpegMarker", "process", "(I)Ljava/lang/String;"⟩ : MethodName) prog_42_method_5_code 1 (some (.object "java/lang/String")) ({ frames := 0, cells := 2, slots := 152, locals := 0 } : Room) #[(.int (201 : Int32))] h0 (own_QS Z (own_bs "extended sequential, arithmetic-coded") h0 n0) := by
  refine own_enterV pn_8 ?_
  intro p e s m below meth c s₁ X0 hx hby hml hown hret hlk hnm hZ e0 hS C0
  have hEL := own_EW hw
  have hk : s₁.heap.size ≤ h0.size := by rw [e0]; exact Nat.le_refl _
  have own_wS : ∀ a ∈ Bundle.stringAtoms, a.before a0 Z = true := own_strings hw
  have hml : c.maxLocals = 1 := hml
  have N0 := Fr.nil n0
  rw [ef_8 m (201 : Int32)]
  show own_FinV p e below s _ _ _ (s₁.setTop (mkF m 0 #[.val (.int (201 : Int32))] []))
  refine own_FinV.step (fun _ => XS.iloadN X0.here hx rfl (hb hby d8_0) rfl) ?_
  show own_FinV p e below s _ _ _ (s₁.setTop (mkF m 1 #[.val (.int (201 : Int32))] [(.int (201 : Int32))]))
  have hd1 : decode c.code 1 = .ok (.tableswitch 144 192 207 #[79, 84, 89, 94, 144, 99, 104, 109, 144, 114, 119, 124, 144, 129, 134, 139], 79) := (hb hby d8_1)
  have st1 := fun t => XS.tswIn (e := e) (below := below) (target := t) (g := (mkF m 1 #[.val (.int (201 : Int32))] [(.int (201 : Int32))])) X0.here hx rfl (pc0 := 1) (pc' := 115) rfl hd1 rfl (by decide) (o := 114) (by decide) (by decide) (by decide)
  refine own_FinV.step st1 ?_
  show own_FinV p e below s _ _ _ (s₁.setTop (mkF m 115 #[.val (.int (201 : Int32))] []))
  obtain ⟨b2, T2, h2, k2, X2, e2, E2, hS2, hk2, hZ2, hown2, St2, C2, st2⟩ := own_ldcV (s := s) (vm0 := s.vm) X0 hx hZ hown (own_w hw 61 rfl) own_wS e0 hS hk hEL (List.mem_of_getElem? (i := 7) rfl) C0 (by decide) (g := (mkF m 115 #[.val (.int (201 : Int32))] [])) rfl (hb hby d8_115) (n := 148) (by decide) (by decide) (by decide) (by decide)
  have hS := hS2
  have hk := hk2
  have hZ := hZ2
  have hown := hown2
  have Z2 : n0 ≤ h2.size := Nat.le_trans Z0 E2.1
  refine own_FinV.step st2 ?_
  show own_FinV p e below s _ _ _ (T2.setTop (mkF m 117 #[.val (.int (201 : Int32))] [(.ref b2)]))
  refine own_FinV.step (fun _ => XS.goto X2.here hx rfl (pc0 := 117) (pc' := 146) rfl (hb hby d8_117) (by decide) (by decide)) ?_
  show own_FinV p e below s _ _ _ (T2.setTop (mkF m 146 #[.val (.int (201 : Int32))] [(.ref b2)]))
  exact own_retRV X2 hS hk e2 hZ hEL C2 hx hlk rfl hret rfl (hb hby d8_146) ⟨_, rfl, N0, by rw [e2]; exact E2, by rw [e2]; exact St2⟩ (by decide) (by decide)
set_option maxRecDepth 65536 in
set_option maxHeartbeats 40000000 in
theorem rm8_202 (l : Launch) (Z : State) (a0 : Array Value) (hw : ∀ d ∈ tables_1, d.before a0 Z = true)   (h0 : Heap) (n0 : Nat) (Z0 : n0 ≤ h0.size)  :
    own_MetV l Z [] (⟨"com/example/libcoef/libcoef/JpegMarker", "process", "(I)Ljava/lang/String;"⟩ : MethodName) prog_42_method_5_code 1 (some (.object "java/lang/String")) ({ frames := 0, cells := 2, slots := 120, locals := 0 } : Room) #[(.int (202 : Int32))] h0 (own_QS Z (own_bs "progressive, arithmetic-coded") h0 n0) := by
  refine own_enterV pn_8 ?_
  intro p e s m below meth c s₁ X0 hx hby hml hown hret hlk hnm hZ e0 hS C0
  have hEL := own_EW hw
  have hk : s₁.heap.size ≤ h0.size := by rw [e0]; exact Nat.le_refl _
  have own_wS : ∀ a ∈ Bundle.stringAtoms, a.before a0 Z = true := own_strings hw
  have hml : c.maxLocals = 1 := hml
  have N0 := Fr.nil n0
  rw [ef_8 m (202 : Int32)]
  show own_FinV p e below s _ _ _ (s₁.setTop (mkF m 0 #[.val (.int (202 : Int32))] []))
  refine own_FinV.step (fun _ => XS.iloadN X0.here hx rfl (hb hby d8_0) rfl) ?_
  show own_FinV p e below s _ _ _ (s₁.setTop (mkF m 1 #[.val (.int (202 : Int32))] [(.int (202 : Int32))]))
  have hd1 : decode c.code 1 = .ok (.tableswitch 144 192 207 #[79, 84, 89, 94, 144, 99, 104, 109, 144, 114, 119, 124, 144, 129, 134, 139], 79) := (hb hby d8_1)
  have st1 := fun t => XS.tswIn (e := e) (below := below) (target := t) (g := (mkF m 1 #[.val (.int (202 : Int32))] [(.int (202 : Int32))])) X0.here hx rfl (pc0 := 1) (pc' := 120) rfl hd1 rfl (by decide) (o := 119) (by decide) (by decide) (by decide)
  refine own_FinV.step st1 ?_
  show own_FinV p e below s _ _ _ (s₁.setTop (mkF m 120 #[.val (.int (202 : Int32))] []))
  obtain ⟨b2, T2, h2, k2, X2, e2, E2, hS2, hk2, hZ2, hown2, St2, C2, st2⟩ := own_ldcV (s := s) (vm0 := s.vm) X0 hx hZ hown (own_w hw 54 rfl) own_wS e0 hS hk hEL (List.mem_of_getElem? (i := 8) rfl) C0 (by decide) (g := (mkF m 120 #[.val (.int (202 : Int32))] [])) rfl (hb hby d8_120) (n := 116) (by decide) (by decide) (by decide) (by decide)
  have hS := hS2
  have hk := hk2
  have hZ := hZ2
  have hown := hown2
  have Z2 : n0 ≤ h2.size := Nat.le_trans Z0 E2.1
  refine own_FinV.step st2 ?_
  show own_FinV p e below s _ _ _ (T2.setTop (mkF m 122 #[.val (.int (202 : Int32))] [(.ref b2)]))
  refine own_FinV.step (fun _ => XS.goto X2.here hx rfl (pc0 := 122) (pc' := 146) rfl (hb hby d8_122) (by decide) (by decide)) ?_
  show own_FinV p e below s _ _ _ (T2.setTop (mkF m 146 #[.val (.int (202 : Int32))] [(.ref b2)]))
  exact own_retRV X2 hS hk e2 hZ hEL C2 hx hlk rfl hret rfl (hb hby d8_146) ⟨_, rfl, N0, by rw [e2]; exact E2, by rw [e2]; exact St2⟩ (by decide) (by decide)
set_option maxRecDepth 65536 in
set_option maxHeartbeats 40000000 in
theorem rm8_203 (l : Launch) (Z : State) (a0 : Array Value) (hw : ∀ d ∈ tables_1, d.before a0 Z = true)   (h0 : Heap) (n0 : Nat) (Z0 : n0 ≤ h0.size)  :
    own_MetV l Z [] (⟨"com/example/libcoef/libcoef/JpegMarker", "process", "(I)Ljava/lang/String;"⟩ : MethodName) prog_42_method_5_code 1 (some (.object "java/lang/String")) ({ frames := 0, cells := 2, slots := 108, locals := 0 } : Room) #[(.int (203 : Int32))] h0 (own_QS Z (own_bs "lossless, arithmetic-coded") h0 n0) := by
  refine own_enterV pn_8 ?_
  intro p e s m below meth c s₁ X0 hx hby hml hown hret hlk hnm hZ e0 hS C0
  have hEL := own_EW hw
  have hk : s₁.heap.size ≤ h0.size := by rw [e0]; exact Nat.le_refl _
  have own_wS : ∀ a ∈ Bundle.stringAtoms, a.before a0 Z = true := own_strings hw
  have hml : c.maxLocals = 1 := hml
  have N0 := Fr.nil n0
  rw [ef_8 m (203 : Int32)]
  show own_FinV p e below s _ _ _ (s₁.setTop (mkF m 0 #[.val (.int (203 : Int32))] []))
  refine own_FinV.step (fun _ => XS.iloadN X0.here hx rfl (hb hby d8_0) rfl) ?_
  show own_FinV p e below s _ _ _ (s₁.setTop (mkF m 1 #[.val (.int (203 : Int32))] [(.int (203 : Int32))]))
  have hd1 : decode c.code 1 = .ok (.tableswitch 144 192 207 #[79, 84, 89, 94, 144, 99, 104, 109, 144, 114, 119, 124, 144, 129, 134, 139], 79) := (hb hby d8_1)
  have st1 := fun t => XS.tswIn (e := e) (below := below) (target := t) (g := (mkF m 1 #[.val (.int (203 : Int32))] [(.int (203 : Int32))])) X0.here hx rfl (pc0 := 1) (pc' := 125) rfl hd1 rfl (by decide) (o := 124) (by decide) (by decide) (by decide)
  refine own_FinV.step st1 ?_
  show own_FinV p e below s _ _ _ (s₁.setTop (mkF m 125 #[.val (.int (203 : Int32))] []))
  obtain ⟨b2, T2, h2, k2, X2, e2, E2, hS2, hk2, hZ2, hown2, St2, C2, st2⟩ := own_ldcV (s := s) (vm0 := s.vm) X0 hx hZ hown (own_w hw 63 rfl) own_wS e0 hS hk hEL (List.mem_of_getElem? (i := 9) rfl) C0 (by decide) (g := (mkF m 125 #[.val (.int (203 : Int32))] [])) rfl (hb hby d8_125) (n := 104) (by decide) (by decide) (by decide) (by decide)
  have hS := hS2
  have hk := hk2
  have hZ := hZ2
  have hown := hown2
  have Z2 : n0 ≤ h2.size := Nat.le_trans Z0 E2.1
  refine own_FinV.step st2 ?_
  show own_FinV p e below s _ _ _ (T2.setTop (mkF m 127 #[.val (.int (203 : Int32))] [(.ref b2)]))
  refine own_FinV.step (fun _ => XS.goto X2.here hx rfl (pc0 := 127) (pc' := 146) rfl (hb hby d8_127) (by decide) (by decide)) ?_
  show own_FinV p e below s _ _ _ (T2.setTop (mkF m 146 #[.val (.int (203 : Int32))] [(.ref b2)]))
  exact own_retRV X2 hS hk e2 hZ hEL C2 hx hlk rfl hret rfl (hb hby d8_146) ⟨_, rfl, N0, by rw [e2]; exact E2, by rw [e2]; exact St2⟩ (by decide) (by decide)
set_option maxRecDepth 65536 in
set_option maxHeartbeats 40000000 in
theorem rm8_204 (l : Launch) (Z : State) (a0 : Array Value) (hw : ∀ d ∈ tables_1, d.before a0 Z = true)   (h0 : Heap) (n0 : Nat) (Z0 : n0 ≤ h0.size)  :
    own_MetV l Z [] (⟨"com/example/libcoef/libcoef/JpegMarker", "process", "(I)Ljava/lang/String;"⟩ : MethodName) prog_42_method_5_code 1 (some (.object "java/lang/String")) ({ frames := 0, cells := 0, slots := 0, locals := 0 } : Room) #[(.int (204 : Int32))] h0 (own_QN h0 n0) := by
  refine own_enterV pn_8 ?_
  intro p e s m below meth c s₁ X0 hx hby hml hown hret hlk hnm hZ e0 hS C0
  have hEL := own_EW hw
  have hk : s₁.heap.size ≤ h0.size := by rw [e0]; exact Nat.le_refl _
  have own_wS : ∀ a ∈ Bundle.stringAtoms, a.before a0 Z = true := own_strings hw
  have hml : c.maxLocals = 1 := hml
  have N0 := Fr.nil n0
  rw [ef_8 m (204 : Int32)]
  show own_FinV p e below s _ _ _ (s₁.setTop (mkF m 0 #[.val (.int (204 : Int32))] []))
  refine own_FinV.step (fun _ => XS.iloadN X0.here hx rfl (hb hby d8_0) rfl) ?_
  show own_FinV p e below s _ _ _ (s₁.setTop (mkF m 1 #[.val (.int (204 : Int32))] [(.int (204 : Int32))]))
  have hd1 : decode c.code 1 = .ok (.tableswitch 144 192 207 #[79, 84, 89, 94, 144, 99, 104, 109, 144, 114, 119, 124, 144, 129, 134, 139], 79) := (hb hby d8_1)
  have st1 := fun t => XS.tswIn (e := e) (below := below) (target := t) (g := (mkF m 1 #[.val (.int (204 : Int32))] [(.int (204 : Int32))])) X0.here hx rfl (pc0 := 1) (pc' := 145) rfl hd1 rfl (by decide) (o := 144) (by decide) (by decide) (by decide)
  refine own_FinV.step st1 ?_
  show own_FinV p e below s _ _ _ (s₁.setTop (mkF m 145 #[.val (.int (204 : Int32))] []))
  refine own_FinV.step (fun _ => XS.aconstNull X0.here hx rfl (hb hby d8_145)) ?_
  show own_FinV p e below s _ _ _ (s₁.setTop (mkF m 146 #[.val (.int (204 : Int32))] [.null]))
  exact own_retRV X0 hS hk e0 hZ hEL C0 hx hlk rfl hret rfl (hb hby d8_146) ⟨rfl, N0, by rw [e0]; exact own_ext0 _⟩ (by decide) (by decide)
set_option maxRecDepth 65536 in
set_option maxHeartbeats 40000000 in
theorem rm8_205 (l : Launch) (Z : State) (a0 : Array Value) (hw : ∀ d ∈ tables_1, d.before a0 Z = true)   (h0 : Heap) (n0 : Nat) (Z0 : n0 ≤ h0.size)  :
    own_MetV l Z [] (⟨"com/example/libcoef/libcoef/JpegMarker", "process", "(I)Ljava/lang/String;"⟩ : MethodName) prog_42_method_5_code 1 (some (.object "java/lang/String")) ({ frames := 0, cells := 2, slots := 168, locals := 0 } : Room) #[(.int (205 : Int32))] h0 (own_QS Z (own_bs "differential sequential, arithmetic-coded") h0 n0) := by
  refine own_enterV pn_8 ?_
  intro p e s m below meth c s₁ X0 hx hby hml hown hret hlk hnm hZ e0 hS C0
  have hEL := own_EW hw
  have hk : s₁.heap.size ≤ h0.size := by rw [e0]; exact Nat.le_refl _
  have own_wS : ∀ a ∈ Bundle.stringAtoms, a.before a0 Z = true := own_strings hw
  have hml : c.maxLocals = 1 := hml
  have N0 := Fr.nil n0
  rw [ef_8 m (205 : Int32)]
  show own_FinV p e below s _ _ _ (s₁.setTop (mkF m 0 #[.val (.int (205 : Int32))] []))
  refine own_FinV.step (fun _ => XS.iloadN X0.here hx rfl (hb hby d8_0) rfl) ?_
  show own_FinV p e below s _ _ _ (s₁.setTop (mkF m 1 #[.val (.int (205 : Int32))] [(.int (205 : Int32))]))
  have hd1 : decode c.code 1 = .ok (.tableswitch 144 192 207 #[79, 84, 89, 94, 144, 99, 104, 109, 144, 114, 119, 124, 144, 129, 134, 139], 79) := (hb hby d8_1)
  have st1 := fun t => XS.tswIn (e := e) (below := below) (target := t) (g := (mkF m 1 #[.val (.int (205 : Int32))] [(.int (205 : Int32))])) X0.here hx rfl (pc0 := 1) (pc' := 130) rfl hd1 rfl (by decide) (o := 129) (by decide) (by decide) (by decide)
  refine own_FinV.step st1 ?_
  show own_FinV p e below s _ _ _ (s₁.setTop (mkF m 130 #[.val (.int (205 : Int32))] []))
  obtain ⟨b2, T2, h2, k2, X2, e2, E2, hS2, hk2, hZ2, hown2, St2, C2, st2⟩ := own_ldcV (s := s) (vm0 := s.vm) X0 hx hZ hown (own_w hw 62 rfl) own_wS e0 hS hk hEL (List.mem_of_getElem? (i := 10) rfl) C0 (by decide) (g := (mkF m 130 #[.val (.int (205 : Int32))] [])) rfl (hb hby d8_130) (n := 164) (by decide) (by decide) (by decide) (by decide)
  have hS := hS2
  have hk := hk2
  have hZ := hZ2
  have hown := hown2
  have Z2 : n0 ≤ h2.size := Nat.le_trans Z0 E2.1
  refine own_FinV.step st2 ?_
  show own_FinV p e below s _ _ _ (T2.setTop (mkF m 132 #[.val (.int (205 : Int32))] [(.ref b2)]))
  refine own_FinV.step (fun _ => XS.goto X2.here hx rfl (pc0 := 132) (pc' := 146) rfl (hb hby d8_132) (by decide) (by decide)) ?_
  show own_FinV p e below s _ _ _ (T2.setTop (mkF m 146 #[.val (.int (205 : Int32))] [(.ref b2)]))
  exact own_retRV X2 hS hk e2 hZ hEL C2 hx hlk rfl hret rfl (hb hby d8_146) ⟨_, rfl, N0, by rw [e2]; exact E2, by rw [e2]; exact St2⟩ (by decide) (by decide)
set_option maxRecDepth 65536 in
set_option maxHeartbeats 40000000 in
theorem rm8_206 (l : Launch) (Z : State) (a0 : Array Value) (hw : ∀ d ∈ tables_1, d.before a0 Z = true)   (h0 : Heap) (n0 : Nat) (Z0 : n0 ≤ h0.size)  :
    own_MetV l Z [] (⟨"com/example/libcoef/libcoef/JpegMarker", "process", "(I)Ljava/lang/String;"⟩ : MethodName) prog_42_method_5_code 1 (some (.object "java/lang/String")) ({ frames := 0, cells := 2, slots := 172, locals := 0 } : Room) #[(.int (206 : Int32))] h0 (own_QS Z (own_bs "differential progressive, arithmetic-coded") h0 n0) := by
  refine own_enterV pn_8 ?_
  intro p e s m below meth c s₁ X0 hx hby hml hown hret hlk hnm hZ e0 hS C0
  have hEL := own_EW hw
  have hk : s₁.heap.size ≤ h0.size := by rw [e0]; exact Nat.le_refl _
  have own_wS : ∀ a ∈ Bundle.stringAtoms, a.before a0 Z = true := own_strings hw
  have hml : c.maxLocals = 1 := hml
  have N0 := Fr.nil n0
  rw [ef_8 m (206 : Int32)]
  show own_FinV p e below s _ _ _ (s₁.setTop (mkF m 0 #[.val (.int (206 : Int32))] []))
  refine own_FinV.step (fun _ => XS.iloadN X0.here hx rfl (hb hby d8_0) rfl) ?_
  show own_FinV p e below s _ _ _ (s₁.setTop (mkF m 1 #[.val (.int (206 : Int32))] [(.int (206 : Int32))]))
  have hd1 : decode c.code 1 = .ok (.tableswitch 144 192 207 #[79, 84, 89, 94, 144, 99, 104, 109, 144, 114, 119, 124, 144, 129, 134, 139], 79) := (hb hby d8_1)
  have st1 := fun t => XS.tswIn (e := e) (below := below) (target := t) (g := (mkF m 1 #[.val (.int (206 : Int32))] [(.int (206 : Int32))])) X0.here hx rfl (pc0 := 1) (pc' := 135) rfl hd1 rfl (by decide) (o := 134) (by decide) (by decide) (by decide)
  refine own_FinV.step st1 ?_
  show own_FinV p e below s _ _ _ (s₁.setTop (mkF m 135 #[.val (.int (206 : Int32))] []))
  obtain ⟨b2, T2, h2, k2, X2, e2, E2, hS2, hk2, hZ2, hown2, St2, C2, st2⟩ := own_ldcV (s := s) (vm0 := s.vm) X0 hx hZ hown (own_w hw 67 rfl) own_wS e0 hS hk hEL (List.mem_of_getElem? (i := 11) rfl) C0 (by decide) (g := (mkF m 135 #[.val (.int (206 : Int32))] [])) rfl (hb hby d8_135) (n := 168) (by decide) (by decide) (by decide) (by decide)
  have hS := hS2
  have hk := hk2
  have hZ := hZ2
  have hown := hown2
  have Z2 : n0 ≤ h2.size := Nat.le_trans Z0 E2.1
  refine own_FinV.step st2 ?_
  show own_FinV p e below s _ _ _ (T2.setTop (mkF m 137 #[.val (.int (206 : Int32))] [(.ref b2)]))
  refine own_FinV.step (fun _ => XS.goto X2.here hx rfl (pc0 := 137) (pc' := 146) rfl (hb hby d8_137) (by decide) (by decide)) ?_
  show own_FinV p e below s _ _ _ (T2.setTop (mkF m 146 #[.val (.int (206 : Int32))] [(.ref b2)]))
  exact own_retRV X2 hS hk e2 hZ hEL C2 hx hlk rfl hret rfl (hb hby d8_146) ⟨_, rfl, N0, by rw [e2]; exact E2, by rw [e2]; exact St2⟩ (by decide) (by decide)
set_option maxRecDepth 65536 in
set_option maxHeartbeats 40000000 in
theorem rm8_207 (l : Launch) (Z : State) (a0 : Array Value) (hw : ∀ d ∈ tables_1, d.before a0 Z = true)   (h0 : Heap) (n0 : Nat) (Z0 : n0 ≤ h0.size)  :
    own_MetV l Z [] (⟨"com/example/libcoef/libcoef/JpegMarker", "process", "(I)Ljava/lang/String;"⟩ : MethodName) prog_42_method_5_code 1 (some (.object "java/lang/String")) ({ frames := 0, cells := 2, slots := 160, locals := 0 } : Room) #[(.int (207 : Int32))] h0 (own_QS Z (own_bs "differential lossless, arithmetic-coded") h0 n0) := by
  refine own_enterV pn_8 ?_
  intro p e s m below meth c s₁ X0 hx hby hml hown hret hlk hnm hZ e0 hS C0
  have hEL := own_EW hw
  have hk : s₁.heap.size ≤ h0.size := by rw [e0]; exact Nat.le_refl _
  have own_wS : ∀ a ∈ Bundle.stringAtoms, a.before a0 Z = true := own_strings hw
  have hml : c.maxLocals = 1 := hml
  have N0 := Fr.nil n0
  rw [ef_8 m (207 : Int32)]
  show own_FinV p e below s _ _ _ (s₁.setTop (mkF m 0 #[.val (.int (207 : Int32))] []))
  refine own_FinV.step (fun _ => XS.iloadN X0.here hx rfl (hb hby d8_0) rfl) ?_
  show own_FinV p e below s _ _ _ (s₁.setTop (mkF m 1 #[.val (.int (207 : Int32))] [(.int (207 : Int32))]))
  have hd1 : decode c.code 1 = .ok (.tableswitch 144 192 207 #[79, 84, 89, 94, 144, 99, 104, 109, 144, 114, 119, 124, 144, 129, 134, 139], 79) := (hb hby d8_1)
  have st1 := fun t => XS.tswIn (e := e) (below := below) (target := t) (g := (mkF m 1 #[.val (.int (207 : Int32))] [(.int (207 : Int32))])) X0.here hx rfl (pc0 := 1) (pc' := 140) rfl hd1 rfl (by decide) (o := 139) (by decide) (by decide) (by decide)
  refine own_FinV.step st1 ?_
  show own_FinV p e below s _ _ _ (s₁.setTop (mkF m 140 #[.val (.int (207 : Int32))] []))
  obtain ⟨b2, T2, h2, k2, X2, e2, E2, hS2, hk2, hZ2, hown2, St2, C2, st2⟩ := own_ldcV (s := s) (vm0 := s.vm) X0 hx hZ hown (own_w hw 65 rfl) own_wS e0 hS hk hEL (List.mem_of_getElem? (i := 12) rfl) C0 (by decide) (g := (mkF m 140 #[.val (.int (207 : Int32))] [])) rfl (hb hby d8_140) (n := 156) (by decide) (by decide) (by decide) (by decide)
  have hS := hS2
  have hk := hk2
  have hZ := hZ2
  have hown := hown2
  have Z2 : n0 ≤ h2.size := Nat.le_trans Z0 E2.1
  refine own_FinV.step st2 ?_
  show own_FinV p e below s _ _ _ (T2.setTop (mkF m 142 #[.val (.int (207 : Int32))] [(.ref b2)]))
  refine own_FinV.step (fun _ => XS.goto X2.here hx rfl (pc0 := 142) (pc' := 146) rfl (hb hby d8_142) (by decide) (by decide)) ?_
  show own_FinV p e below s _ _ _ (T2.setTop (mkF m 146 #[.val (.int (207 : Int32))] [(.ref b2)]))
  exact own_retRV X2 hS hk e2 hZ hEL C2 hx hlk rfl hret rfl (hb hby d8_146) ⟨_, rfl, N0, by rw [e2]; exact E2, by rw [e2]; exact St2⟩ (by decide) (by decide)
theorem own_i0 : (0 : Int32).toInt = 0 := by decide
theorem own_tl {A B C : List Int32} (la : A.length < 200) (lb : B.length < 200) (lc : C.length < 200) : (own_ln A).toInt = A.length ∧ (own_ln A + own_ln B).toInt = A.length + B.length ∧ (own_ln A + own_ln B + own_ln C).toInt = A.length + B.length + C.length ∧ (own_ln (A ++ B ++ C)).toInt = A.length + B.length + C.length := by
  have e1 := own_ln_toInt (bs := A) (by omega)
  have e2 := own_ln_toInt (bs := B) (by omega)
  have e3 := own_ln_toInt (bs := C) (by omega)
  have e4 := own_ln_toInt (bs := A ++ B ++ C) (by simp only [List.length_append]; omega)
  simp only [List.length_append] at e4
  have c1 := c_iadd (own_ln A) (own_ln B)
  have r1 := rng32 (own_ln A + own_ln B)
  have c2 := c_iadd (own_ln A + own_ln B) (own_ln C)
  have r2 := rng32 (own_ln A + own_ln B + own_ln C)
  have q1 : (own_ln A + own_ln B).toInt = A.length + B.length := by omega
  refine ⟨e1, q1, by omega, by omega⟩
theorem own_t0 {A B C : List Int32} (la : A.length < 200) (lb : B.length < 200) (lc : C.length < 200) : own_ln (A ++ B ++ C) = own_ln A + own_ln B + own_ln C := by
  obtain ⟨-, -, h3, h4⟩ := own_tl la lb lc
  exact Int32.toInt_inj.mp (h4.trans h3.symm)
theorem own_tn {A B C : List Int32} (la : A.length < 200) (lb : B.length < 200) (lc : C.length < 200) (hp : 0 < A.length + B.length + C.length) : own_ln A + own_ln B + own_ln C ≠ 0 := fun e => by
  obtain ⟨-, -, h3, -⟩ := own_tl la lb lc
  rw [e, own_i0] at h3; omega
theorem own_ti {A B C : List Int32} (la : A.length < 200) (lb : B.length < 200) (lc : C.length < 200) (hp : 0 < A.length + B.length + C.length) (p : Int32) : 0 ≤ ((p &&& (2147483647 : Int32)) % (own_ln A + own_ln B + own_ln C)).toInt ∧ ((p &&& (2147483647 : Int32)) % (own_ln A + own_ln B + own_ln C)).toInt < (A.length + B.length + C.length : Int) := by
  obtain ⟨-, -, h3, -⟩ := own_tl la lb lc
  have h1 := c_mask p 2147483647 31 (by omega) (by decide)
  have h0 : 0 ≤ (p &&& (2147483647 : Int32)).toInt := by rw [h1]; exact Int.emod_nonneg _ (by decide)
  have h2 := (c_iremV (p &&& (2147483647 : Int32)) (own_ln A + own_ln B + own_ln C)).1 h0 (by omega)
  omega
theorem own_t1 {A B C : List Int32} (la : A.length < 200) (lb : B.length < 200) (lc : C.length < 200) {i : Int32} (hi : 0 ≤ i.toInt ∧ i.toInt < (A.length + B.length + C.length : Int)) : ¬ i < 0 := by rw [Int32.lt_iff_toInt_lt, own_i0]; omega
theorem own_t5 {A B C : List Int32} (la : A.length < 200) (lb : B.length < 200) (lc : C.length < 200) {i : Int32} (hi : 0 ≤ i.toInt ∧ i.toInt < (A.length + B.length + C.length : Int)) : i < own_ln (A ++ B ++ C) := by
  obtain ⟨-, -, -, h4⟩ := own_tl la lb lc
  rw [Int32.lt_iff_toInt_lt, h4]; omega
theorem own_c12 {A B C : List Int32} (la : A.length < 200) (lb : B.length < 200) (lc : C.length < 200) {i : Int32} (hi : 0 ≤ i.toInt ∧ i.toInt < (A.length + B.length + C.length : Int)) (h : i < own_ln A) : own_ch (A ++ B ++ C) i = own_ch A i := by
  obtain ⟨h1, -, -, -⟩ := own_tl la lb lc
  rw [Int32.lt_iff_toInt_lt, h1] at h
  have e : i.toNatClampNeg = i.toInt.toNat := rfl
  have hl : i.toNatClampNeg < A.length := by omega
  unfold own_ch
  rw [List.append_assoc]
  simp only [List.getD_eq_getElem?_getD]
  rw [List.getElem?_append_left hl]
theorem own_c13 {A B C : List Int32} (la : A.length < 200) (lb : B.length < 200) (lc : C.length < 200) {i : Int32} (hi : 0 ≤ i.toInt ∧ i.toInt < (A.length + B.length + C.length : Int)) (h : ¬ i < own_ln A) (h' : i < own_ln A + own_ln B) : ¬ (i - own_ln A) < 0 ∧ (i - own_ln A) < own_ln B ∧ own_ch (A ++ B ++ C) i = own_ch B (i - own_ln A) := by
  obtain ⟨h1, h2, -, -⟩ := own_tl la lb lc
  have e2 := own_ln_toInt (bs := B) (by omega)
  rw [Int32.lt_iff_toInt_lt, h1] at h
  rw [Int32.lt_iff_toInt_lt, h2] at h'
  have c1 := c_isub i (own_ln A)
  have r1 := rng32 (i - own_ln A)
  have q : (i - own_ln A).toInt = i.toInt - A.length := by omega
  have e : i.toNatClampNeg = i.toInt.toNat := rfl
  have e' : (i - own_ln A).toNatClampNeg = (i - own_ln A).toInt.toNat := rfl
  refine ⟨by rw [Int32.lt_iff_toInt_lt, own_i0]; omega, by rw [Int32.lt_iff_toInt_lt]; omega, ?_⟩
  have hl : i.toNatClampNeg < (A ++ B).length := by rw [List.length_append]; omega
  have hr : A.length ≤ i.toNatClampNeg := by omega
  have hs : i.toNatClampNeg - A.length = (i - own_ln A).toNatClampNeg := by omega
  unfold own_ch
  simp only [List.getD_eq_getElem?_getD]
  rw [List.getElem?_append_left hl, List.getElem?_append_right hr, hs]
theorem own_c14 {A B C : List Int32} (la : A.length < 200) (lb : B.length < 200) (lc : C.length < 200) {i : Int32} (hi : 0 ≤ i.toInt ∧ i.toInt < (A.length + B.length + C.length : Int)) (h' : ¬ i < own_ln A + own_ln B) : ¬ (i - own_ln A - own_ln B) < 0 ∧ (i - own_ln A - own_ln B) < own_ln C ∧ own_ch (A ++ B ++ C) i = own_ch C (i - own_ln A - own_ln B) := by
  obtain ⟨h1, h2, -, -⟩ := own_tl la lb lc
  have e2 := own_ln_toInt (bs := B) (by omega)
  have e3 := own_ln_toInt (bs := C) (by omega)
  rw [Int32.lt_iff_toInt_lt, h2] at h'
  have c1 := c_isub i (own_ln A)
  have r1 := rng32 (i - own_ln A)
  have c2 := c_isub (i - own_ln A) (own_ln B)
  have r2 := rng32 (i - own_ln A - own_ln B)
  have q : (i - own_ln A).toInt = i.toInt - A.length := by omega
  have q2 : (i - own_ln A - own_ln B).toInt = i.toInt - A.length - B.length := by omega
  have e : i.toNatClampNeg = i.toInt.toNat := rfl
  have e' : (i - own_ln A - own_ln B).toNatClampNeg = (i - own_ln A - own_ln B).toInt.toNat := rfl
  refine ⟨by rw [Int32.lt_iff_toInt_lt, own_i0]; omega, by rw [Int32.lt_iff_toInt_lt]; omega, ?_⟩
  have hr : (A ++ B).length ≤ i.toNatClampNeg := by rw [List.length_append]; omega
  have hs : i.toNatClampNeg - (A ++ B).length = (i - own_ln A - own_ln B).toNatClampNeg := by rw [List.length_append]; omega
  unfold own_ch
  simp only [List.getD_eq_getElem?_getD]
  rw [List.getElem?_append_right hr, hs]
theorem own_mm (x : Int32) : x < 192 ∨ (¬ x < 192 ∧ 207 < x) ∨ x = (192 : Int32) ∨ x = (193 : Int32) ∨ x = (194 : Int32) ∨ x = (195 : Int32) ∨ x = (196 : Int32) ∨ x = (197 : Int32) ∨ x = (198 : Int32) ∨ x = (199 : Int32) ∨ x = (200 : Int32) ∨ x = (201 : Int32) ∨ x = (202 : Int32) ∨ x = (203 : Int32) ∨ x = (204 : Int32) ∨ x = (205 : Int32) ∨ x = (206 : Int32) ∨ x = (207 : Int32) := by
  by_cases h1 : x < 192
  · exact Or.inl h1
  · by_cases h2 : 207 < x
    · exact Or.inr (Or.inl ⟨h1, h2⟩)
    · right; right
      rw [Int32.lt_iff_toInt_lt, show (192 : Int32).toInt = 192 by decide] at h1
      rw [Int32.lt_iff_toInt_lt, show (207 : Int32).toInt = 207 by decide] at h2
      have key : ∀ k : Int32, x.toInt = k.toInt → x = k := fun k => Int32.toInt_inj.mp
      rcases (by omega : x.toInt = 192 ∨ x.toInt = 193 ∨ x.toInt = 194 ∨ x.toInt = 195 ∨ x.toInt = 196 ∨ x.toInt = 197 ∨ x.toInt = 198 ∨ x.toInt = 199 ∨ x.toInt = 200 ∨ x.toInt = 201 ∨ x.toInt = 202 ∨ x.toInt = 203 ∨ x.toInt = 204 ∨ x.toInt = 205 ∨ x.toInt = 206 ∨ x.toInt = 207) with h | h | h | h | h | h | h | h | h | h | h | h | h | h | h | h
      · have := key 192 (by rw [h]; decide); simp [this]
      · have := key 193 (by rw [h]; decide); simp [this]
      · have := key 194 (by rw [h]; decide); simp [this]
      · have := key 195 (by rw [h]; decide); simp [this]
      · have := key 196 (by rw [h]; decide); simp [this]
      · have := key 197 (by rw [h]; decide); simp [this]
      · have := key 198 (by rw [h]; decide); simp [this]
      · have := key 199 (by rw [h]; decide); simp [this]
      · have := key 200 (by rw [h]; decide); simp [this]
      · have := key 201 (by rw [h]; decide); simp [this]
      · have := key 202 (by rw [h]; decide); simp [this]
      · have := key 203 (by rw [h]; decide); simp [this]
      · have := key 204 (by rw [h]; decide); simp [this]
      · have := key 205 (by rw [h]; decide); simp [this]
      · have := key 206 (by rw [h]; decide); simp [this]
      · have := key 207 (by rw [h]; decide); simp [this]
theorem pn_0 : plainFor (⟨"com/example/libcoef/libcoef/JpegMarkerProcessPinLaw", "law", "(III)Z"⟩ : MethodName) = true := plainFor_of_name (by first | (simp [plainName, overriddenIn]; done) | decide +kernel)
theorem ef_0 (m : MethodId) (x0 : Int32) (x1 : Int32) (x2 : Int32) : entryFrame m #[(.int x0), (.int x1), (.int x2)] maxLocals = mkF m 0 #[.val (.int x0), .val (.int x1), .val (.int x2), .unset, .unset, .unset, .unset, .unset, .unset, .unset, .unset, .unset, .unset, .unset, .unset, .unset, .unset, .unset, .unset, .unset] [] := by first | (simp [entryFrame, mkF, argsToLocals, Value.category, maxLocals]; done) | rfl
theorem pd_5 : parseMethodDescriptor "()I" = some ⟨[], some .int⟩ := by decide +kernel
theorem pd_6 : parseMethodDescriptor "(I)C" = some ⟨[.int], some .char⟩ := by decide +kernel
set_option maxRecDepth 65536 in
set_option maxHeartbeats 40000000 in
theorem own_tail {l : Launch} {Z : State} {a0 : Array Value} (hw : ∀ d ∈ tables_1, d.before a0 Z = true) {p : Program} {e : Env} {s : State} {vm0 : Vm} {m : MethodId} {args : Array Value} {below : List Frame} {meth : Method} {c : Code} {T0 : State} {locs : List Loc} {cells slots : Nat} (X0 : Stand p l e room_1 (s.setVm vm0) m args below meth c T0 locs cells slots) (hx : p.tables.exec = Jvm.exec) (hby : c.code = code) (hml : c.maxLocals = 20) (hown : (s.setVm vm0).vm.findClass x.cls = some m.cls) (hret : meth.sig.returnType = ret) (hlk : meth.locks = false) (hZ : Z.Warmed39 (s.setVm vm0).vm) {h0 hh : Heap} {n0 : Nat} (Z0 : n0 ≤ h0.size) (N0 : Fr n0 locs) (e0 : T0.heap = h0) {k0 : Nat} (hS : s.Since vm0 k0) (hk : k0 ≤ h0.size) (C0 : CHr Z consts_1 s.vm hh vm0 h0) {cs : Int32} {fm : Value} (hcs : ¬ (cs = (0 : Int32))) (rv : fm.isRef = true) (SS : own_Sts Z h0 cs fm)
    {a5 a12 a13 a14 : Addr} {A B C : List Int32} (St5 : own_Str Z h0 a5 (A ++ B ++ C)) (St12 : own_Str Z h0 a12 A) (St13 : own_Str Z h0 a13 B) (St14 : own_Str Z h0 a14 C) (la : A.length < 200) (lb : B.length < 200) (lc : C.length < 200) (hp : 0 < A.length + B.length + C.length) (hcl : cells ≤ room_1.cells) (hsl : slots ≤ room_1.slots) {p1 p2 p3 y3 y4 y6 y7 y8 y9 y10 y11 : Int32} :
    own_FinV p e below s (own_QH Z s.vm hh (own_Q0 n0)) room_1.cells room_1.slots (T0.setTop (mkF m 249 #[.val (.int p1), .val (.int p2), .val (.int p3), .val (.int y3), .val (.int y4), .val (.ref a5), .val (.int y6), .val (.int y7), .val (.int y8), .val (.int y9), .val (.int y10), .val (.int y11), .val (.ref a12), .val (.ref a13), .val (.ref a14), .unset, .unset, .unset, .unset, .unset] [])) := by
  obtain ⟨S1, S2⟩ := SS
  have hEL := own_EW hw
  obtain ⟨b5, k5, E5, Fc5, Fv5, V5⟩ := St5
  obtain ⟨b12, k12, E12, Fc12, Fv12, V12⟩ := St12
  obtain ⟨b13, k13, E13, Fc13, Fv13, V13⟩ := St13
  obtain ⟨b14, k14, E14, Fc14, Fv14, V14⟩ := St14
  show own_FinV p e below s _ _ _ (T0.setTop (mkF m 249 #[.val (.int p1), .val (.int p2), .val (.int p3), .val (.int y3), .val (.int y4), .val (.ref a5), .val (.int y6), .val (.int y7), .val (.int y8), .val (.int y9), .val (.int y10), .val (.int y11), .val (.ref a12), .val (.ref a13), .val (.ref a14), .unset, .unset, .unset, .unset, .unset] []))
  refine own_FinV.step (fun _ => XS.aload X0.here hx rfl (hb hby at_249) rfl rfl) ?_
  show own_FinV p e below s _ _ _ (T0.setTop (mkF m 251 #[.val (.int p1), .val (.int p2), .val (.int p3), .val (.int y3), .val (.int y4), .val (.ref a5), .val (.int y6), .val (.int y7), .val (.int y8), .val (.int y9), .val (.int y10), .val (.int y11), .val (.ref a12), .val (.ref a13), .val (.ref a14), .unset, .unset, .unset, .unset, .unset] [(.ref a12)]))
  obtain ⟨_, T1, L1, X1, ⟨rfl, N1q, e1⟩, st1⟩ := own_callV X0 hx hZ hown (own_w hw 14 rfl) (own_w hw 15 rfl) (own_w hw 17 rfl) (own_w hw 16 rfl) (own_w hw 5 rfl) (own_w hw 18 rfl) (by decide) (rm2 l Z a0 hw a12 b12 k12 (own_ln A) A cs h0 n0 Z0 S1 hcs E12 Fc12 Fv12 V12) (by decide) (by decide) E12 e0 (W := 0) (g := (mkF m 251 #[.val (.int p1), .val (.int p2), .val (.int p3), .val (.int y3), .val (.int y4), .val (.ref a5), .val (.int y6), .val (.int y7), .val (.int y8), .val (.int y9), .val (.int y10), .val (.int y11), .val (.ref a12), .val (.ref a13), .val (.ref a14), .unset, .unset, .unset, .unset, .unset] [(.ref a12)])) rfl (by rw [hml]; rfl) (argsL := []) (rest := []) (lenOf pd_5 rfl) rfl rfl (by show 2 * 0 + _ ≤ _; exact Nat.le_of_eq rfl) (hb hby at_251) hcl hsl
  have N1 := Fr.app N0 N1q
  refine own_FinV.step st1 ?_
  show own_FinV p e below s _ _ _ (T1.setTop (mkF m 254 #[.val (.int p1), .val (.int p2), .val (.int p3), .val (.int y3), .val (.int y4), .val (.ref a5), .val (.int y6), .val (.int y7), .val (.int y8), .val (.int y9), .val (.int y10), .val (.int y11), .val (.ref a12), .val (.ref a13), .val (.ref a14), .unset, .unset, .unset, .unset, .unset] [(.int (own_ln A))]))
  refine own_FinV.step (fun _ => XS.istore X1.here hx rfl (hb hby at_254) rfl (l' := #[.val (.int p1), .val (.int p2), .val (.int p3), .val (.int y3), .val (.int y4), .val (.ref a5), .val (.int y6), .val (.int y7), .val (.int y8), .val (.int y9), .val (.int y10), .val (.int y11), .val (.ref a12), .val (.ref a13), .val (.ref a14), .val (.int (own_ln A)), .unset, .unset, .unset, .unset]) rfl) ?_
  show own_FinV p e below s _ _ _ (T1.setTop (mkF m 256 #[.val (.int p1), .val (.int p2), .val (.int p3), .val (.int y3), .val (.int y4), .val (.ref a5), .val (.int y6), .val (.int y7), .val (.int y8), .val (.int y9), .val (.int y10), .val (.int y11), .val (.ref a12), .val (.ref a13), .val (.ref a14), .val (.int (own_ln A)), .unset, .unset, .unset, .unset] []))
  refine own_FinV.step (fun _ => XS.aload X1.here hx rfl (hb hby at_256) rfl rfl) ?_
  show own_FinV p e below s _ _ _ (T1.setTop (mkF m 258 #[.val (.int p1), .val (.int p2), .val (.int p3), .val (.int y3), .val (.int y4), .val (.ref a5), .val (.int y6), .val (.int y7), .val (.int y8), .val (.int y9), .val (.int y10), .val (.int y11), .val (.ref a12), .val (.ref a13), .val (.ref a14), .val (.int (own_ln A)), .unset, .unset, .unset, .unset] [(.ref a13)]))
  obtain ⟨_, T2, L2, X2, ⟨rfl, N2q, e2⟩, st2⟩ := own_callV X1 hx hZ hown (own_w hw 14 rfl) (own_w hw 15 rfl) (own_w hw 17 rfl) (own_w hw 16 rfl) (own_w hw 5 rfl) (own_w hw 18 rfl) (by decide) (rm2 l Z a0 hw a13 b13 k13 (own_ln B) B cs h0 n0 Z0 S1 hcs E13 Fc13 Fv13 V13) (by decide) (by decide) E13 e1 (W := 0) (g := (mkF m 258 #[.val (.int p1), .val (.int p2), .val (.int p3), .val (.int y3), .val (.int y4), .val (.ref a5), .val (.int y6), .val (.int y7), .val (.int y8), .val (.int y9), .val (.int y10), .val (.int y11), .val (.ref a12), .val (.ref a13), .val (.ref a14), .val (.int (own_ln A)), .unset, .unset, .unset, .unset] [(.ref a13)])) rfl (by rw [hml]; rfl) (argsL := []) (rest := []) (lenOf pd_5 rfl) rfl rfl (by show 2 * 0 + _ ≤ _; exact Nat.le_of_eq rfl) (hb hby at_258) hcl hsl
  have N2 := Fr.app N1 N2q
  refine own_FinV.step st2 ?_
  show own_FinV p e below s _ _ _ (T2.setTop (mkF m 261 #[.val (.int p1), .val (.int p2), .val (.int p3), .val (.int y3), .val (.int y4), .val (.ref a5), .val (.int y6), .val (.int y7), .val (.int y8), .val (.int y9), .val (.int y10), .val (.int y11), .val (.ref a12), .val (.ref a13), .val (.ref a14), .val (.int (own_ln A)), .unset, .unset, .unset, .unset] [(.int (own_ln B))]))
  refine own_FinV.step (fun _ => XS.istore X2.here hx rfl (hb hby at_261) rfl (l' := #[.val (.int p1), .val (.int p2), .val (.int p3), .val (.int y3), .val (.int y4), .val (.ref a5), .val (.int y6), .val (.int y7), .val (.int y8), .val (.int y9), .val (.int y10), .val (.int y11), .val (.ref a12), .val (.ref a13), .val (.ref a14), .val (.int (own_ln A)), .val (.int (own_ln B)), .unset, .unset, .unset]) rfl) ?_
  show own_FinV p e below s _ _ _ (T2.setTop (mkF m 263 #[.val (.int p1), .val (.int p2), .val (.int p3), .val (.int y3), .val (.int y4), .val (.ref a5), .val (.int y6), .val (.int y7), .val (.int y8), .val (.int y9), .val (.int y10), .val (.int y11), .val (.ref a12), .val (.ref a13), .val (.ref a14), .val (.int (own_ln A)), .val (.int (own_ln B)), .unset, .unset, .unset] []))
  refine own_FinV.step (fun _ => XS.iload X2.here hx rfl (hb hby at_263) rfl) ?_
  show own_FinV p e below s _ _ _ (T2.setTop (mkF m 265 #[.val (.int p1), .val (.int p2), .val (.int p3), .val (.int y3), .val (.int y4), .val (.ref a5), .val (.int y6), .val (.int y7), .val (.int y8), .val (.int y9), .val (.int y10), .val (.int y11), .val (.ref a12), .val (.ref a13), .val (.ref a14), .val (.int (own_ln A)), .val (.int (own_ln B)), .unset, .unset, .unset] [(.int (own_ln A))]))
  refine own_FinV.step (fun _ => XS.iload X2.here hx rfl (hb hby at_265) rfl) ?_
  show own_FinV p e below s _ _ _ (T2.setTop (mkF m 267 #[.val (.int p1), .val (.int p2), .val (.int p3), .val (.int y3), .val (.int y4), .val (.ref a5), .val (.int y6), .val (.int y7), .val (.int y8), .val (.int y9), .val (.int y10), .val (.int y11), .val (.ref a12), .val (.ref a13), .val (.ref a14), .val (.int (own_ln A)), .val (.int (own_ln B)), .unset, .unset, .unset] [(.int (own_ln B)), (.int (own_ln A))]))
  refine own_FinV.step (fun _ => XS.iadd X2.here hx rfl (hb hby at_267) rfl) ?_
  show own_FinV p e below s _ _ _ (T2.setTop (mkF m 268 #[.val (.int p1), .val (.int p2), .val (.int p3), .val (.int y3), .val (.int y4), .val (.ref a5), .val (.int y6), .val (.int y7), .val (.int y8), .val (.int y9), .val (.int y10), .val (.int y11), .val (.ref a12), .val (.ref a13), .val (.ref a14), .val (.int (own_ln A)), .val (.int (own_ln B)), .unset, .unset, .unset] [(.int ((own_ln A) + (own_ln B)))]))
  refine own_FinV.step (fun _ => XS.aload X2.here hx rfl (hb hby at_268) rfl rfl) ?_
  show own_FinV p e below s _ _ _ (T2.setTop (mkF m 270 #[.val (.int p1), .val (.int p2), .val (.int p3), .val (.int y3), .val (.int y4), .val (.ref a5), .val (.int y6), .val (.int y7), .val (.int y8), .val (.int y9), .val (.int y10), .val (.int y11), .val (.ref a12), .val (.ref a13), .val (.ref a14), .val (.int (own_ln A)), .val (.int (own_ln B)), .unset, .unset, .unset] [(.ref a14), (.int ((own_ln A) + (own_ln B)))]))
  obtain ⟨_, T3, L3, X3, ⟨rfl, N3q, e3⟩, st3⟩ := own_callV X2 hx hZ hown (own_w hw 14 rfl) (own_w hw 15 rfl) (own_w hw 17 rfl) (own_w hw 16 rfl) (own_w hw 5 rfl) (own_w hw 18 rfl) (by decide) (rm2 l Z a0 hw a14 b14 k14 (own_ln C) C cs h0 n0 Z0 S1 hcs E14 Fc14 Fv14 V14) (by decide) (by decide) E14 e2 (W := 1) (g := (mkF m 270 #[.val (.int p1), .val (.int p2), .val (.int p3), .val (.int y3), .val (.int y4), .val (.ref a5), .val (.int y6), .val (.int y7), .val (.int y8), .val (.int y9), .val (.int y10), .val (.int y11), .val (.ref a12), .val (.ref a13), .val (.ref a14), .val (.int (own_ln A)), .val (.int (own_ln B)), .unset, .unset, .unset] [(.ref a14), (.int ((own_ln A) + (own_ln B)))])) rfl (by rw [hml]; rfl) (argsL := []) (rest := [(.int ((own_ln A) + (own_ln B)))]) (lenOf pd_5 rfl) rfl rfl (by show 2 * 0 + _ ≤ _; exact Nat.le_of_eq rfl) (hb hby at_270) hcl hsl
  have N3 := Fr.app N2 N3q
  refine own_FinV.step st3 ?_
  show own_FinV p e below s _ _ _ (T3.setTop (mkF m 273 #[.val (.int p1), .val (.int p2), .val (.int p3), .val (.int y3), .val (.int y4), .val (.ref a5), .val (.int y6), .val (.int y7), .val (.int y8), .val (.int y9), .val (.int y10), .val (.int y11), .val (.ref a12), .val (.ref a13), .val (.ref a14), .val (.int (own_ln A)), .val (.int (own_ln B)), .unset, .unset, .unset] [(.int (own_ln C)), (.int ((own_ln A) + (own_ln B)))]))
  refine own_FinV.step (fun _ => XS.iadd X3.here hx rfl (hb hby at_273) rfl) ?_
  show own_FinV p e below s _ _ _ (T3.setTop (mkF m 274 #[.val (.int p1), .val (.int p2), .val (.int p3), .val (.int y3), .val (.int y4), .val (.ref a5), .val (.int y6), .val (.int y7), .val (.int y8), .val (.int y9), .val (.int y10), .val (.int y11), .val (.ref a12), .val (.ref a13), .val (.ref a14), .val (.int (own_ln A)), .val (.int (own_ln B)), .unset, .unset, .unset] [(.int (((own_ln A) + (own_ln B)) + (own_ln C)))]))
  refine own_FinV.step (fun _ => XS.istore X3.here hx rfl (hb hby at_274) rfl (l' := #[.val (.int p1), .val (.int p2), .val (.int p3), .val (.int y3), .val (.int y4), .val (.ref a5), .val (.int y6), .val (.int y7), .val (.int y8), .val (.int y9), .val (.int y10), .val (.int y11), .val (.ref a12), .val (.ref a13), .val (.ref a14), .val (.int (own_ln A)), .val (.int (own_ln B)), .val (.int (((own_ln A) + (own_ln B)) + (own_ln C))), .unset, .unset]) rfl) ?_
  show own_FinV p e below s _ _ _ (T3.setTop (mkF m 276 #[.val (.int p1), .val (.int p2), .val (.int p3), .val (.int y3), .val (.int y4), .val (.ref a5), .val (.int y6), .val (.int y7), .val (.int y8), .val (.int y9), .val (.int y10), .val (.int y11), .val (.ref a12), .val (.ref a13), .val (.ref a14), .val (.int (own_ln A)), .val (.int (own_ln B)), .val (.int (((own_ln A) + (own_ln B)) + (own_ln C))), .unset, .unset] []))
  refine own_FinV.step (fun _ => XS.aload X3.here hx rfl (hb hby at_276) rfl rfl) ?_
  show own_FinV p e below s _ _ _ (T3.setTop (mkF m 278 #[.val (.int p1), .val (.int p2), .val (.int p3), .val (.int y3), .val (.int y4), .val (.ref a5), .val (.int y6), .val (.int y7), .val (.int y8), .val (.int y9), .val (.int y10), .val (.int y11), .val (.ref a12), .val (.ref a13), .val (.ref a14), .val (.int (own_ln A)), .val (.int (own_ln B)), .val (.int (((own_ln A) + (own_ln B)) + (own_ln C))), .unset, .unset] [(.ref a5)]))
  obtain ⟨_, T4, L4, X4, ⟨rfl, N4q, e4⟩, st4⟩ := own_callV X3 hx hZ hown (own_w hw 14 rfl) (own_w hw 15 rfl) (own_w hw 17 rfl) (own_w hw 16 rfl) (own_w hw 5 rfl) (own_w hw 18 rfl) (by decide) (rm2 l Z a0 hw a5 b5 k5 (own_ln (A ++ B ++ C)) (A ++ B ++ C) cs h0 n0 Z0 S1 hcs E5 Fc5 Fv5 V5) (by decide) (by decide) E5 e3 (W := 0) (g := (mkF m 278 #[.val (.int p1), .val (.int p2), .val (.int p3), .val (.int y3), .val (.int y4), .val (.ref a5), .val (.int y6), .val (.int y7), .val (.int y8), .val (.int y9), .val (.int y10), .val (.int y11), .val (.ref a12), .val (.ref a13), .val (.ref a14), .val (.int (own_ln A)), .val (.int (own_ln B)), .val (.int (((own_ln A) + (own_ln B)) + (own_ln C))), .unset, .unset] [(.ref a5)])) rfl (by rw [hml]; rfl) (argsL := []) (rest := []) (lenOf pd_5 rfl) rfl rfl (by show 2 * 0 + _ ≤ _; exact Nat.le_of_eq rfl) (hb hby at_278) hcl hsl
  have N4 := Fr.app N3 N4q
  refine own_FinV.step st4 ?_
  show own_FinV p e below s _ _ _ (T4.setTop (mkF m 281 #[.val (.int p1), .val (.int p2), .val (.int p3), .val (.int y3), .val (.int y4), .val (.ref a5), .val (.int y6), .val (.int y7), .val (.int y8), .val (.int y9), .val (.int y10), .val (.int y11), .val (.ref a12), .val (.ref a13), .val (.ref a14), .val (.int (own_ln A)), .val (.int (own_ln B)), .val (.int (((own_ln A) + (own_ln B)) + (own_ln C))), .unset, .unset] [(.int (own_ln (A ++ B ++ C)))]))
  refine own_FinV.step (fun _ => XS.iload X4.here hx rfl (hb hby at_281) rfl) ?_
  show own_FinV p e below s _ _ _ (T4.setTop (mkF m 283 #[.val (.int p1), .val (.int p2), .val (.int p3), .val (.int y3), .val (.int y4), .val (.ref a5), .val (.int y6), .val (.int y7), .val (.int y8), .val (.int y9), .val (.int y10), .val (.int y11), .val (.ref a12), .val (.ref a13), .val (.ref a14), .val (.int (own_ln A)), .val (.int (own_ln B)), .val (.int (((own_ln A) + (own_ln B)) + (own_ln C))), .unset, .unset] [(.int (((own_ln A) + (own_ln B)) + (own_ln C))), (.int (own_ln (A ++ B ++ C)))]))
  refine own_FinV.step (fun _ => XS.icmpYes X4.here hx rfl (pc0 := 283) (pc' := 288) rfl (hb hby at_283) rfl (XT.ii_eq_t (own_t0 la lb lc)) (by decide) (by decide)) ?_
  show own_FinV p e below s _ _ _ (T4.setTop (mkF m 288 #[.val (.int p1), .val (.int p2), .val (.int p3), .val (.int y3), .val (.int y4), .val (.ref a5), .val (.int y6), .val (.int y7), .val (.int y8), .val (.int y9), .val (.int y10), .val (.int y11), .val (.ref a12), .val (.ref a13), .val (.ref a14), .val (.int (own_ln A)), .val (.int (own_ln B)), .val (.int (((own_ln A) + (own_ln B)) + (own_ln C))), .unset, .unset] []))
  refine own_FinV.step (fun _ => XS.iloadN X4.here hx rfl (hb hby at_288) rfl) ?_
  show own_FinV p e below s _ _ _ (T4.setTop (mkF m 289 #[.val (.int p1), .val (.int p2), .val (.int p3), .val (.int y3), .val (.int y4), .val (.ref a5), .val (.int y6), .val (.int y7), .val (.int y8), .val (.int y9), .val (.int y10), .val (.int y11), .val (.ref a12), .val (.ref a13), .val (.ref a14), .val (.int (own_ln A)), .val (.int (own_ln B)), .val (.int (((own_ln A) + (own_ln B)) + (own_ln C))), .unset, .unset] [(.int p3)]))
  refine own_FinV.step (X4.ldcInt hx hown (mvT hZ (own_w hw 27 rfl)) (g := (mkF m 289 #[.val (.int p1), .val (.int p2), .val (.int p3), .val (.int y3), .val (.int y4), .val (.ref a5), .val (.int y6), .val (.int y7), .val (.int y8), .val (.int y9), .val (.int y10), .val (.int y11), .val (.ref a12), .val (.ref a13), .val (.ref a14), .val (.int (own_ln A)), .val (.int (own_ln B)), .val (.int (((own_ln A) + (own_ln B)) + (own_ln C))), .unset, .unset] [(.int p3)])) rfl (hb hby at_289)) ?_
  show own_FinV p e below s _ _ _ (T4.setTop (mkF m 291 #[.val (.int p1), .val (.int p2), .val (.int p3), .val (.int y3), .val (.int y4), .val (.ref a5), .val (.int y6), .val (.int y7), .val (.int y8), .val (.int y9), .val (.int y10), .val (.int y11), .val (.ref a12), .val (.ref a13), .val (.ref a14), .val (.int (own_ln A)), .val (.int (own_ln B)), .val (.int (((own_ln A) + (own_ln B)) + (own_ln C))), .unset, .unset] [(.int (2147483647 : Int32)), (.int p3)]))
  refine own_FinV.step (fun _ => XS.iand X4.here hx rfl (hb hby at_291) rfl) ?_
  show own_FinV p e below s _ _ _ (T4.setTop (mkF m 292 #[.val (.int p1), .val (.int p2), .val (.int p3), .val (.int y3), .val (.int y4), .val (.ref a5), .val (.int y6), .val (.int y7), .val (.int y8), .val (.int y9), .val (.int y10), .val (.int y11), .val (.ref a12), .val (.ref a13), .val (.ref a14), .val (.int (own_ln A)), .val (.int (own_ln B)), .val (.int (((own_ln A) + (own_ln B)) + (own_ln C))), .unset, .unset] [(.int (p3 &&& (2147483647 : Int32)))]))
  refine own_FinV.step (fun _ => XS.iload X4.here hx rfl (hb hby at_292) rfl) ?_
  show own_FinV p e below s _ _ _ (T4.setTop (mkF m 294 #[.val (.int p1), .val (.int p2), .val (.int p3), .val (.int y3), .val (.int y4), .val (.ref a5), .val (.int y6), .val (.int y7), .val (.int y8), .val (.int y9), .val (.int y10), .val (.int y11), .val (.ref a12), .val (.ref a13), .val (.ref a14), .val (.int (own_ln A)), .val (.int (own_ln B)), .val (.int (((own_ln A) + (own_ln B)) + (own_ln C))), .unset, .unset] [(.int (((own_ln A) + (own_ln B)) + (own_ln C))), (.int (p3 &&& (2147483647 : Int32)))]))
  refine own_FinV.step (fun _ => Jvm.RoadKit.iremM X4 hx rfl (hb hby at_294) rfl (own_tn la lb lc hp)) ?_
  show own_FinV p e below s _ _ _ (T4.setTop (mkF m 295 #[.val (.int p1), .val (.int p2), .val (.int p3), .val (.int y3), .val (.int y4), .val (.ref a5), .val (.int y6), .val (.int y7), .val (.int y8), .val (.int y9), .val (.int y10), .val (.int y11), .val (.ref a12), .val (.ref a13), .val (.ref a14), .val (.int (own_ln A)), .val (.int (own_ln B)), .val (.int (((own_ln A) + (own_ln B)) + (own_ln C))), .unset, .unset] [(.int ((p3 &&& (2147483647 : Int32)) % (((own_ln A) + (own_ln B)) + (own_ln C))))]))
  refine own_FinV.step (fun _ => XS.istore X4.here hx rfl (hb hby at_295) rfl (l' := #[.val (.int p1), .val (.int p2), .val (.int p3), .val (.int y3), .val (.int y4), .val (.ref a5), .val (.int y6), .val (.int y7), .val (.int y8), .val (.int y9), .val (.int y10), .val (.int y11), .val (.ref a12), .val (.ref a13), .val (.ref a14), .val (.int (own_ln A)), .val (.int (own_ln B)), .val (.int (((own_ln A) + (own_ln B)) + (own_ln C))), .val (.int ((p3 &&& (2147483647 : Int32)) % (((own_ln A) + (own_ln B)) + (own_ln C)))), .unset]) rfl) ?_
  show own_FinV p e below s _ _ _ (T4.setTop (mkF m 297 #[.val (.int p1), .val (.int p2), .val (.int p3), .val (.int y3), .val (.int y4), .val (.ref a5), .val (.int y6), .val (.int y7), .val (.int y8), .val (.int y9), .val (.int y10), .val (.int y11), .val (.ref a12), .val (.ref a13), .val (.ref a14), .val (.int (own_ln A)), .val (.int (own_ln B)), .val (.int (((own_ln A) + (own_ln B)) + (own_ln C))), .val (.int ((p3 &&& (2147483647 : Int32)) % (((own_ln A) + (own_ln B)) + (own_ln C)))), .unset] []))
  generalize hii : ((p3 &&& (2147483647 : Int32)) % (((own_ln A) + (own_ln B)) + (own_ln C))) = ii
  have hi := own_ti la lb lc hp p3
  rw [hii] at hi
  show own_FinV p e below s _ _ _ (T4.setTop (mkF m 297 #[.val (.int p1), .val (.int p2), .val (.int p3), .val (.int y3), .val (.int y4), .val (.ref a5), .val (.int y6), .val (.int y7), .val (.int y8), .val (.int y9), .val (.int y10), .val (.int y11), .val (.ref a12), .val (.ref a13), .val (.ref a14), .val (.int (own_ln A)), .val (.int (own_ln B)), .val (.int (((own_ln A) + (own_ln B)) + (own_ln C))), .val (.int ii), .unset] []))
  refine own_FinV.step (fun _ => XS.iload X4.here hx rfl (hb hby at_297) rfl) ?_
  show own_FinV p e below s _ _ _ (T4.setTop (mkF m 299 #[.val (.int p1), .val (.int p2), .val (.int p3), .val (.int y3), .val (.int y4), .val (.ref a5), .val (.int y6), .val (.int y7), .val (.int y8), .val (.int y9), .val (.int y10), .val (.int y11), .val (.ref a12), .val (.ref a13), .val (.ref a14), .val (.int (own_ln A)), .val (.int (own_ln B)), .val (.int (((own_ln A) + (own_ln B)) + (own_ln C))), .val (.int ii), .unset] [(.int ii)]))
  refine own_FinV.step (fun _ => XS.iload X4.here hx rfl (hb hby at_299) rfl) ?_
  show own_FinV p e below s _ _ _ (T4.setTop (mkF m 301 #[.val (.int p1), .val (.int p2), .val (.int p3), .val (.int y3), .val (.int y4), .val (.ref a5), .val (.int y6), .val (.int y7), .val (.int y8), .val (.int y9), .val (.int y10), .val (.int y11), .val (.ref a12), .val (.ref a13), .val (.ref a14), .val (.int (own_ln A)), .val (.int (own_ln B)), .val (.int (((own_ln A) + (own_ln B)) + (own_ln C))), .val (.int ii), .unset] [(.int (own_ln A)), (.int ii)]))
  by_cases hc301_5 : ii < (own_ln A)
  ·
    refine own_FinV.step (fun _ => XS.icmpNo X4.here hx rfl (hb hby at_301) rfl (XT.ii_ge_f hc301_5)) ?_
    show own_FinV p e below s _ _ _ (T4.setTop (mkF m 304 #[.val (.int p1), .val (.int p2), .val (.int p3), .val (.int y3), .val (.int y4), .val (.ref a5), .val (.int y6), .val (.int y7), .val (.int y8), .val (.int y9), .val (.int y10), .val (.int y11), .val (.ref a12), .val (.ref a13), .val (.ref a14), .val (.int (own_ln A)), .val (.int (own_ln B)), .val (.int (((own_ln A) + (own_ln B)) + (own_ln C))), .val (.int ii), .unset] []))
    refine own_FinV.step (fun _ => XS.aload X4.here hx rfl (hb hby at_304) rfl rfl) ?_
    show own_FinV p e below s _ _ _ (T4.setTop (mkF m 306 #[.val (.int p1), .val (.int p2), .val (.int p3), .val (.int y3), .val (.int y4), .val (.ref a5), .val (.int y6), .val (.int y7), .val (.int y8), .val (.int y9), .val (.int y10), .val (.int y11), .val (.ref a12), .val (.ref a13), .val (.ref a14), .val (.int (own_ln A)), .val (.int (own_ln B)), .val (.int (((own_ln A) + (own_ln B)) + (own_ln C))), .val (.int ii), .unset] [(.ref a12)]))
    refine own_FinV.step (fun _ => XS.iload X4.here hx rfl (hb hby at_306) rfl) ?_
    show own_FinV p e below s _ _ _ (T4.setTop (mkF m 308 #[.val (.int p1), .val (.int p2), .val (.int p3), .val (.int y3), .val (.int y4), .val (.ref a5), .val (.int y6), .val (.int y7), .val (.int y8), .val (.int y9), .val (.int y10), .val (.int y11), .val (.ref a12), .val (.ref a13), .val (.ref a14), .val (.int (own_ln A)), .val (.int (own_ln B)), .val (.int (((own_ln A) + (own_ln B)) + (own_ln C))), .val (.int ii), .unset] [(.int ii), (.ref a12)]))
    obtain ⟨_, T6, L6, X6, ⟨rfl, N6q, e6⟩, st6⟩ := own_callV X4 hx hZ hown (own_w hw 28 rfl) (own_w hw 29 rfl) (own_w hw 31 rfl) (own_w hw 30 rfl) (own_w hw 5 rfl) (own_w hw 32 rfl) (by decide) (rm7 l Z a0 hw a12 ii b12 k12 (own_ln A) A cs fm h0 n0 Z0 S1 hcs S2 rv E12 Fc12 Fv12 V12 (own_t1 la lb lc hi) hc301_5) (by decide) (by decide) E12 e4 (W := 0) (g := (mkF m 308 #[.val (.int p1), .val (.int p2), .val (.int p3), .val (.int y3), .val (.int y4), .val (.ref a5), .val (.int y6), .val (.int y7), .val (.int y8), .val (.int y9), .val (.int y10), .val (.int y11), .val (.ref a12), .val (.ref a13), .val (.ref a14), .val (.int (own_ln A)), .val (.int (own_ln B)), .val (.int (((own_ln A) + (own_ln B)) + (own_ln C))), .val (.int ii), .unset] [(.int ii), (.ref a12)])) rfl (by rw [hml]; rfl) (argsL := [(.int ii)]) (rest := []) (lenOf pd_6 rfl) rfl rfl (by show 2 * 0 + _ ≤ _; exact Nat.le_of_eq rfl) (hb hby at_308) hcl hsl
    have N6 := Fr.app N4 N6q
    refine own_FinV.step st6 ?_
    show own_FinV p e below s _ _ _ (T6.setTop (mkF m 311 #[.val (.int p1), .val (.int p2), .val (.int p3), .val (.int y3), .val (.int y4), .val (.ref a5), .val (.int y6), .val (.int y7), .val (.int y8), .val (.int y9), .val (.int y10), .val (.int y11), .val (.ref a12), .val (.ref a13), .val (.ref a14), .val (.int (own_ln A)), .val (.int (own_ln B)), .val (.int (((own_ln A) + (own_ln B)) + (own_ln C))), .val (.int ii), .unset] [(.int (own_ch A ii))]))
    refine own_FinV.step (fun _ => XS.istore X6.here hx rfl (hb hby at_311) rfl (l' := #[.val (.int p1), .val (.int p2), .val (.int p3), .val (.int y3), .val (.int y4), .val (.ref a5), .val (.int y6), .val (.int y7), .val (.int y8), .val (.int y9), .val (.int y10), .val (.int y11), .val (.ref a12), .val (.ref a13), .val (.ref a14), .val (.int (own_ln A)), .val (.int (own_ln B)), .val (.int (((own_ln A) + (own_ln B)) + (own_ln C))), .val (.int ii), .val (.int (own_ch A ii))]) rfl) ?_
    show own_FinV p e below s _ _ _ (T6.setTop (mkF m 313 #[.val (.int p1), .val (.int p2), .val (.int p3), .val (.int y3), .val (.int y4), .val (.ref a5), .val (.int y6), .val (.int y7), .val (.int y8), .val (.int y9), .val (.int y10), .val (.int y11), .val (.ref a12), .val (.ref a13), .val (.ref a14), .val (.int (own_ln A)), .val (.int (own_ln B)), .val (.int (((own_ln A) + (own_ln B)) + (own_ln C))), .val (.int ii), .val (.int (own_ch A ii))] []))
    refine own_FinV.step (fun _ => XS.goto X6.here hx rfl (pc0 := 313) (pc' := 356) rfl (hb hby at_313) (by decide) (by decide)) ?_
    show own_FinV p e below s _ _ _ (T6.setTop (mkF m 356 #[.val (.int p1), .val (.int p2), .val (.int p3), .val (.int y3), .val (.int y4), .val (.ref a5), .val (.int y6), .val (.int y7), .val (.int y8), .val (.int y9), .val (.int y10), .val (.int y11), .val (.ref a12), .val (.ref a13), .val (.ref a14), .val (.int (own_ln A)), .val (.int (own_ln B)), .val (.int (((own_ln A) + (own_ln B)) + (own_ln C))), .val (.int ii), .val (.int (own_ch A ii))] []))
    refine own_FinV.step (fun _ => XS.aload X6.here hx rfl (hb hby at_356) rfl rfl) ?_
    show own_FinV p e below s _ _ _ (T6.setTop (mkF m 358 #[.val (.int p1), .val (.int p2), .val (.int p3), .val (.int y3), .val (.int y4), .val (.ref a5), .val (.int y6), .val (.int y7), .val (.int y8), .val (.int y9), .val (.int y10), .val (.int y11), .val (.ref a12), .val (.ref a13), .val (.ref a14), .val (.int (own_ln A)), .val (.int (own_ln B)), .val (.int (((own_ln A) + (own_ln B)) + (own_ln C))), .val (.int ii), .val (.int (own_ch A ii))] [(.ref a5)]))
    refine own_FinV.step (fun _ => XS.iload X6.here hx rfl (hb hby at_358) rfl) ?_
    show own_FinV p e below s _ _ _ (T6.setTop (mkF m 360 #[.val (.int p1), .val (.int p2), .val (.int p3), .val (.int y3), .val (.int y4), .val (.ref a5), .val (.int y6), .val (.int y7), .val (.int y8), .val (.int y9), .val (.int y10), .val (.int y11), .val (.ref a12), .val (.ref a13), .val (.ref a14), .val (.int (own_ln A)), .val (.int (own_ln B)), .val (.int (((own_ln A) + (own_ln B)) + (own_ln C))), .val (.int ii), .val (.int (own_ch A ii))] [(.int ii), (.ref a5)]))
    obtain ⟨_, T7, L7, X7, ⟨rfl, N7q, e7⟩, st7⟩ := own_callV X6 hx hZ hown (own_w hw 28 rfl) (own_w hw 29 rfl) (own_w hw 31 rfl) (own_w hw 30 rfl) (own_w hw 5 rfl) (own_w hw 32 rfl) (by decide) (rm7 l Z a0 hw a5 ii b5 k5 (own_ln (A ++ B ++ C)) (A ++ B ++ C) cs fm h0 n0 Z0 S1 hcs S2 rv E5 Fc5 Fv5 V5 (own_t1 la lb lc hi) (own_t5 la lb lc hi)) (by decide) (by decide) E5 e6 (W := 0) (g := (mkF m 360 #[.val (.int p1), .val (.int p2), .val (.int p3), .val (.int y3), .val (.int y4), .val (.ref a5), .val (.int y6), .val (.int y7), .val (.int y8), .val (.int y9), .val (.int y10), .val (.int y11), .val (.ref a12), .val (.ref a13), .val (.ref a14), .val (.int (own_ln A)), .val (.int (own_ln B)), .val (.int (((own_ln A) + (own_ln B)) + (own_ln C))), .val (.int ii), .val (.int (own_ch A ii))] [(.int ii), (.ref a5)])) rfl (by rw [hml]; rfl) (argsL := [(.int ii)]) (rest := []) (lenOf pd_6 rfl) rfl rfl (by show 2 * 0 + _ ≤ _; exact Nat.le_of_eq rfl) (hb hby at_360) hcl hsl
    have N7 := Fr.app N6 N7q
    refine own_FinV.step st7 ?_
    show own_FinV p e below s _ _ _ (T7.setTop (mkF m 363 #[.val (.int p1), .val (.int p2), .val (.int p3), .val (.int y3), .val (.int y4), .val (.ref a5), .val (.int y6), .val (.int y7), .val (.int y8), .val (.int y9), .val (.int y10), .val (.int y11), .val (.ref a12), .val (.ref a13), .val (.ref a14), .val (.int (own_ln A)), .val (.int (own_ln B)), .val (.int (((own_ln A) + (own_ln B)) + (own_ln C))), .val (.int ii), .val (.int (own_ch A ii))] [(.int (own_ch (A ++ B ++ C) ii))]))
    refine own_FinV.step (fun _ => XS.iload X7.here hx rfl (hb hby at_363) rfl) ?_
    show own_FinV p e below s _ _ _ (T7.setTop (mkF m 365 #[.val (.int p1), .val (.int p2), .val (.int p3), .val (.int y3), .val (.int y4), .val (.ref a5), .val (.int y6), .val (.int y7), .val (.int y8), .val (.int y9), .val (.int y10), .val (.int y11), .val (.ref a12), .val (.ref a13), .val (.ref a14), .val (.int (own_ln A)), .val (.int (own_ln B)), .val (.int (((own_ln A) + (own_ln B)) + (own_ln C))), .val (.int ii), .val (.int (own_ch A ii))] [(.int (own_ch A ii)), (.int (own_ch (A ++ B ++ C) ii))]))
    refine own_FinV.step (fun _ => XS.icmpNo X7.here hx rfl (hb hby at_365) rfl (XT.ii_ne_f (own_c12 la lb lc hi hc301_5))) ?_
    show own_FinV p e below s _ _ _ (T7.setTop (mkF m 368 #[.val (.int p1), .val (.int p2), .val (.int p3), .val (.int y3), .val (.int y4), .val (.ref a5), .val (.int y6), .val (.int y7), .val (.int y8), .val (.int y9), .val (.int y10), .val (.int y11), .val (.ref a12), .val (.ref a13), .val (.ref a14), .val (.int (own_ln A)), .val (.int (own_ln B)), .val (.int (((own_ln A) + (own_ln B)) + (own_ln C))), .val (.int ii), .val (.int (own_ch A ii))] []))
    refine own_FinV.step (fun _ => XS.iconst X7.here hx rfl (hb hby at_368)) ?_
    show own_FinV p e below s _ _ _ (T7.setTop (mkF m 369 #[.val (.int p1), .val (.int p2), .val (.int p3), .val (.int y3), .val (.int y4), .val (.ref a5), .val (.int y6), .val (.int y7), .val (.int y8), .val (.int y9), .val (.int y10), .val (.int y11), .val (.ref a12), .val (.ref a13), .val (.ref a14), .val (.int (own_ln A)), .val (.int (own_ln B)), .val (.int (((own_ln A) + (own_ln B)) + (own_ln C))), .val (.int ii), .val (.int (own_ch A ii))] [(.int (1 : Int32))]))
    refine own_FinV.step (fun _ => XS.goto X7.here hx rfl (pc0 := 369) (pc' := 373) rfl (hb hby at_369) (by decide) (by decide)) ?_
    show own_FinV p e below s _ _ _ (T7.setTop (mkF m 373 #[.val (.int p1), .val (.int p2), .val (.int p3), .val (.int y3), .val (.int y4), .val (.ref a5), .val (.int y6), .val (.int y7), .val (.int y8), .val (.int y9), .val (.int y10), .val (.int y11), .val (.ref a12), .val (.ref a13), .val (.ref a14), .val (.int (own_ln A)), .val (.int (own_ln B)), .val (.int (((own_ln A) + (own_ln B)) + (own_ln C))), .val (.int ii), .val (.int (own_ch A ii))] [(.int (1 : Int32))]))
    exact own_retNV X7 hS hk e7 hZ hEL C0 hx hlk (t := .boolean) hret (by simp) (hb hby at_373) ⟨rfl, N7⟩ hcl hsl
  ·
    refine own_FinV.step (fun _ => XS.icmpYes X4.here hx rfl (pc0 := 301) (pc' := 316) rfl (hb hby at_301) rfl (XT.ii_ge_t hc301_5) (by decide) (by decide)) ?_
    show own_FinV p e below s _ _ _ (T4.setTop (mkF m 316 #[.val (.int p1), .val (.int p2), .val (.int p3), .val (.int y3), .val (.int y4), .val (.ref a5), .val (.int y6), .val (.int y7), .val (.int y8), .val (.int y9), .val (.int y10), .val (.int y11), .val (.ref a12), .val (.ref a13), .val (.ref a14), .val (.int (own_ln A)), .val (.int (own_ln B)), .val (.int (((own_ln A) + (own_ln B)) + (own_ln C))), .val (.int ii), .unset] []))
    refine own_FinV.step (fun _ => XS.iload X4.here hx rfl (hb hby at_316) rfl) ?_
    show own_FinV p e below s _ _ _ (T4.setTop (mkF m 318 #[.val (.int p1), .val (.int p2), .val (.int p3), .val (.int y3), .val (.int y4), .val (.ref a5), .val (.int y6), .val (.int y7), .val (.int y8), .val (.int y9), .val (.int y10), .val (.int y11), .val (.ref a12), .val (.ref a13), .val (.ref a14), .val (.int (own_ln A)), .val (.int (own_ln B)), .val (.int (((own_ln A) + (own_ln B)) + (own_ln C))), .val (.int ii), .unset] [(.int ii)]))
    refine own_FinV.step (fun _ => XS.iload X4.here hx rfl (hb hby at_318) rfl) ?_
    show own_FinV p e below s _ _ _ (T4.setTop (mkF m 320 #[.val (.int p1), .val (.int p2), .val (.int p3), .val (.int y3), .val (.int y4), .val (.ref a5), .val (.int y6), .val (.int y7), .val (.int y8), .val (.int y9), .val (.int y10), .val (.int y11), .val (.ref a12), .val (.ref a13), .val (.ref a14), .val (.int (own_ln A)), .val (.int (own_ln B)), .val (.int (((own_ln A) + (own_ln B)) + (own_ln C))), .val (.int ii), .unset] [(.int (own_ln A)), (.int ii)]))
    refine own_FinV.step (fun _ => XS.iload X4.here hx rfl (hb hby at_320) rfl) ?_
    show own_FinV p e below s _ _ _ (T4.setTop (mkF m 322 #[.val (.int p1), .val (.int p2), .val (.int p3), .val (.int y3), .val (.int y4), .val (.ref a5), .val (.int y6), .val (.int y7), .val (.int y8), .val (.int y9), .val (.int y10), .val (.int y11), .val (.ref a12), .val (.ref a13), .val (.ref a14), .val (.int (own_ln A)), .val (.int (own_ln B)), .val (.int (((own_ln A) + (own_ln B)) + (own_ln C))), .val (.int ii), .unset] [(.int (own_ln B)), (.int (own_ln A)), (.int ii)]))
    refine own_FinV.step (fun _ => XS.iadd X4.here hx rfl (hb hby at_322) rfl) ?_
    show own_FinV p e below s _ _ _ (T4.setTop (mkF m 323 #[.val (.int p1), .val (.int p2), .val (.int p3), .val (.int y3), .val (.int y4), .val (.ref a5), .val (.int y6), .val (.int y7), .val (.int y8), .val (.int y9), .val (.int y10), .val (.int y11), .val (.ref a12), .val (.ref a13), .val (.ref a14), .val (.int (own_ln A)), .val (.int (own_ln B)), .val (.int (((own_ln A) + (own_ln B)) + (own_ln C))), .val (.int ii), .unset] [(.int ((own_ln A) + (own_ln B))), (.int ii)]))
    by_cases hc323_8 : ii < ((own_ln A) + (own_ln B))
    ·
      refine own_FinV.step (fun _ => XS.icmpNo X4.here hx rfl (hb hby at_323) rfl (XT.ii_ge_f hc323_8)) ?_
      show own_FinV p e below s _ _ _ (T4.setTop (mkF m 326 #[.val (.int p1), .val (.int p2), .val (.int p3), .val (.int y3), .val (.int y4), .val (.ref a5), .val (.int y6), .val (.int y7), .val (.int y8), .val (.int y9), .val (.int y10), .val (.int y11), .val (.ref a12), .val (.ref a13), .val (.ref a14), .val (.int (own_ln A)), .val (.int (own_ln B)), .val (.int (((own_ln A) + (own_ln B)) + (own_ln C))), .val (.int ii), .unset] []))
      refine own_FinV.step (fun _ => XS.aload X4.here hx rfl (hb hby at_326) rfl rfl) ?_
      show own_FinV p e below s _ _ _ (T4.setTop (mkF m 328 #[.val (.int p1), .val (.int p2), .val (.int p3), .val (.int y3), .val (.int y4), .val (.ref a5), .val (.int y6), .val (.int y7), .val (.int y8), .val (.int y9), .val (.int y10), .val (.int y11), .val (.ref a12), .val (.ref a13), .val (.ref a14), .val (.int (own_ln A)), .val (.int (own_ln B)), .val (.int (((own_ln A) + (own_ln B)) + (own_ln C))), .val (.int ii), .unset] [(.ref a13)]))
      refine own_FinV.step (fun _ => XS.iload X4.here hx rfl (hb hby at_328) rfl) ?_
      show own_FinV p e below s _ _ _ (T4.setTop (mkF m 330 #[.val (.int p1), .val (.int p2), .val (.int p3), .val (.int y3), .val (.int y4), .val (.ref a5), .val (.int y6), .val (.int y7), .val (.int y8), .val (.int y9), .val (.int y10), .val (.int y11), .val (.ref a12), .val (.ref a13), .val (.ref a14), .val (.int (own_ln A)), .val (.int (own_ln B)), .val (.int (((own_ln A) + (own_ln B)) + (own_ln C))), .val (.int ii), .unset] [(.int ii), (.ref a13)]))
      refine own_FinV.step (fun _ => XS.iload X4.here hx rfl (hb hby at_330) rfl) ?_
      show own_FinV p e below s _ _ _ (T4.setTop (mkF m 332 #[.val (.int p1), .val (.int p2), .val (.int p3), .val (.int y3), .val (.int y4), .val (.ref a5), .val (.int y6), .val (.int y7), .val (.int y8), .val (.int y9), .val (.int y10), .val (.int y11), .val (.ref a12), .val (.ref a13), .val (.ref a14), .val (.int (own_ln A)), .val (.int (own_ln B)), .val (.int (((own_ln A) + (own_ln B)) + (own_ln C))), .val (.int ii), .unset] [(.int (own_ln A)), (.int ii), (.ref a13)]))
      refine own_FinV.step (fun _ => XS.isub X4.here hx rfl (hb hby at_332) rfl) ?_
      show own_FinV p e below s _ _ _ (T4.setTop (mkF m 333 #[.val (.int p1), .val (.int p2), .val (.int p3), .val (.int y3), .val (.int y4), .val (.ref a5), .val (.int y6), .val (.int y7), .val (.int y8), .val (.int y9), .val (.int y10), .val (.int y11), .val (.ref a12), .val (.ref a13), .val (.ref a14), .val (.int (own_ln A)), .val (.int (own_ln B)), .val (.int (((own_ln A) + (own_ln B)) + (own_ln C))), .val (.int ii), .unset] [(.int (ii - (own_ln A))), (.ref a13)]))
      obtain ⟨_, T9, L9, X9, ⟨rfl, N9q, e9⟩, st9⟩ := own_callV X4 hx hZ hown (own_w hw 28 rfl) (own_w hw 29 rfl) (own_w hw 31 rfl) (own_w hw 30 rfl) (own_w hw 5 rfl) (own_w hw 32 rfl) (by decide) (rm7 l Z a0 hw a13 (ii - (own_ln A)) b13 k13 (own_ln B) B cs fm h0 n0 Z0 S1 hcs S2 rv E13 Fc13 Fv13 V13 (own_c13 la lb lc hi hc301_5 hc323_8).1 (own_c13 la lb lc hi hc301_5 hc323_8).2.1) (by decide) (by decide) E13 e4 (W := 0) (g := (mkF m 333 #[.val (.int p1), .val (.int p2), .val (.int p3), .val (.int y3), .val (.int y4), .val (.ref a5), .val (.int y6), .val (.int y7), .val (.int y8), .val (.int y9), .val (.int y10), .val (.int y11), .val (.ref a12), .val (.ref a13), .val (.ref a14), .val (.int (own_ln A)), .val (.int (own_ln B)), .val (.int (((own_ln A) + (own_ln B)) + (own_ln C))), .val (.int ii), .unset] [(.int (ii - (own_ln A))), (.ref a13)])) rfl (by rw [hml]; rfl) (argsL := [(.int (ii - (own_ln A)))]) (rest := []) (lenOf pd_6 rfl) rfl rfl (by show 2 * 0 + _ ≤ _; exact Nat.le_of_eq rfl) (hb hby at_333) hcl hsl
      have N9 := Fr.app N4 N9q
      refine own_FinV.step st9 ?_
      show own_FinV p e below s _ _ _ (T9.setTop (mkF m 336 #[.val (.int p1), .val (.int p2), .val (.int p3), .val (.int y3), .val (.int y4), .val (.ref a5), .val (.int y6), .val (.int y7), .val (.int y8), .val (.int y9), .val (.int y10), .val (.int y11), .val (.ref a12), .val (.ref a13), .val (.ref a14), .val (.int (own_ln A)), .val (.int (own_ln B)), .val (.int (((own_ln A) + (own_ln B)) + (own_ln C))), .val (.int ii), .unset] [(.int (own_ch B (ii - (own_ln A))))]))
      refine own_FinV.step (fun _ => XS.istore X9.here hx rfl (hb hby at_336) rfl (l' := #[.val (.int p1), .val (.int p2), .val (.int p3), .val (.int y3), .val (.int y4), .val (.ref a5), .val (.int y6), .val (.int y7), .val (.int y8), .val (.int y9), .val (.int y10), .val (.int y11), .val (.ref a12), .val (.ref a13), .val (.ref a14), .val (.int (own_ln A)), .val (.int (own_ln B)), .val (.int (((own_ln A) + (own_ln B)) + (own_ln C))), .val (.int ii), .val (.int (own_ch B (ii - (own_ln A))))]) rfl) ?_
      show own_FinV p e below s _ _ _ (T9.setTop (mkF m 338 #[.val (.int p1), .val (.int p2), .val (.int p3), .val (.int y3), .val (.int y4), .val (.ref a5), .val (.int y6), .val (.int y7), .val (.int y8), .val (.int y9), .val (.int y10), .val (.int y11), .val (.ref a12), .val (.ref a13), .val (.ref a14), .val (.int (own_ln A)), .val (.int (own_ln B)), .val (.int (((own_ln A) + (own_ln B)) + (own_ln C))), .val (.int ii), .val (.int (own_ch B (ii - (own_ln A))))] []))
      refine own_FinV.step (fun _ => XS.goto X9.here hx rfl (pc0 := 338) (pc' := 356) rfl (hb hby at_338) (by decide) (by decide)) ?_
      show own_FinV p e below s _ _ _ (T9.setTop (mkF m 356 #[.val (.int p1), .val (.int p2), .val (.int p3), .val (.int y3), .val (.int y4), .val (.ref a5), .val (.int y6), .val (.int y7), .val (.int y8), .val (.int y9), .val (.int y10), .val (.int y11), .val (.ref a12), .val (.ref a13), .val (.ref a14), .val (.int (own_ln A)), .val (.int (own_ln B)), .val (.int (((own_ln A) + (own_ln B)) + (own_ln C))), .val (.int ii), .val (.int (own_ch B (ii - (own_ln A))))] []))
      refine own_FinV.step (fun _ => XS.aload X9.here hx rfl (hb hby at_356) rfl rfl) ?_
      show own_FinV p e below s _ _ _ (T9.setTop (mkF m 358 #[.val (.int p1), .val (.int p2), .val (.int p3), .val (.int y3), .val (.int y4), .val (.ref a5), .val (.int y6), .val (.int y7), .val (.int y8), .val (.int y9), .val (.int y10), .val (.int y11), .val (.ref a12), .val (.ref a13), .val (.ref a14), .val (.int (own_ln A)), .val (.int (own_ln B)), .val (.int (((own_ln A) + (own_ln B)) + (own_ln C))), .val (.int ii), .val (.int (own_ch B (ii - (own_ln A))))] [(.ref a5)]))
      refine own_FinV.step (fun _ => XS.iload X9.here hx rfl (hb hby at_358) rfl) ?_
      show own_FinV p e below s _ _ _ (T9.setTop (mkF m 360 #[.val (.int p1), .val (.int p2), .val (.int p3), .val (.int y3), .val (.int y4), .val (.ref a5), .val (.int y6), .val (.int y7), .val (.int y8), .val (.int y9), .val (.int y10), .val (.int y11), .val (.ref a12), .val (.ref a13), .val (.ref a14), .val (.int (own_ln A)), .val (.int (own_ln B)), .val (.int (((own_ln A) + (own_ln B)) + (own_ln C))), .val (.int ii), .val (.int (own_ch B (ii - (own_ln A))))] [(.int ii), (.ref a5)]))
      obtain ⟨_, T10, L10, X10, ⟨rfl, N10q, e10⟩, st10⟩ := own_callV X9 hx hZ hown (own_w hw 28 rfl) (own_w hw 29 rfl) (own_w hw 31 rfl) (own_w hw 30 rfl) (own_w hw 5 rfl) (own_w hw 32 rfl) (by decide) (rm7 l Z a0 hw a5 ii b5 k5 (own_ln (A ++ B ++ C)) (A ++ B ++ C) cs fm h0 n0 Z0 S1 hcs S2 rv E5 Fc5 Fv5 V5 (own_t1 la lb lc hi) (own_t5 la lb lc hi)) (by decide) (by decide) E5 e9 (W := 0) (g := (mkF m 360 #[.val (.int p1), .val (.int p2), .val (.int p3), .val (.int y3), .val (.int y4), .val (.ref a5), .val (.int y6), .val (.int y7), .val (.int y8), .val (.int y9), .val (.int y10), .val (.int y11), .val (.ref a12), .val (.ref a13), .val (.ref a14), .val (.int (own_ln A)), .val (.int (own_ln B)), .val (.int (((own_ln A) + (own_ln B)) + (own_ln C))), .val (.int ii), .val (.int (own_ch B (ii - (own_ln A))))] [(.int ii), (.ref a5)])) rfl (by rw [hml]; rfl) (argsL := [(.int ii)]) (rest := []) (lenOf pd_6 rfl) rfl rfl (by show 2 * 0 + _ ≤ _; exact Nat.le_of_eq rfl) (hb hby at_360) hcl hsl
      have N10 := Fr.app N9 N10q
      refine own_FinV.step st10 ?_
      show own_FinV p e below s _ _ _ (T10.setTop (mkF m 363 #[.val (.int p1), .val (.int p2), .val (.int p3), .val (.int y3), .val (.int y4), .val (.ref a5), .val (.int y6), .val (.int y7), .val (.int y8), .val (.int y9), .val (.int y10), .val (.int y11), .val (.ref a12), .val (.ref a13), .val (.ref a14), .val (.int (own_ln A)), .val (.int (own_ln B)), .val (.int (((own_ln A) + (own_ln B)) + (own_ln C))), .val (.int ii), .val (.int (own_ch B (ii - (own_ln A))))] [(.int (own_ch (A ++ B ++ C) ii))]))
      refine own_FinV.step (fun _ => XS.iload X10.here hx rfl (hb hby at_363) rfl) ?_
      show own_FinV p e below s _ _ _ (T10.setTop (mkF m 365 #[.val (.int p1), .val (.int p2), .val (.int p3), .val (.int y3), .val (.int y4), .val (.ref a5), .val (.int y6), .val (.int y7), .val (.int y8), .val (.int y9), .val (.int y10), .val (.int y11), .val (.ref a12), .val (.ref a13), .val (.ref a14), .val (.int (own_ln A)), .val (.int (own_ln B)), .val (.int (((own_ln A) + (own_ln B)) + (own_ln C))), .val (.int ii), .val (.int (own_ch B (ii - (own_ln A))))] [(.int (own_ch B (ii - (own_ln A)))), (.int (own_ch (A ++ B ++ C) ii))]))
      refine own_FinV.step (fun _ => XS.icmpNo X10.here hx rfl (hb hby at_365) rfl (XT.ii_ne_f (own_c13 la lb lc hi hc301_5 hc323_8).2.2)) ?_
      show own_FinV p e below s _ _ _ (T10.setTop (mkF m 368 #[.val (.int p1), .val (.int p2), .val (.int p3), .val (.int y3), .val (.int y4), .val (.ref a5), .val (.int y6), .val (.int y7), .val (.int y8), .val (.int y9), .val (.int y10), .val (.int y11), .val (.ref a12), .val (.ref a13), .val (.ref a14), .val (.int (own_ln A)), .val (.int (own_ln B)), .val (.int (((own_ln A) + (own_ln B)) + (own_ln C))), .val (.int ii), .val (.int (own_ch B (ii - (own_ln A))))] []))
      refine own_FinV.step (fun _ => XS.iconst X10.here hx rfl (hb hby at_368)) ?_
      show own_FinV p e below s _ _ _ (T10.setTop (mkF m 369 #[.val (.int p1), .val (.int p2), .val (.int p3), .val (.int y3), .val (.int y4), .val (.ref a5), .val (.int y6), .val (.int y7), .val (.int y8), .val (.int y9), .val (.int y10), .val (.int y11), .val (.ref a12), .val (.ref a13), .val (.ref a14), .val (.int (own_ln A)), .val (.int (own_ln B)), .val (.int (((own_ln A) + (own_ln B)) + (own_ln C))), .val (.int ii), .val (.int (own_ch B (ii - (own_ln A))))] [(.int (1 : Int32))]))
      refine own_FinV.step (fun _ => XS.goto X10.here hx rfl (pc0 := 369) (pc' := 373) rfl (hb hby at_369) (by decide) (by decide)) ?_
      show own_FinV p e below s _ _ _ (T10.setTop (mkF m 373 #[.val (.int p1), .val (.int p2), .val (.int p3), .val (.int y3), .val (.int y4), .val (.ref a5), .val (.int y6), .val (.int y7), .val (.int y8), .val (.int y9), .val (.int y10), .val (.int y11), .val (.ref a12), .val (.ref a13), .val (.ref a14), .val (.int (own_ln A)), .val (.int (own_ln B)), .val (.int (((own_ln A) + (own_ln B)) + (own_ln C))), .val (.int ii), .val (.int (own_ch B (ii - (own_ln A))))] [(.int (1 : Int32))]))
      exact own_retNV X10 hS hk e10 hZ hEL C0 hx hlk (t := .boolean) hret (by simp) (hb hby at_373) ⟨rfl, N10⟩ hcl hsl
    ·
      refine own_FinV.step (fun _ => XS.icmpYes X4.here hx rfl (pc0 := 323) (pc' := 341) rfl (hb hby at_323) rfl (XT.ii_ge_t hc323_8) (by decide) (by decide)) ?_
      show own_FinV p e below s _ _ _ (T4.setTop (mkF m 341 #[.val (.int p1), .val (.int p2), .val (.int p3), .val (.int y3), .val (.int y4), .val (.ref a5), .val (.int y6), .val (.int y7), .val (.int y8), .val (.int y9), .val (.int y10), .val (.int y11), .val (.ref a12), .val (.ref a13), .val (.ref a14), .val (.int (own_ln A)), .val (.int (own_ln B)), .val (.int (((own_ln A) + (own_ln B)) + (own_ln C))), .val (.int ii), .unset] []))
      refine own_FinV.step (fun _ => XS.aload X4.here hx rfl (hb hby at_341) rfl rfl) ?_
      show own_FinV p e below s _ _ _ (T4.setTop (mkF m 343 #[.val (.int p1), .val (.int p2), .val (.int p3), .val (.int y3), .val (.int y4), .val (.ref a5), .val (.int y6), .val (.int y7), .val (.int y8), .val (.int y9), .val (.int y10), .val (.int y11), .val (.ref a12), .val (.ref a13), .val (.ref a14), .val (.int (own_ln A)), .val (.int (own_ln B)), .val (.int (((own_ln A) + (own_ln B)) + (own_ln C))), .val (.int ii), .unset] [(.ref a14)]))
      refine own_FinV.step (fun _ => XS.iload X4.here hx rfl (hb hby at_343) rfl) ?_
      show own_FinV p e below s _ _ _ (T4.setTop (mkF m 345 #[.val (.int p1), .val (.int p2), .val (.int p3), .val (.int y3), .val (.int y4), .val (.ref a5), .val (.int y6), .val (.int y7), .val (.int y8), .val (.int y9), .val (.int y10), .val (.int y11), .val (.ref a12), .val (.ref a13), .val (.ref a14), .val (.int (own_ln A)), .val (.int (own_ln B)), .val (.int (((own_ln A) + (own_ln B)) + (own_ln C))), .val (.int ii), .unset] [(.int ii), (.ref a14)]))
      refine own_FinV.step (fun _ => XS.iload X4.here hx rfl (hb hby at_345) rfl) ?_
      show own_FinV p e below s _ _ _ (T4.setTop (mkF m 347 #[.val (.int p1), .val (.int p2), .val (.int p3), .val (.int y3), .val (.int y4), .val (.ref a5), .val (.int y6), .val (.int y7), .val (.int y8), .val (.int y9), .val (.int y10), .val (.int y11), .val (.ref a12), .val (.ref a13), .val (.ref a14), .val (.int (own_ln A)), .val (.int (own_ln B)), .val (.int (((own_ln A) + (own_ln B)) + (own_ln C))), .val (.int ii), .unset] [(.int (own_ln A)), (.int ii), (.ref a14)]))
      refine own_FinV.step (fun _ => XS.isub X4.here hx rfl (hb hby at_347) rfl) ?_
      show own_FinV p e below s _ _ _ (T4.setTop (mkF m 348 #[.val (.int p1), .val (.int p2), .val (.int p3), .val (.int y3), .val (.int y4), .val (.ref a5), .val (.int y6), .val (.int y7), .val (.int y8), .val (.int y9), .val (.int y10), .val (.int y11), .val (.ref a12), .val (.ref a13), .val (.ref a14), .val (.int (own_ln A)), .val (.int (own_ln B)), .val (.int (((own_ln A) + (own_ln B)) + (own_ln C))), .val (.int ii), .unset] [(.int (ii - (own_ln A))), (.ref a14)]))
      refine own_FinV.step (fun _ => XS.iload X4.here hx rfl (hb hby at_348) rfl) ?_
      show own_FinV p e below s _ _ _ (T4.setTop (mkF m 350 #[.val (.int p1), .val (.int p2), .val (.int p3), .val (.int y3), .val (.int y4), .val (.ref a5), .val (.int y6), .val (.int y7), .val (.int y8), .val (.int y9), .val (.int y10), .val (.int y11), .val (.ref a12), .val (.ref a13), .val (.ref a14), .val (.int (own_ln A)), .val (.int (own_ln B)), .val (.int (((own_ln A) + (own_ln B)) + (own_ln C))), .val (.int ii), .unset] [(.int (own_ln B)), (.int (ii - (own_ln A))), (.ref a14)]))
      refine own_FinV.step (fun _ => XS.isub X4.here hx rfl (hb hby at_350) rfl) ?_
      show own_FinV p e below s _ _ _ (T4.setTop (mkF m 351 #[.val (.int p1), .val (.int p2), .val (.int p3), .val (.int y3), .val (.int y4), .val (.ref a5), .val (.int y6), .val (.int y7), .val (.int y8), .val (.int y9), .val (.int y10), .val (.int y11), .val (.ref a12), .val (.ref a13), .val (.ref a14), .val (.int (own_ln A)), .val (.int (own_ln B)), .val (.int (((own_ln A) + (own_ln B)) + (own_ln C))), .val (.int ii), .unset] [(.int ((ii - (own_ln A)) - (own_ln B))), (.ref a14)]))
      obtain ⟨_, T11, L11, X11, ⟨rfl, N11q, e11⟩, st11⟩ := own_callV X4 hx hZ hown (own_w hw 28 rfl) (own_w hw 29 rfl) (own_w hw 31 rfl) (own_w hw 30 rfl) (own_w hw 5 rfl) (own_w hw 32 rfl) (by decide) (rm7 l Z a0 hw a14 ((ii - (own_ln A)) - (own_ln B)) b14 k14 (own_ln C) C cs fm h0 n0 Z0 S1 hcs S2 rv E14 Fc14 Fv14 V14 (own_c14 la lb lc hi hc323_8).1 (own_c14 la lb lc hi hc323_8).2.1) (by decide) (by decide) E14 e4 (W := 0) (g := (mkF m 351 #[.val (.int p1), .val (.int p2), .val (.int p3), .val (.int y3), .val (.int y4), .val (.ref a5), .val (.int y6), .val (.int y7), .val (.int y8), .val (.int y9), .val (.int y10), .val (.int y11), .val (.ref a12), .val (.ref a13), .val (.ref a14), .val (.int (own_ln A)), .val (.int (own_ln B)), .val (.int (((own_ln A) + (own_ln B)) + (own_ln C))), .val (.int ii), .unset] [(.int ((ii - (own_ln A)) - (own_ln B))), (.ref a14)])) rfl (by rw [hml]; rfl) (argsL := [(.int ((ii - (own_ln A)) - (own_ln B)))]) (rest := []) (lenOf pd_6 rfl) rfl rfl (by show 2 * 0 + _ ≤ _; exact Nat.le_of_eq rfl) (hb hby at_351) hcl hsl
      have N11 := Fr.app N4 N11q
      refine own_FinV.step st11 ?_
      show own_FinV p e below s _ _ _ (T11.setTop (mkF m 354 #[.val (.int p1), .val (.int p2), .val (.int p3), .val (.int y3), .val (.int y4), .val (.ref a5), .val (.int y6), .val (.int y7), .val (.int y8), .val (.int y9), .val (.int y10), .val (.int y11), .val (.ref a12), .val (.ref a13), .val (.ref a14), .val (.int (own_ln A)), .val (.int (own_ln B)), .val (.int (((own_ln A) + (own_ln B)) + (own_ln C))), .val (.int ii), .unset] [(.int (own_ch C ((ii - (own_ln A)) - (own_ln B))))]))
      refine own_FinV.step (fun _ => XS.istore X11.here hx rfl (hb hby at_354) rfl (l' := #[.val (.int p1), .val (.int p2), .val (.int p3), .val (.int y3), .val (.int y4), .val (.ref a5), .val (.int y6), .val (.int y7), .val (.int y8), .val (.int y9), .val (.int y10), .val (.int y11), .val (.ref a12), .val (.ref a13), .val (.ref a14), .val (.int (own_ln A)), .val (.int (own_ln B)), .val (.int (((own_ln A) + (own_ln B)) + (own_ln C))), .val (.int ii), .val (.int (own_ch C ((ii - (own_ln A)) - (own_ln B))))]) rfl) ?_
      show own_FinV p e below s _ _ _ (T11.setTop (mkF m 356 #[.val (.int p1), .val (.int p2), .val (.int p3), .val (.int y3), .val (.int y4), .val (.ref a5), .val (.int y6), .val (.int y7), .val (.int y8), .val (.int y9), .val (.int y10), .val (.int y11), .val (.ref a12), .val (.ref a13), .val (.ref a14), .val (.int (own_ln A)), .val (.int (own_ln B)), .val (.int (((own_ln A) + (own_ln B)) + (own_ln C))), .val (.int ii), .val (.int (own_ch C ((ii - (own_ln A)) - (own_ln B))))] []))
      refine own_FinV.step (fun _ => XS.aload X11.here hx rfl (hb hby at_356) rfl rfl) ?_
      show own_FinV p e below s _ _ _ (T11.setTop (mkF m 358 #[.val (.int p1), .val (.int p2), .val (.int p3), .val (.int y3), .val (.int y4), .val (.ref a5), .val (.int y6), .val (.int y7), .val (.int y8), .val (.int y9), .val (.int y10), .val (.int y11), .val (.ref a12), .val (.ref a13), .val (.ref a14), .val (.int (own_ln A)), .val (.int (own_ln B)), .val (.int (((own_ln A) + (own_ln B)) + (own_ln C))), .val (.int ii), .val (.int (own_ch C ((ii - (own_ln A)) - (own_ln B))))] [(.ref a5)]))
      refine own_FinV.step (fun _ => XS.iload X11.here hx rfl (hb hby at_358) rfl) ?_
      show own_FinV p e below s _ _ _ (T11.setTop (mkF m 360 #[.val (.int p1), .val (.int p2), .val (.int p3), .val (.int y3), .val (.int y4), .val (.ref a5), .val (.int y6), .val (.int y7), .val (.int y8), .val (.int y9), .val (.int y10), .val (.int y11), .val (.ref a12), .val (.ref a13), .val (.ref a14), .val (.int (own_ln A)), .val (.int (own_ln B)), .val (.int (((own_ln A) + (own_ln B)) + (own_ln C))), .val (.int ii), .val (.int (own_ch C ((ii - (own_ln A)) - (own_ln B))))] [(.int ii), (.ref a5)]))
      obtain ⟨_, T12, L12, X12, ⟨rfl, N12q, e12⟩, st12⟩ := own_callV X11 hx hZ hown (own_w hw 28 rfl) (own_w hw 29 rfl) (own_w hw 31 rfl) (own_w hw 30 rfl) (own_w hw 5 rfl) (own_w hw 32 rfl) (by decide) (rm7 l Z a0 hw a5 ii b5 k5 (own_ln (A ++ B ++ C)) (A ++ B ++ C) cs fm h0 n0 Z0 S1 hcs S2 rv E5 Fc5 Fv5 V5 (own_t1 la lb lc hi) (own_t5 la lb lc hi)) (by decide) (by decide) E5 e11 (W := 0) (g := (mkF m 360 #[.val (.int p1), .val (.int p2), .val (.int p3), .val (.int y3), .val (.int y4), .val (.ref a5), .val (.int y6), .val (.int y7), .val (.int y8), .val (.int y9), .val (.int y10), .val (.int y11), .val (.ref a12), .val (.ref a13), .val (.ref a14), .val (.int (own_ln A)), .val (.int (own_ln B)), .val (.int (((own_ln A) + (own_ln B)) + (own_ln C))), .val (.int ii), .val (.int (own_ch C ((ii - (own_ln A)) - (own_ln B))))] [(.int ii), (.ref a5)])) rfl (by rw [hml]; rfl) (argsL := [(.int ii)]) (rest := []) (lenOf pd_6 rfl) rfl rfl (by show 2 * 0 + _ ≤ _; exact Nat.le_of_eq rfl) (hb hby at_360) hcl hsl
      have N12 := Fr.app N11 N12q
      refine own_FinV.step st12 ?_
      show own_FinV p e below s _ _ _ (T12.setTop (mkF m 363 #[.val (.int p1), .val (.int p2), .val (.int p3), .val (.int y3), .val (.int y4), .val (.ref a5), .val (.int y6), .val (.int y7), .val (.int y8), .val (.int y9), .val (.int y10), .val (.int y11), .val (.ref a12), .val (.ref a13), .val (.ref a14), .val (.int (own_ln A)), .val (.int (own_ln B)), .val (.int (((own_ln A) + (own_ln B)) + (own_ln C))), .val (.int ii), .val (.int (own_ch C ((ii - (own_ln A)) - (own_ln B))))] [(.int (own_ch (A ++ B ++ C) ii))]))
      refine own_FinV.step (fun _ => XS.iload X12.here hx rfl (hb hby at_363) rfl) ?_
      show own_FinV p e below s _ _ _ (T12.setTop (mkF m 365 #[.val (.int p1), .val (.int p2), .val (.int p3), .val (.int y3), .val (.int y4), .val (.ref a5), .val (.int y6), .val (.int y7), .val (.int y8), .val (.int y9), .val (.int y10), .val (.int y11), .val (.ref a12), .val (.ref a13), .val (.ref a14), .val (.int (own_ln A)), .val (.int (own_ln B)), .val (.int (((own_ln A) + (own_ln B)) + (own_ln C))), .val (.int ii), .val (.int (own_ch C ((ii - (own_ln A)) - (own_ln B))))] [(.int (own_ch C ((ii - (own_ln A)) - (own_ln B)))), (.int (own_ch (A ++ B ++ C) ii))]))
      refine own_FinV.step (fun _ => XS.icmpNo X12.here hx rfl (hb hby at_365) rfl (XT.ii_ne_f (own_c14 la lb lc hi hc323_8).2.2)) ?_
      show own_FinV p e below s _ _ _ (T12.setTop (mkF m 368 #[.val (.int p1), .val (.int p2), .val (.int p3), .val (.int y3), .val (.int y4), .val (.ref a5), .val (.int y6), .val (.int y7), .val (.int y8), .val (.int y9), .val (.int y10), .val (.int y11), .val (.ref a12), .val (.ref a13), .val (.ref a14), .val (.int (own_ln A)), .val (.int (own_ln B)), .val (.int (((own_ln A) + (own_ln B)) + (own_ln C))), .val (.int ii), .val (.int (own_ch C ((ii - (own_ln A)) - (own_ln B))))] []))
      refine own_FinV.step (fun _ => XS.iconst X12.here hx rfl (hb hby at_368)) ?_
      show own_FinV p e below s _ _ _ (T12.setTop (mkF m 369 #[.val (.int p1), .val (.int p2), .val (.int p3), .val (.int y3), .val (.int y4), .val (.ref a5), .val (.int y6), .val (.int y7), .val (.int y8), .val (.int y9), .val (.int y10), .val (.int y11), .val (.ref a12), .val (.ref a13), .val (.ref a14), .val (.int (own_ln A)), .val (.int (own_ln B)), .val (.int (((own_ln A) + (own_ln B)) + (own_ln C))), .val (.int ii), .val (.int (own_ch C ((ii - (own_ln A)) - (own_ln B))))] [(.int (1 : Int32))]))
      refine own_FinV.step (fun _ => XS.goto X12.here hx rfl (pc0 := 369) (pc' := 373) rfl (hb hby at_369) (by decide) (by decide)) ?_
      show own_FinV p e below s _ _ _ (T12.setTop (mkF m 373 #[.val (.int p1), .val (.int p2), .val (.int p3), .val (.int y3), .val (.int y4), .val (.ref a5), .val (.int y6), .val (.int y7), .val (.int y8), .val (.int y9), .val (.int y10), .val (.int y11), .val (.ref a12), .val (.ref a13), .val (.ref a14), .val (.int (own_ln A)), .val (.int (own_ln B)), .val (.int (((own_ln A) + (own_ln B)) + (own_ln C))), .val (.int ii), .val (.int (own_ch C ((ii - (own_ln A)) - (own_ln B))))] [(.int (1 : Int32))]))
      exact own_retNV X12 hS hk e12 hZ hEL C0 hx hlk (t := .boolean) hret (by simp) (hb hby at_373) ⟨rfl, N12⟩ hcl hsl
theorem own_out0 {x : Int32} (h : x < 192) : x.toInt < 192 ∨ x.toInt > 207 := by
  rw [Int32.lt_iff_toInt_lt, show (192 : Int32).toInt = 192 by decide] at h; exact Or.inl h
theorem own_out1 {x : Int32} (h : 207 < x) : x.toInt < 192 ∨ x.toInt > 207 := by
  rw [Int32.lt_iff_toInt_lt, show (207 : Int32).toInt = 207 by decide] at h; exact Or.inr h
theorem pd_7 : parseMethodDescriptor "(I)Ljava/lang/String;" = some ⟨[.int], some (.object "java/lang/String")⟩ := by decide +kernel
set_option maxRecDepth 65536 in
set_option maxHeartbeats 40000000 in
theorem rm0 (l : Launch) (Z : State) (a0 : Array Value) (hw : ∀ d ∈ tables_1, d.before a0 Z = true) (p1 : Int32) (p2 : Int32) (p3 : Int32) (cs : Int32) (fm : Value) (h0 : Heap) (n0 : Nat) (Z0 : n0 ≤ h0.size) (hcs : ¬ (cs = (0 : Int32))) (rv : fm.isRef = true) (SS : own_Sts Z h0 cs fm) :
    own_MetV l Z tables_1 x code maxLocals ret room_1 #[(.int p1), (.int p2), (.int p3)] h0 (own_Q0 n0) := by
  refine own_enterV pn_0 ?_
  intro p e s m below meth c s₁ X0 hx hby hml hown hret hlk hnm hZ e0 hS C0
  have hEL := own_EW hw
  have hk : s₁.heap.size ≤ h0.size := by rw [e0]; exact Nat.le_refl _
  have own_wS : ∀ a ∈ Bundle.stringAtoms, a.before a0 Z = true := own_strings hw
  have hml : c.maxLocals = 20 := hml
  have N0 := Fr.nil n0
  rw [ef_0 m p1 p2 p3]
  show own_FinV p e below s _ _ _ (s₁.setTop (mkF m 0 #[.val (.int p1), .val (.int p2), .val (.int p3), .unset, .unset, .unset, .unset, .unset, .unset, .unset, .unset, .unset, .unset, .unset, .unset, .unset, .unset, .unset, .unset, .unset] []))
  refine own_FinV.step (fun _ => XS.iloadN X0.here hx rfl (hb hby at_0) rfl) ?_
  show own_FinV p e below s _ _ _ (s₁.setTop (mkF m 1 #[.val (.int p1), .val (.int p2), .val (.int p3), .unset, .unset, .unset, .unset, .unset, .unset, .unset, .unset, .unset, .unset, .unset, .unset, .unset, .unset, .unset, .unset, .unset] [(.int p2)]))
  refine own_FinV.step (fun _ => XS.iconst X0.here hx rfl (hb hby at_1)) ?_
  show own_FinV p e below s _ _ _ (s₁.setTop (mkF m 2 #[.val (.int p1), .val (.int p2), .val (.int p3), .unset, .unset, .unset, .unset, .unset, .unset, .unset, .unset, .unset, .unset, .unset, .unset, .unset, .unset, .unset, .unset, .unset] [(.int (3 : Int32)), (.int p2)]))
  refine own_FinV.step (fun _ => XS.iand X0.here hx rfl (hb hby at_2) rfl) ?_
  show own_FinV p e below s _ _ _ (s₁.setTop (mkF m 3 #[.val (.int p1), .val (.int p2), .val (.int p3), .unset, .unset, .unset, .unset, .unset, .unset, .unset, .unset, .unset, .unset, .unset, .unset, .unset, .unset, .unset, .unset, .unset] [(.int (p2 &&& (3 : Int32)))]))
  refine own_FinV.step (fun _ => XS.istoreN X0.here hx rfl (hb hby at_3) rfl (l' := #[.val (.int p1), .val (.int p2), .val (.int p3), .val (.int (p2 &&& (3 : Int32))), .unset, .unset, .unset, .unset, .unset, .unset, .unset, .unset, .unset, .unset, .unset, .unset, .unset, .unset, .unset, .unset]) rfl) ?_
  show own_FinV p e below s _ _ _ (s₁.setTop (mkF m 4 #[.val (.int p1), .val (.int p2), .val (.int p3), .val (.int (p2 &&& (3 : Int32))), .unset, .unset, .unset, .unset, .unset, .unset, .unset, .unset, .unset, .unset, .unset, .unset, .unset, .unset, .unset, .unset] []))
  refine own_FinV.step (fun _ => XS.iloadN X0.here hx rfl (hb hby at_4) rfl) ?_
  show own_FinV p e below s _ _ _ (s₁.setTop (mkF m 5 #[.val (.int p1), .val (.int p2), .val (.int p3), .val (.int (p2 &&& (3 : Int32))), .unset, .unset, .unset, .unset, .unset, .unset, .unset, .unset, .unset, .unset, .unset, .unset, .unset, .unset, .unset, .unset] [(.int (p2 &&& (3 : Int32)))]))
  have st4 : ∀ t, Steps p.tables e below (s₁.setTop (mkF m 42 #[.val (.int p1), .val (.int p2), .val (.int p3), .val (.int (p2 &&& (3 : Int32))), .val (.int (if (p2 &&& (3 : Int32)) = (0 : Int32) then p1 else (if (p2 &&& (3 : Int32)) = (1 : Int32) then ((184 : Int32) + (p1 &&& (31 : Int32))) else ((192 : Int32) ||| (p1 &&& (15 : Int32)))))), .unset, .unset, .unset, .unset, .unset, .unset, .unset, .unset, .unset, .unset, .unset, .unset, .unset, .unset, .unset] [])) t → Steps p.tables e below (s₁.setTop (mkF m 5 #[.val (.int p1), .val (.int p2), .val (.int p3), .val (.int (p2 &&& (3 : Int32))), .unset, .unset, .unset, .unset, .unset, .unset, .unset, .unset, .unset, .unset, .unset, .unset, .unset, .unset, .unset, .unset] [(.int (p2 &&& (3 : Int32)))])) t := by
    intro t kt
    by_cases hc5_1 : (p2 &&& (3 : Int32)) = (0 : Int32)
    · simp only [if_pos hc5_1] at kt
      refine XS.ifNo X0.here hx rfl (hb hby at_5) rfl (XT.i0_ne_f hc5_1) ?_
      show Steps p.tables e below (s₁.setTop (mkF m 8 #[.val (.int p1), .val (.int p2), .val (.int p3), .val (.int (p2 &&& (3 : Int32))), .unset, .unset, .unset, .unset, .unset, .unset, .unset, .unset, .unset, .unset, .unset, .unset, .unset, .unset, .unset, .unset] [])) _
      refine XS.iloadN X0.here hx rfl (hb hby at_8) rfl ?_
      show Steps p.tables e below (s₁.setTop (mkF m 9 #[.val (.int p1), .val (.int p2), .val (.int p3), .val (.int (p2 &&& (3 : Int32))), .unset, .unset, .unset, .unset, .unset, .unset, .unset, .unset, .unset, .unset, .unset, .unset, .unset, .unset, .unset, .unset] [(.int p1)])) _
      refine XS.istore X0.here hx rfl (hb hby at_9) rfl (l' := #[.val (.int p1), .val (.int p2), .val (.int p3), .val (.int (p2 &&& (3 : Int32))), .val (.int p1), .unset, .unset, .unset, .unset, .unset, .unset, .unset, .unset, .unset, .unset, .unset, .unset, .unset, .unset, .unset]) rfl ?_
      show Steps p.tables e below (s₁.setTop (mkF m 11 #[.val (.int p1), .val (.int p2), .val (.int p3), .val (.int (p2 &&& (3 : Int32))), .val (.int p1), .unset, .unset, .unset, .unset, .unset, .unset, .unset, .unset, .unset, .unset, .unset, .unset, .unset, .unset, .unset] [])) _
      refine XS.goto X0.here hx rfl (pc0 := 11) (pc' := 42) rfl (hb hby at_11) (by decide) (by decide) ?_
      exact kt
    · simp only [if_neg hc5_1] at kt
      refine XS.ifYes X0.here hx rfl (pc0 := 5) (pc' := 14) rfl (hb hby at_5) rfl (XT.i0_ne_t hc5_1) (by decide) (by decide) ?_
      show Steps p.tables e below (s₁.setTop (mkF m 14 #[.val (.int p1), .val (.int p2), .val (.int p3), .val (.int (p2 &&& (3 : Int32))), .unset, .unset, .unset, .unset, .unset, .unset, .unset, .unset, .unset, .unset, .unset, .unset, .unset, .unset, .unset, .unset] [])) _
      refine XS.iloadN X0.here hx rfl (hb hby at_14) rfl ?_
      show Steps p.tables e below (s₁.setTop (mkF m 15 #[.val (.int p1), .val (.int p2), .val (.int p3), .val (.int (p2 &&& (3 : Int32))), .unset, .unset, .unset, .unset, .unset, .unset, .unset, .unset, .unset, .unset, .unset, .unset, .unset, .unset, .unset, .unset] [(.int (p2 &&& (3 : Int32)))])) _
      refine XS.iconst X0.here hx rfl (hb hby at_15) ?_
      show Steps p.tables e below (s₁.setTop (mkF m 16 #[.val (.int p1), .val (.int p2), .val (.int p3), .val (.int (p2 &&& (3 : Int32))), .unset, .unset, .unset, .unset, .unset, .unset, .unset, .unset, .unset, .unset, .unset, .unset, .unset, .unset, .unset, .unset] [(.int (1 : Int32)), (.int (p2 &&& (3 : Int32)))])) _
      have st3 : ∀ t, Steps p.tables e below (s₁.setTop (mkF m 42 #[.val (.int p1), .val (.int p2), .val (.int p3), .val (.int (p2 &&& (3 : Int32))), .val (.int (if (p2 &&& (3 : Int32)) = (1 : Int32) then ((184 : Int32) + (p1 &&& (31 : Int32))) else ((192 : Int32) ||| (p1 &&& (15 : Int32))))), .unset, .unset, .unset, .unset, .unset, .unset, .unset, .unset, .unset, .unset, .unset, .unset, .unset, .unset, .unset] [])) t → Steps p.tables e below (s₁.setTop (mkF m 16 #[.val (.int p1), .val (.int p2), .val (.int p3), .val (.int (p2 &&& (3 : Int32))), .unset, .unset, .unset, .unset, .unset, .unset, .unset, .unset, .unset, .unset, .unset, .unset, .unset, .unset, .unset, .unset] [(.int (1 : Int32)), (.int (p2 &&& (3 : Int32)))])) t := by
        intro t kt
        by_cases hc16_2 : (p2 &&& (3 : Int32)) = (1 : Int32)
        · simp only [if_pos hc16_2] at kt
          refine XS.icmpNo X0.here hx rfl (hb hby at_16) rfl (XT.ii_ne_f hc16_2) ?_
          show Steps p.tables e below (s₁.setTop (mkF m 19 #[.val (.int p1), .val (.int p2), .val (.int p3), .val (.int (p2 &&& (3 : Int32))), .unset, .unset, .unset, .unset, .unset, .unset, .unset, .unset, .unset, .unset, .unset, .unset, .unset, .unset, .unset, .unset] [])) _
          refine XS.sipush X0.here hx rfl (hb hby at_19) ?_
          show Steps p.tables e below (s₁.setTop (mkF m 22 #[.val (.int p1), .val (.int p2), .val (.int p3), .val (.int (p2 &&& (3 : Int32))), .unset, .unset, .unset, .unset, .unset, .unset, .unset, .unset, .unset, .unset, .unset, .unset, .unset, .unset, .unset, .unset] [(.int (184 : Int32))])) _
          refine XS.iloadN X0.here hx rfl (hb hby at_22) rfl ?_
          show Steps p.tables e below (s₁.setTop (mkF m 23 #[.val (.int p1), .val (.int p2), .val (.int p3), .val (.int (p2 &&& (3 : Int32))), .unset, .unset, .unset, .unset, .unset, .unset, .unset, .unset, .unset, .unset, .unset, .unset, .unset, .unset, .unset, .unset] [(.int p1), (.int (184 : Int32))])) _
          refine XS.bipush X0.here hx rfl (hb hby at_23) ?_
          show Steps p.tables e below (s₁.setTop (mkF m 25 #[.val (.int p1), .val (.int p2), .val (.int p3), .val (.int (p2 &&& (3 : Int32))), .unset, .unset, .unset, .unset, .unset, .unset, .unset, .unset, .unset, .unset, .unset, .unset, .unset, .unset, .unset, .unset] [(.int (31 : Int32)), (.int p1), (.int (184 : Int32))])) _
          refine XS.iand X0.here hx rfl (hb hby at_25) rfl ?_
          show Steps p.tables e below (s₁.setTop (mkF m 26 #[.val (.int p1), .val (.int p2), .val (.int p3), .val (.int (p2 &&& (3 : Int32))), .unset, .unset, .unset, .unset, .unset, .unset, .unset, .unset, .unset, .unset, .unset, .unset, .unset, .unset, .unset, .unset] [(.int (p1 &&& (31 : Int32))), (.int (184 : Int32))])) _
          refine XS.iadd X0.here hx rfl (hb hby at_26) rfl ?_
          show Steps p.tables e below (s₁.setTop (mkF m 27 #[.val (.int p1), .val (.int p2), .val (.int p3), .val (.int (p2 &&& (3 : Int32))), .unset, .unset, .unset, .unset, .unset, .unset, .unset, .unset, .unset, .unset, .unset, .unset, .unset, .unset, .unset, .unset] [(.int ((184 : Int32) + (p1 &&& (31 : Int32))))])) _
          refine XS.istore X0.here hx rfl (hb hby at_27) rfl (l' := #[.val (.int p1), .val (.int p2), .val (.int p3), .val (.int (p2 &&& (3 : Int32))), .val (.int ((184 : Int32) + (p1 &&& (31 : Int32)))), .unset, .unset, .unset, .unset, .unset, .unset, .unset, .unset, .unset, .unset, .unset, .unset, .unset, .unset, .unset]) rfl ?_
          show Steps p.tables e below (s₁.setTop (mkF m 29 #[.val (.int p1), .val (.int p2), .val (.int p3), .val (.int (p2 &&& (3 : Int32))), .val (.int ((184 : Int32) + (p1 &&& (31 : Int32)))), .unset, .unset, .unset, .unset, .unset, .unset, .unset, .unset, .unset, .unset, .unset, .unset, .unset, .unset, .unset] [])) _
          refine XS.goto X0.here hx rfl (pc0 := 29) (pc' := 42) rfl (hb hby at_29) (by decide) (by decide) ?_
          exact kt
        · simp only [if_neg hc16_2] at kt
          refine XS.icmpYes X0.here hx rfl (pc0 := 16) (pc' := 32) rfl (hb hby at_16) rfl (XT.ii_ne_t hc16_2) (by decide) (by decide) ?_
          show Steps p.tables e below (s₁.setTop (mkF m 32 #[.val (.int p1), .val (.int p2), .val (.int p3), .val (.int (p2 &&& (3 : Int32))), .unset, .unset, .unset, .unset, .unset, .unset, .unset, .unset, .unset, .unset, .unset, .unset, .unset, .unset, .unset, .unset] [])) _
          refine XS.sipush X0.here hx rfl (hb hby at_32) ?_
          show Steps p.tables e below (s₁.setTop (mkF m 35 #[.val (.int p1), .val (.int p2), .val (.int p3), .val (.int (p2 &&& (3 : Int32))), .unset, .unset, .unset, .unset, .unset, .unset, .unset, .unset, .unset, .unset, .unset, .unset, .unset, .unset, .unset, .unset] [(.int (192 : Int32))])) _
          refine XS.iloadN X0.here hx rfl (hb hby at_35) rfl ?_
          show Steps p.tables e below (s₁.setTop (mkF m 36 #[.val (.int p1), .val (.int p2), .val (.int p3), .val (.int (p2 &&& (3 : Int32))), .unset, .unset, .unset, .unset, .unset, .unset, .unset, .unset, .unset, .unset, .unset, .unset, .unset, .unset, .unset, .unset] [(.int p1), (.int (192 : Int32))])) _
          refine XS.bipush X0.here hx rfl (hb hby at_36) ?_
          show Steps p.tables e below (s₁.setTop (mkF m 38 #[.val (.int p1), .val (.int p2), .val (.int p3), .val (.int (p2 &&& (3 : Int32))), .unset, .unset, .unset, .unset, .unset, .unset, .unset, .unset, .unset, .unset, .unset, .unset, .unset, .unset, .unset, .unset] [(.int (15 : Int32)), (.int p1), (.int (192 : Int32))])) _
          refine XS.iand X0.here hx rfl (hb hby at_38) rfl ?_
          show Steps p.tables e below (s₁.setTop (mkF m 39 #[.val (.int p1), .val (.int p2), .val (.int p3), .val (.int (p2 &&& (3 : Int32))), .unset, .unset, .unset, .unset, .unset, .unset, .unset, .unset, .unset, .unset, .unset, .unset, .unset, .unset, .unset, .unset] [(.int (p1 &&& (15 : Int32))), (.int (192 : Int32))])) _
          refine XS.ior X0.here hx rfl (hb hby at_39) rfl ?_
          show Steps p.tables e below (s₁.setTop (mkF m 40 #[.val (.int p1), .val (.int p2), .val (.int p3), .val (.int (p2 &&& (3 : Int32))), .unset, .unset, .unset, .unset, .unset, .unset, .unset, .unset, .unset, .unset, .unset, .unset, .unset, .unset, .unset, .unset] [(.int ((192 : Int32) ||| (p1 &&& (15 : Int32))))])) _
          refine XS.istore X0.here hx rfl (hb hby at_40) rfl (l' := #[.val (.int p1), .val (.int p2), .val (.int p3), .val (.int (p2 &&& (3 : Int32))), .val (.int ((192 : Int32) ||| (p1 &&& (15 : Int32)))), .unset, .unset, .unset, .unset, .unset, .unset, .unset, .unset, .unset, .unset, .unset, .unset, .unset, .unset, .unset]) rfl ?_
          exact kt
      refine st3 _ ?_
      exact kt
  refine own_FinV.step st4 ?_
  show own_FinV p e below s _ _ _ (s₁.setTop (mkF m 42 #[.val (.int p1), .val (.int p2), .val (.int p3), .val (.int (p2 &&& (3 : Int32))), .val (.int (if (p2 &&& (3 : Int32)) = (0 : Int32) then p1 else (if (p2 &&& (3 : Int32)) = (1 : Int32) then ((184 : Int32) + (p1 &&& (31 : Int32))) else ((192 : Int32) ||| (p1 &&& (15 : Int32)))))), .unset, .unset, .unset, .unset, .unset, .unset, .unset, .unset, .unset, .unset, .unset, .unset, .unset, .unset, .unset] []))
  generalize hmm : (if (p2 &&& (3 : Int32)) = (0 : Int32) then p1 else (if (p2 &&& (3 : Int32)) = (1 : Int32) then ((184 : Int32) + (p1 &&& (31 : Int32))) else ((192 : Int32) ||| (p1 &&& (15 : Int32))))) = mm
  rcases own_mm mm with hA | hA | rfl | rfl | rfl | rfl | rfl | rfl | rfl | rfl | rfl | rfl | rfl | rfl | rfl | rfl | rfl | rfl
  ·
    show own_FinV p e below s _ _ _ (s₁.setTop (mkF m 42 #[.val (.int p1), .val (.int p2), .val (.int p3), .val (.int (p2 &&& (3 : Int32))), .val (.int mm), .unset, .unset, .unset, .unset, .unset, .unset, .unset, .unset, .unset, .unset, .unset, .unset, .unset, .unset, .unset] []))
    refine own_FinV.step (fun _ => XS.iload X0.here hx rfl (hb hby at_42) rfl) ?_
    show own_FinV p e below s _ _ _ (s₁.setTop (mkF m 44 #[.val (.int p1), .val (.int p2), .val (.int p3), .val (.int (p2 &&& (3 : Int32))), .val (.int mm), .unset, .unset, .unset, .unset, .unset, .unset, .unset, .unset, .unset, .unset, .unset, .unset, .unset, .unset, .unset] [(.int mm)]))
    obtain ⟨_, T5, L5, k5, X5, ⟨rfl, N5q, E5⟩, hS5, hk5, hZ5, hown5, C5, st5⟩ := own_callSV (s := s) (vm0 := s.vm) X0 hx hZ hown (own_w hw 0 rfl) (own_w hw 1 rfl) (own_w hw 2 rfl) (own_w hw 3 rfl) (by decide) (rm8_out l Z a0 hw mm h0 n0 Z0 (own_out0 hA)) (by decide) (by decide) hS hk hEL C0 e0 (W := 0) (g := (mkF m 44 #[.val (.int p1), .val (.int p2), .val (.int p3), .val (.int (p2 &&& (3 : Int32))), .val (.int mm), .unset, .unset, .unset, .unset, .unset, .unset, .unset, .unset, .unset, .unset, .unset, .unset, .unset, .unset, .unset] [(.int mm)])) rfl (by rw [hml]; rfl) (argsL := [(.int mm)]) (rest := []) (lenOf pd_7 rfl) rfl rfl (by show 2 * 0 + _ ≤ _; exact Nat.le_of_eq rfl) (hb hby at_44) (by decide) (by decide)
    have hS := hS5
    have hk := hk5
    have hZ := hZ5
    have hown := hown5
    have N5 := Fr.app N0 N5q
    have Z5 : n0 ≤ T5.heap.size := Nat.le_trans Z0 E5.1
    have f6 := SS.ext E5
    refine own_FinV.step st5 ?_
    show own_FinV p e below s _ _ _ (T5.setTop (mkF m 47 #[.val (.int p1), .val (.int p2), .val (.int p3), .val (.int (p2 &&& (3 : Int32))), .val (.int mm), .unset, .unset, .unset, .unset, .unset, .unset, .unset, .unset, .unset, .unset, .unset, .unset, .unset, .unset, .unset] [.null]))
    refine own_FinV.step (fun _ => XS.astore X5.here hx rfl (hb hby at_47) rfl rfl (l' := #[.val (.int p1), .val (.int p2), .val (.int p3), .val (.int (p2 &&& (3 : Int32))), .val (.int mm), .val .null, .unset, .unset, .unset, .unset, .unset, .unset, .unset, .unset, .unset, .unset, .unset, .unset, .unset, .unset]) rfl) ?_
    show own_FinV p e below s _ _ _ (T5.setTop (mkF m 49 #[.val (.int p1), .val (.int p2), .val (.int p3), .val (.int (p2 &&& (3 : Int32))), .val (.int mm), .val .null, .unset, .unset, .unset, .unset, .unset, .unset, .unset, .unset, .unset, .unset, .unset, .unset, .unset, .unset] []))
    refine own_FinV.step (fun _ => XS.iload X5.here hx rfl (hb hby at_49) rfl) ?_
    show own_FinV p e below s _ _ _ (T5.setTop (mkF m 51 #[.val (.int p1), .val (.int p2), .val (.int p3), .val (.int (p2 &&& (3 : Int32))), .val (.int mm), .val .null, .unset, .unset, .unset, .unset, .unset, .unset, .unset, .unset, .unset, .unset, .unset, .unset, .unset, .unset] [(.int mm)]))
    refine own_FinV.step (fun _ => XS.sipush X5.here hx rfl (hb hby at_51)) ?_
    show own_FinV p e below s _ _ _ (T5.setTop (mkF m 54 #[.val (.int p1), .val (.int p2), .val (.int p3), .val (.int (p2 &&& (3 : Int32))), .val (.int mm), .val .null, .unset, .unset, .unset, .unset, .unset, .unset, .unset, .unset, .unset, .unset, .unset, .unset, .unset, .unset] [(.int (192 : Int32)), (.int mm)]))
    refine own_FinV.step (fun _ => XS.icmpYes X5.here hx rfl (pc0 := 54) (pc' := 69) rfl (hb hby at_54) rfl (XT.ii_lt_t hA) (by decide) (by decide)) ?_
    show own_FinV p e below s _ _ _ (T5.setTop (mkF m 69 #[.val (.int p1), .val (.int p2), .val (.int p3), .val (.int (p2 &&& (3 : Int32))), .val (.int mm), .val .null, .unset, .unset, .unset, .unset, .unset, .unset, .unset, .unset, .unset, .unset, .unset, .unset, .unset, .unset] []))
    refine own_FinV.step (fun _ => XS.iconst X5.here hx rfl (hb hby at_69)) ?_
    show own_FinV p e below s _ _ _ (T5.setTop (mkF m 70 #[.val (.int p1), .val (.int p2), .val (.int p3), .val (.int (p2 &&& (3 : Int32))), .val (.int mm), .val .null, .unset, .unset, .unset, .unset, .unset, .unset, .unset, .unset, .unset, .unset, .unset, .unset, .unset, .unset] [(.int (0 : Int32))]))
    refine own_FinV.step (fun _ => XS.istore X5.here hx rfl (hb hby at_70) rfl (l' := #[.val (.int p1), .val (.int p2), .val (.int p3), .val (.int (p2 &&& (3 : Int32))), .val (.int mm), .val .null, .val (.int (0 : Int32)), .unset, .unset, .unset, .unset, .unset, .unset, .unset, .unset, .unset, .unset, .unset, .unset, .unset]) rfl) ?_
    show own_FinV p e below s _ _ _ (T5.setTop (mkF m 72 #[.val (.int p1), .val (.int p2), .val (.int p3), .val (.int (p2 &&& (3 : Int32))), .val (.int mm), .val .null, .val (.int (0 : Int32)), .unset, .unset, .unset, .unset, .unset, .unset, .unset, .unset, .unset, .unset, .unset, .unset, .unset] []))
    refine own_FinV.step (fun _ => XS.iload X5.here hx rfl (hb hby at_72) rfl) ?_
    show own_FinV p e below s _ _ _ (T5.setTop (mkF m 74 #[.val (.int p1), .val (.int p2), .val (.int p3), .val (.int (p2 &&& (3 : Int32))), .val (.int mm), .val .null, .val (.int (0 : Int32)), .unset, .unset, .unset, .unset, .unset, .unset, .unset, .unset, .unset, .unset, .unset, .unset, .unset] [(.int mm)]))
    refine own_FinV.step (fun _ => XS.bipush X5.here hx rfl (hb hby at_74)) ?_
    show own_FinV p e below s _ _ _ (T5.setTop (mkF m 76 #[.val (.int p1), .val (.int p2), .val (.int p3), .val (.int (p2 &&& (3 : Int32))), .val (.int mm), .val .null, .val (.int (0 : Int32)), .unset, .unset, .unset, .unset, .unset, .unset, .unset, .unset, .unset, .unset, .unset, .unset, .unset] [(.int (15 : Int32)), (.int mm)]))
    refine own_FinV.step (fun _ => XS.iand X5.here hx rfl (hb hby at_76) rfl) ?_
    show own_FinV p e below s _ _ _ (T5.setTop (mkF m 77 #[.val (.int p1), .val (.int p2), .val (.int p3), .val (.int (p2 &&& (3 : Int32))), .val (.int mm), .val .null, .val (.int (0 : Int32)), .unset, .unset, .unset, .unset, .unset, .unset, .unset, .unset, .unset, .unset, .unset, .unset, .unset] [(.int (mm &&& (15 : Int32)))]))
    refine own_FinV.step (fun _ => XS.istore X5.here hx rfl (hb hby at_77) rfl (l' := #[.val (.int p1), .val (.int p2), .val (.int p3), .val (.int (p2 &&& (3 : Int32))), .val (.int mm), .val .null, .val (.int (0 : Int32)), .val (.int (mm &&& (15 : Int32))), .unset, .unset, .unset, .unset, .unset, .unset, .unset, .unset, .unset, .unset, .unset, .unset]) rfl) ?_
    show own_FinV p e below s _ _ _ (T5.setTop (mkF m 79 #[.val (.int p1), .val (.int p2), .val (.int p3), .val (.int (p2 &&& (3 : Int32))), .val (.int mm), .val .null, .val (.int (0 : Int32)), .val (.int (mm &&& (15 : Int32))), .unset, .unset, .unset, .unset, .unset, .unset, .unset, .unset, .unset, .unset, .unset, .unset] []))
    refine own_FinV.step (fun _ => XS.iload X5.here hx rfl (hb hby at_79) rfl) ?_
    show own_FinV p e below s _ _ _ (T5.setTop (mkF m 81 #[.val (.int p1), .val (.int p2), .val (.int p3), .val (.int (p2 &&& (3 : Int32))), .val (.int mm), .val .null, .val (.int (0 : Int32)), .val (.int (mm &&& (15 : Int32))), .unset, .unset, .unset, .unset, .unset, .unset, .unset, .unset, .unset, .unset, .unset, .unset] [(.int (0 : Int32))]))
    refine own_FinV.step (fun _ => XS.ifYes X5.here hx rfl (pc0 := 81) (pc' := 108) rfl (hb hby at_81) rfl (XT.i0_eq_t (by decide : (0 : Int32) = (0 : Int32))) (by decide) (by decide)) ?_
    show own_FinV p e below s _ _ _ (T5.setTop (mkF m 108 #[.val (.int p1), .val (.int p2), .val (.int p3), .val (.int (p2 &&& (3 : Int32))), .val (.int mm), .val .null, .val (.int (0 : Int32)), .val (.int (mm &&& (15 : Int32))), .unset, .unset, .unset, .unset, .unset, .unset, .unset, .unset, .unset, .unset, .unset, .unset] []))
    refine own_FinV.step (fun _ => XS.iconst X5.here hx rfl (hb hby at_108)) ?_
    show own_FinV p e below s _ _ _ (T5.setTop (mkF m 109 #[.val (.int p1), .val (.int p2), .val (.int p3), .val (.int (p2 &&& (3 : Int32))), .val (.int mm), .val .null, .val (.int (0 : Int32)), .val (.int (mm &&& (15 : Int32))), .unset, .unset, .unset, .unset, .unset, .unset, .unset, .unset, .unset, .unset, .unset, .unset] [(.int (0 : Int32))]))
    refine own_FinV.step (fun _ => XS.istore X5.here hx rfl (hb hby at_109) rfl (l' := #[.val (.int p1), .val (.int p2), .val (.int p3), .val (.int (p2 &&& (3 : Int32))), .val (.int mm), .val .null, .val (.int (0 : Int32)), .val (.int (mm &&& (15 : Int32))), .val (.int (0 : Int32)), .unset, .unset, .unset, .unset, .unset, .unset, .unset, .unset, .unset, .unset, .unset]) rfl) ?_
    show own_FinV p e below s _ _ _ (T5.setTop (mkF m 111 #[.val (.int p1), .val (.int p2), .val (.int p3), .val (.int (p2 &&& (3 : Int32))), .val (.int mm), .val .null, .val (.int (0 : Int32)), .val (.int (mm &&& (15 : Int32))), .val (.int (0 : Int32)), .unset, .unset, .unset, .unset, .unset, .unset, .unset, .unset, .unset, .unset, .unset] []))
    refine own_FinV.step (fun _ => XS.iload X5.here hx rfl (hb hby at_111) rfl) ?_
    show own_FinV p e below s _ _ _ (T5.setTop (mkF m 113 #[.val (.int p1), .val (.int p2), .val (.int p3), .val (.int (p2 &&& (3 : Int32))), .val (.int mm), .val .null, .val (.int (0 : Int32)), .val (.int (mm &&& (15 : Int32))), .val (.int (0 : Int32)), .unset, .unset, .unset, .unset, .unset, .unset, .unset, .unset, .unset, .unset, .unset] [(.int (0 : Int32))]))
    refine own_FinV.step (fun _ => XS.ifNo X5.here hx rfl (hb hby at_113) rfl (XT.i0_ne_f (by decide : (0 : Int32) = (0 : Int32)))) ?_
    show own_FinV p e below s _ _ _ (T5.setTop (mkF m 116 #[.val (.int p1), .val (.int p2), .val (.int p3), .val (.int (p2 &&& (3 : Int32))), .val (.int mm), .val .null, .val (.int (0 : Int32)), .val (.int (mm &&& (15 : Int32))), .val (.int (0 : Int32)), .unset, .unset, .unset, .unset, .unset, .unset, .unset, .unset, .unset, .unset, .unset] []))
    refine own_FinV.step (fun _ => XS.aload X5.here hx rfl (hb hby at_116) rfl rfl) ?_
    show own_FinV p e below s _ _ _ (T5.setTop (mkF m 118 #[.val (.int p1), .val (.int p2), .val (.int p3), .val (.int (p2 &&& (3 : Int32))), .val (.int mm), .val .null, .val (.int (0 : Int32)), .val (.int (mm &&& (15 : Int32))), .val (.int (0 : Int32)), .unset, .unset, .unset, .unset, .unset, .unset, .unset, .unset, .unset, .unset, .unset] [.null]))
    refine own_FinV.step (fun _ => XS.ifnonnullNo X5.here hx rfl (hb hby at_118) rfl) ?_
    show own_FinV p e below s _ _ _ (T5.setTop (mkF m 121 #[.val (.int p1), .val (.int p2), .val (.int p3), .val (.int (p2 &&& (3 : Int32))), .val (.int mm), .val .null, .val (.int (0 : Int32)), .val (.int (mm &&& (15 : Int32))), .val (.int (0 : Int32)), .unset, .unset, .unset, .unset, .unset, .unset, .unset, .unset, .unset, .unset, .unset] []))
    refine own_FinV.step (fun _ => XS.iconst X5.here hx rfl (hb hby at_121)) ?_
    show own_FinV p e below s _ _ _ (T5.setTop (mkF m 122 #[.val (.int p1), .val (.int p2), .val (.int p3), .val (.int (p2 &&& (3 : Int32))), .val (.int mm), .val .null, .val (.int (0 : Int32)), .val (.int (mm &&& (15 : Int32))), .val (.int (0 : Int32)), .unset, .unset, .unset, .unset, .unset, .unset, .unset, .unset, .unset, .unset, .unset] [(.int (1 : Int32))]))
    refine own_FinV.step (fun _ => XS.goto X5.here hx rfl (pc0 := 122) (pc' := 126) rfl (hb hby at_122) (by decide) (by decide)) ?_
    show own_FinV p e below s _ _ _ (T5.setTop (mkF m 126 #[.val (.int p1), .val (.int p2), .val (.int p3), .val (.int (p2 &&& (3 : Int32))), .val (.int mm), .val .null, .val (.int (0 : Int32)), .val (.int (mm &&& (15 : Int32))), .val (.int (0 : Int32)), .unset, .unset, .unset, .unset, .unset, .unset, .unset, .unset, .unset, .unset, .unset] [(.int (1 : Int32))]))
    exact own_retNV X5 hS hk rfl hZ hEL C5 hx hlk (t := .boolean) hret (by simp) (hb hby at_126) ⟨rfl, N5⟩ (by decide) (by decide)
  ·
    show own_FinV p e below s _ _ _ (s₁.setTop (mkF m 42 #[.val (.int p1), .val (.int p2), .val (.int p3), .val (.int (p2 &&& (3 : Int32))), .val (.int mm), .unset, .unset, .unset, .unset, .unset, .unset, .unset, .unset, .unset, .unset, .unset, .unset, .unset, .unset, .unset] []))
    refine own_FinV.step (fun _ => XS.iload X0.here hx rfl (hb hby at_42) rfl) ?_
    show own_FinV p e below s _ _ _ (s₁.setTop (mkF m 44 #[.val (.int p1), .val (.int p2), .val (.int p3), .val (.int (p2 &&& (3 : Int32))), .val (.int mm), .unset, .unset, .unset, .unset, .unset, .unset, .unset, .unset, .unset, .unset, .unset, .unset, .unset, .unset, .unset] [(.int mm)]))
    obtain ⟨_, T7, L7, k7, X7, ⟨rfl, N7q, E7⟩, hS7, hk7, hZ7, hown7, C7, st7⟩ := own_callSV (s := s) (vm0 := s.vm) X0 hx hZ hown (own_w hw 0 rfl) (own_w hw 1 rfl) (own_w hw 2 rfl) (own_w hw 3 rfl) (by decide) (rm8_out l Z a0 hw mm h0 n0 Z0 (own_out1 hA.2)) (by decide) (by decide) hS hk hEL C0 e0 (W := 0) (g := (mkF m 44 #[.val (.int p1), .val (.int p2), .val (.int p3), .val (.int (p2 &&& (3 : Int32))), .val (.int mm), .unset, .unset, .unset, .unset, .unset, .unset, .unset, .unset, .unset, .unset, .unset, .unset, .unset, .unset, .unset] [(.int mm)])) rfl (by rw [hml]; rfl) (argsL := [(.int mm)]) (rest := []) (lenOf pd_7 rfl) rfl rfl (by show 2 * 0 + _ ≤ _; exact Nat.le_of_eq rfl) (hb hby at_44) (by decide) (by decide)
    have hS := hS7
    have hk := hk7
    have hZ := hZ7
    have hown := hown7
    have N7 := Fr.app N0 N7q
    have Z7 : n0 ≤ T7.heap.size := Nat.le_trans Z0 E7.1
    have f8 := SS.ext E7
    refine own_FinV.step st7 ?_
    show own_FinV p e below s _ _ _ (T7.setTop (mkF m 47 #[.val (.int p1), .val (.int p2), .val (.int p3), .val (.int (p2 &&& (3 : Int32))), .val (.int mm), .unset, .unset, .unset, .unset, .unset, .unset, .unset, .unset, .unset, .unset, .unset, .unset, .unset, .unset, .unset] [.null]))
    refine own_FinV.step (fun _ => XS.astore X7.here hx rfl (hb hby at_47) rfl rfl (l' := #[.val (.int p1), .val (.int p2), .val (.int p3), .val (.int (p2 &&& (3 : Int32))), .val (.int mm), .val .null, .unset, .unset, .unset, .unset, .unset, .unset, .unset, .unset, .unset, .unset, .unset, .unset, .unset, .unset]) rfl) ?_
    show own_FinV p e below s _ _ _ (T7.setTop (mkF m 49 #[.val (.int p1), .val (.int p2), .val (.int p3), .val (.int (p2 &&& (3 : Int32))), .val (.int mm), .val .null, .unset, .unset, .unset, .unset, .unset, .unset, .unset, .unset, .unset, .unset, .unset, .unset, .unset, .unset] []))
    refine own_FinV.step (fun _ => XS.iload X7.here hx rfl (hb hby at_49) rfl) ?_
    show own_FinV p e below s _ _ _ (T7.setTop (mkF m 51 #[.val (.int p1), .val (.int p2), .val (.int p3), .val (.int (p2 &&& (3 : Int32))), .val (.int mm), .val .null, .unset, .unset, .unset, .unset, .unset, .unset, .unset, .unset, .unset, .unset, .unset, .unset, .unset, .unset] [(.int mm)]))
    refine own_FinV.step (fun _ => XS.sipush X7.here hx rfl (hb hby at_51)) ?_
    show own_FinV p e below s _ _ _ (T7.setTop (mkF m 54 #[.val (.int p1), .val (.int p2), .val (.int p3), .val (.int (p2 &&& (3 : Int32))), .val (.int mm), .val .null, .unset, .unset, .unset, .unset, .unset, .unset, .unset, .unset, .unset, .unset, .unset, .unset, .unset, .unset] [(.int (192 : Int32)), (.int mm)]))
    refine own_FinV.step (fun _ => XS.icmpNo X7.here hx rfl (hb hby at_54) rfl (XT.ii_lt_f hA.1)) ?_
    show own_FinV p e below s _ _ _ (T7.setTop (mkF m 57 #[.val (.int p1), .val (.int p2), .val (.int p3), .val (.int (p2 &&& (3 : Int32))), .val (.int mm), .val .null, .unset, .unset, .unset, .unset, .unset, .unset, .unset, .unset, .unset, .unset, .unset, .unset, .unset, .unset] []))
    refine own_FinV.step (fun _ => XS.iload X7.here hx rfl (hb hby at_57) rfl) ?_
    show own_FinV p e below s _ _ _ (T7.setTop (mkF m 59 #[.val (.int p1), .val (.int p2), .val (.int p3), .val (.int (p2 &&& (3 : Int32))), .val (.int mm), .val .null, .unset, .unset, .unset, .unset, .unset, .unset, .unset, .unset, .unset, .unset, .unset, .unset, .unset, .unset] [(.int mm)]))
    refine own_FinV.step (fun _ => XS.sipush X7.here hx rfl (hb hby at_59)) ?_
    show own_FinV p e below s _ _ _ (T7.setTop (mkF m 62 #[.val (.int p1), .val (.int p2), .val (.int p3), .val (.int (p2 &&& (3 : Int32))), .val (.int mm), .val .null, .unset, .unset, .unset, .unset, .unset, .unset, .unset, .unset, .unset, .unset, .unset, .unset, .unset, .unset] [(.int (207 : Int32)), (.int mm)]))
    refine own_FinV.step (fun _ => XS.icmpYes X7.here hx rfl (pc0 := 62) (pc' := 69) rfl (hb hby at_62) rfl (XT.ii_gt_t hA.2) (by decide) (by decide)) ?_
    show own_FinV p e below s _ _ _ (T7.setTop (mkF m 69 #[.val (.int p1), .val (.int p2), .val (.int p3), .val (.int (p2 &&& (3 : Int32))), .val (.int mm), .val .null, .unset, .unset, .unset, .unset, .unset, .unset, .unset, .unset, .unset, .unset, .unset, .unset, .unset, .unset] []))
    refine own_FinV.step (fun _ => XS.iconst X7.here hx rfl (hb hby at_69)) ?_
    show own_FinV p e below s _ _ _ (T7.setTop (mkF m 70 #[.val (.int p1), .val (.int p2), .val (.int p3), .val (.int (p2 &&& (3 : Int32))), .val (.int mm), .val .null, .unset, .unset, .unset, .unset, .unset, .unset, .unset, .unset, .unset, .unset, .unset, .unset, .unset, .unset] [(.int (0 : Int32))]))
    refine own_FinV.step (fun _ => XS.istore X7.here hx rfl (hb hby at_70) rfl (l' := #[.val (.int p1), .val (.int p2), .val (.int p3), .val (.int (p2 &&& (3 : Int32))), .val (.int mm), .val .null, .val (.int (0 : Int32)), .unset, .unset, .unset, .unset, .unset, .unset, .unset, .unset, .unset, .unset, .unset, .unset, .unset]) rfl) ?_
    show own_FinV p e below s _ _ _ (T7.setTop (mkF m 72 #[.val (.int p1), .val (.int p2), .val (.int p3), .val (.int (p2 &&& (3 : Int32))), .val (.int mm), .val .null, .val (.int (0 : Int32)), .unset, .unset, .unset, .unset, .unset, .unset, .unset, .unset, .unset, .unset, .unset, .unset, .unset] []))
    refine own_FinV.step (fun _ => XS.iload X7.here hx rfl (hb hby at_72) rfl) ?_
    show own_FinV p e below s _ _ _ (T7.setTop (mkF m 74 #[.val (.int p1), .val (.int p2), .val (.int p3), .val (.int (p2 &&& (3 : Int32))), .val (.int mm), .val .null, .val (.int (0 : Int32)), .unset, .unset, .unset, .unset, .unset, .unset, .unset, .unset, .unset, .unset, .unset, .unset, .unset] [(.int mm)]))
    refine own_FinV.step (fun _ => XS.bipush X7.here hx rfl (hb hby at_74)) ?_
    show own_FinV p e below s _ _ _ (T7.setTop (mkF m 76 #[.val (.int p1), .val (.int p2), .val (.int p3), .val (.int (p2 &&& (3 : Int32))), .val (.int mm), .val .null, .val (.int (0 : Int32)), .unset, .unset, .unset, .unset, .unset, .unset, .unset, .unset, .unset, .unset, .unset, .unset, .unset] [(.int (15 : Int32)), (.int mm)]))
    refine own_FinV.step (fun _ => XS.iand X7.here hx rfl (hb hby at_76) rfl) ?_
    show own_FinV p e below s _ _ _ (T7.setTop (mkF m 77 #[.val (.int p1), .val (.int p2), .val (.int p3), .val (.int (p2 &&& (3 : Int32))), .val (.int mm), .val .null, .val (.int (0 : Int32)), .unset, .unset, .unset, .unset, .unset, .unset, .unset, .unset, .unset, .unset, .unset, .unset, .unset] [(.int (mm &&& (15 : Int32)))]))
    refine own_FinV.step (fun _ => XS.istore X7.here hx rfl (hb hby at_77) rfl (l' := #[.val (.int p1), .val (.int p2), .val (.int p3), .val (.int (p2 &&& (3 : Int32))), .val (.int mm), .val .null, .val (.int (0 : Int32)), .val (.int (mm &&& (15 : Int32))), .unset, .unset, .unset, .unset, .unset, .unset, .unset, .unset, .unset, .unset, .unset, .unset]) rfl) ?_
    show own_FinV p e below s _ _ _ (T7.setTop (mkF m 79 #[.val (.int p1), .val (.int p2), .val (.int p3), .val (.int (p2 &&& (3 : Int32))), .val (.int mm), .val .null, .val (.int (0 : Int32)), .val (.int (mm &&& (15 : Int32))), .unset, .unset, .unset, .unset, .unset, .unset, .unset, .unset, .unset, .unset, .unset, .unset] []))
    refine own_FinV.step (fun _ => XS.iload X7.here hx rfl (hb hby at_79) rfl) ?_
    show own_FinV p e below s _ _ _ (T7.setTop (mkF m 81 #[.val (.int p1), .val (.int p2), .val (.int p3), .val (.int (p2 &&& (3 : Int32))), .val (.int mm), .val .null, .val (.int (0 : Int32)), .val (.int (mm &&& (15 : Int32))), .unset, .unset, .unset, .unset, .unset, .unset, .unset, .unset, .unset, .unset, .unset, .unset] [(.int (0 : Int32))]))
    refine own_FinV.step (fun _ => XS.ifYes X7.here hx rfl (pc0 := 81) (pc' := 108) rfl (hb hby at_81) rfl (XT.i0_eq_t (by decide : (0 : Int32) = (0 : Int32))) (by decide) (by decide)) ?_
    show own_FinV p e below s _ _ _ (T7.setTop (mkF m 108 #[.val (.int p1), .val (.int p2), .val (.int p3), .val (.int (p2 &&& (3 : Int32))), .val (.int mm), .val .null, .val (.int (0 : Int32)), .val (.int (mm &&& (15 : Int32))), .unset, .unset, .unset, .unset, .unset, .unset, .unset, .unset, .unset, .unset, .unset, .unset] []))
    refine own_FinV.step (fun _ => XS.iconst X7.here hx rfl (hb hby at_108)) ?_
    show own_FinV p e below s _ _ _ (T7.setTop (mkF m 109 #[.val (.int p1), .val (.int p2), .val (.int p3), .val (.int (p2 &&& (3 : Int32))), .val (.int mm), .val .null, .val (.int (0 : Int32)), .val (.int (mm &&& (15 : Int32))), .unset, .unset, .unset, .unset, .unset, .unset, .unset, .unset, .unset, .unset, .unset, .unset] [(.int (0 : Int32))]))
    refine own_FinV.step (fun _ => XS.istore X7.here hx rfl (hb hby at_109) rfl (l' := #[.val (.int p1), .val (.int p2), .val (.int p3), .val (.int (p2 &&& (3 : Int32))), .val (.int mm), .val .null, .val (.int (0 : Int32)), .val (.int (mm &&& (15 : Int32))), .val (.int (0 : Int32)), .unset, .unset, .unset, .unset, .unset, .unset, .unset, .unset, .unset, .unset, .unset]) rfl) ?_
    show own_FinV p e below s _ _ _ (T7.setTop (mkF m 111 #[.val (.int p1), .val (.int p2), .val (.int p3), .val (.int (p2 &&& (3 : Int32))), .val (.int mm), .val .null, .val (.int (0 : Int32)), .val (.int (mm &&& (15 : Int32))), .val (.int (0 : Int32)), .unset, .unset, .unset, .unset, .unset, .unset, .unset, .unset, .unset, .unset, .unset] []))
    refine own_FinV.step (fun _ => XS.iload X7.here hx rfl (hb hby at_111) rfl) ?_
    show own_FinV p e below s _ _ _ (T7.setTop (mkF m 113 #[.val (.int p1), .val (.int p2), .val (.int p3), .val (.int (p2 &&& (3 : Int32))), .val (.int mm), .val .null, .val (.int (0 : Int32)), .val (.int (mm &&& (15 : Int32))), .val (.int (0 : Int32)), .unset, .unset, .unset, .unset, .unset, .unset, .unset, .unset, .unset, .unset, .unset] [(.int (0 : Int32))]))
    refine own_FinV.step (fun _ => XS.ifNo X7.here hx rfl (hb hby at_113) rfl (XT.i0_ne_f (by decide : (0 : Int32) = (0 : Int32)))) ?_
    show own_FinV p e below s _ _ _ (T7.setTop (mkF m 116 #[.val (.int p1), .val (.int p2), .val (.int p3), .val (.int (p2 &&& (3 : Int32))), .val (.int mm), .val .null, .val (.int (0 : Int32)), .val (.int (mm &&& (15 : Int32))), .val (.int (0 : Int32)), .unset, .unset, .unset, .unset, .unset, .unset, .unset, .unset, .unset, .unset, .unset] []))
    refine own_FinV.step (fun _ => XS.aload X7.here hx rfl (hb hby at_116) rfl rfl) ?_
    show own_FinV p e below s _ _ _ (T7.setTop (mkF m 118 #[.val (.int p1), .val (.int p2), .val (.int p3), .val (.int (p2 &&& (3 : Int32))), .val (.int mm), .val .null, .val (.int (0 : Int32)), .val (.int (mm &&& (15 : Int32))), .val (.int (0 : Int32)), .unset, .unset, .unset, .unset, .unset, .unset, .unset, .unset, .unset, .unset, .unset] [.null]))
    refine own_FinV.step (fun _ => XS.ifnonnullNo X7.here hx rfl (hb hby at_118) rfl) ?_
    show own_FinV p e below s _ _ _ (T7.setTop (mkF m 121 #[.val (.int p1), .val (.int p2), .val (.int p3), .val (.int (p2 &&& (3 : Int32))), .val (.int mm), .val .null, .val (.int (0 : Int32)), .val (.int (mm &&& (15 : Int32))), .val (.int (0 : Int32)), .unset, .unset, .unset, .unset, .unset, .unset, .unset, .unset, .unset, .unset, .unset] []))
    refine own_FinV.step (fun _ => XS.iconst X7.here hx rfl (hb hby at_121)) ?_
    show own_FinV p e below s _ _ _ (T7.setTop (mkF m 122 #[.val (.int p1), .val (.int p2), .val (.int p3), .val (.int (p2 &&& (3 : Int32))), .val (.int mm), .val .null, .val (.int (0 : Int32)), .val (.int (mm &&& (15 : Int32))), .val (.int (0 : Int32)), .unset, .unset, .unset, .unset, .unset, .unset, .unset, .unset, .unset, .unset, .unset] [(.int (1 : Int32))]))
    refine own_FinV.step (fun _ => XS.goto X7.here hx rfl (pc0 := 122) (pc' := 126) rfl (hb hby at_122) (by decide) (by decide)) ?_
    show own_FinV p e below s _ _ _ (T7.setTop (mkF m 126 #[.val (.int p1), .val (.int p2), .val (.int p3), .val (.int (p2 &&& (3 : Int32))), .val (.int mm), .val .null, .val (.int (0 : Int32)), .val (.int (mm &&& (15 : Int32))), .val (.int (0 : Int32)), .unset, .unset, .unset, .unset, .unset, .unset, .unset, .unset, .unset, .unset, .unset] [(.int (1 : Int32))]))
    exact own_retNV X7 hS hk rfl hZ hEL C7 hx hlk (t := .boolean) hret (by simp) (hb hby at_126) ⟨rfl, N7⟩ (by decide) (by decide)
  ·
    show own_FinV p e below s _ _ _ (s₁.setTop (mkF m 42 #[.val (.int p1), .val (.int p2), .val (.int p3), .val (.int (p2 &&& (3 : Int32))), .val (.int (192 : Int32)), .unset, .unset, .unset, .unset, .unset, .unset, .unset, .unset, .unset, .unset, .unset, .unset, .unset, .unset, .unset] []))
    refine own_FinV.step (fun _ => XS.iload X0.here hx rfl (hb hby at_42) rfl) ?_
    show own_FinV p e below s _ _ _ (s₁.setTop (mkF m 44 #[.val (.int p1), .val (.int p2), .val (.int p3), .val (.int (p2 &&& (3 : Int32))), .val (.int (192 : Int32)), .unset, .unset, .unset, .unset, .unset, .unset, .unset, .unset, .unset, .unset, .unset, .unset, .unset, .unset, .unset] [(.int (192 : Int32))]))
    obtain ⟨_, T9, L9, k9, X9, ⟨b9, rfl, N9q, E9, St9⟩, hS9, hk9, hZ9, hown9, C9, st9⟩ := own_callSV (s := s) (vm0 := s.vm) X0 hx hZ hown (own_w hw 0 rfl) (own_w hw 1 rfl) (own_w hw 2 rfl) (own_w hw 3 rfl) (by decide) (rm8_192 l Z a0 hw  h0 n0 Z0 ) (by decide) (by decide) hS hk hEL C0 e0 (W := 0) (g := (mkF m 44 #[.val (.int p1), .val (.int p2), .val (.int p3), .val (.int (p2 &&& (3 : Int32))), .val (.int (192 : Int32)), .unset, .unset, .unset, .unset, .unset, .unset, .unset, .unset, .unset, .unset, .unset, .unset, .unset, .unset, .unset] [(.int (192 : Int32))])) rfl (by rw [hml]; rfl) (argsL := [(.int (192 : Int32))]) (rest := []) (lenOf pd_7 rfl) rfl rfl (by show 2 * 0 + _ ≤ _; exact Nat.le_of_eq rfl) (hb hby at_44) (by decide) (by decide)
    have hS := hS9
    have hk := hk9
    have hZ := hZ9
    have hown := hown9
    have N9 := Fr.app N0 N9q
    have Z9 : n0 ≤ T9.heap.size := Nat.le_trans Z0 E9.1
    have f10 := SS.ext E9
    refine own_FinV.step st9 ?_
    show own_FinV p e below s _ _ _ (T9.setTop (mkF m 47 #[.val (.int p1), .val (.int p2), .val (.int p3), .val (.int (p2 &&& (3 : Int32))), .val (.int (192 : Int32)), .unset, .unset, .unset, .unset, .unset, .unset, .unset, .unset, .unset, .unset, .unset, .unset, .unset, .unset, .unset] [(.ref b9)]))
    refine own_FinV.step (fun _ => XS.astore X9.here hx rfl (hb hby at_47) rfl rfl (l' := #[.val (.int p1), .val (.int p2), .val (.int p3), .val (.int (p2 &&& (3 : Int32))), .val (.int (192 : Int32)), .val (.ref b9), .unset, .unset, .unset, .unset, .unset, .unset, .unset, .unset, .unset, .unset, .unset, .unset, .unset, .unset]) rfl) ?_
    show own_FinV p e below s _ _ _ (T9.setTop (mkF m 49 #[.val (.int p1), .val (.int p2), .val (.int p3), .val (.int (p2 &&& (3 : Int32))), .val (.int (192 : Int32)), .val (.ref b9), .unset, .unset, .unset, .unset, .unset, .unset, .unset, .unset, .unset, .unset, .unset, .unset, .unset, .unset] []))
    refine own_FinV.step (fun _ => XS.iload X9.here hx rfl (hb hby at_49) rfl) ?_
    show own_FinV p e below s _ _ _ (T9.setTop (mkF m 51 #[.val (.int p1), .val (.int p2), .val (.int p3), .val (.int (p2 &&& (3 : Int32))), .val (.int (192 : Int32)), .val (.ref b9), .unset, .unset, .unset, .unset, .unset, .unset, .unset, .unset, .unset, .unset, .unset, .unset, .unset, .unset] [(.int (192 : Int32))]))
    refine own_FinV.step (fun _ => XS.sipush X9.here hx rfl (hb hby at_51)) ?_
    show own_FinV p e below s _ _ _ (T9.setTop (mkF m 54 #[.val (.int p1), .val (.int p2), .val (.int p3), .val (.int (p2 &&& (3 : Int32))), .val (.int (192 : Int32)), .val (.ref b9), .unset, .unset, .unset, .unset, .unset, .unset, .unset, .unset, .unset, .unset, .unset, .unset, .unset, .unset] [(.int (192 : Int32)), (.int (192 : Int32))]))
    refine own_FinV.step (fun _ => XS.icmpNo X9.here hx rfl (hb hby at_54) rfl (XT.ii_lt_f (by decide : ¬ ((192 : Int32) < (192 : Int32))))) ?_
    show own_FinV p e below s _ _ _ (T9.setTop (mkF m 57 #[.val (.int p1), .val (.int p2), .val (.int p3), .val (.int (p2 &&& (3 : Int32))), .val (.int (192 : Int32)), .val (.ref b9), .unset, .unset, .unset, .unset, .unset, .unset, .unset, .unset, .unset, .unset, .unset, .unset, .unset, .unset] []))
    refine own_FinV.step (fun _ => XS.iload X9.here hx rfl (hb hby at_57) rfl) ?_
    show own_FinV p e below s _ _ _ (T9.setTop (mkF m 59 #[.val (.int p1), .val (.int p2), .val (.int p3), .val (.int (p2 &&& (3 : Int32))), .val (.int (192 : Int32)), .val (.ref b9), .unset, .unset, .unset, .unset, .unset, .unset, .unset, .unset, .unset, .unset, .unset, .unset, .unset, .unset] [(.int (192 : Int32))]))
    refine own_FinV.step (fun _ => XS.sipush X9.here hx rfl (hb hby at_59)) ?_
    show own_FinV p e below s _ _ _ (T9.setTop (mkF m 62 #[.val (.int p1), .val (.int p2), .val (.int p3), .val (.int (p2 &&& (3 : Int32))), .val (.int (192 : Int32)), .val (.ref b9), .unset, .unset, .unset, .unset, .unset, .unset, .unset, .unset, .unset, .unset, .unset, .unset, .unset, .unset] [(.int (207 : Int32)), (.int (192 : Int32))]))
    refine own_FinV.step (fun _ => XS.icmpNo X9.here hx rfl (hb hby at_62) rfl (XT.ii_gt_f (by decide : ¬ ((207 : Int32) < (192 : Int32))))) ?_
    show own_FinV p e below s _ _ _ (T9.setTop (mkF m 65 #[.val (.int p1), .val (.int p2), .val (.int p3), .val (.int (p2 &&& (3 : Int32))), .val (.int (192 : Int32)), .val (.ref b9), .unset, .unset, .unset, .unset, .unset, .unset, .unset, .unset, .unset, .unset, .unset, .unset, .unset, .unset] []))
    refine own_FinV.step (fun _ => XS.iconst X9.here hx rfl (hb hby at_65)) ?_
    show own_FinV p e below s _ _ _ (T9.setTop (mkF m 66 #[.val (.int p1), .val (.int p2), .val (.int p3), .val (.int (p2 &&& (3 : Int32))), .val (.int (192 : Int32)), .val (.ref b9), .unset, .unset, .unset, .unset, .unset, .unset, .unset, .unset, .unset, .unset, .unset, .unset, .unset, .unset] [(.int (1 : Int32))]))
    refine own_FinV.step (fun _ => XS.goto X9.here hx rfl (pc0 := 66) (pc' := 70) rfl (hb hby at_66) (by decide) (by decide)) ?_
    show own_FinV p e below s _ _ _ (T9.setTop (mkF m 70 #[.val (.int p1), .val (.int p2), .val (.int p3), .val (.int (p2 &&& (3 : Int32))), .val (.int (192 : Int32)), .val (.ref b9), .unset, .unset, .unset, .unset, .unset, .unset, .unset, .unset, .unset, .unset, .unset, .unset, .unset, .unset] [(.int (1 : Int32))]))
    refine own_FinV.step (fun _ => XS.istore X9.here hx rfl (hb hby at_70) rfl (l' := #[.val (.int p1), .val (.int p2), .val (.int p3), .val (.int (p2 &&& (3 : Int32))), .val (.int (192 : Int32)), .val (.ref b9), .val (.int (1 : Int32)), .unset, .unset, .unset, .unset, .unset, .unset, .unset, .unset, .unset, .unset, .unset, .unset, .unset]) rfl) ?_
    show own_FinV p e below s _ _ _ (T9.setTop (mkF m 72 #[.val (.int p1), .val (.int p2), .val (.int p3), .val (.int (p2 &&& (3 : Int32))), .val (.int (192 : Int32)), .val (.ref b9), .val (.int (1 : Int32)), .unset, .unset, .unset, .unset, .unset, .unset, .unset, .unset, .unset, .unset, .unset, .unset, .unset] []))
    refine own_FinV.step (fun _ => XS.iload X9.here hx rfl (hb hby at_72) rfl) ?_
    show own_FinV p e below s _ _ _ (T9.setTop (mkF m 74 #[.val (.int p1), .val (.int p2), .val (.int p3), .val (.int (p2 &&& (3 : Int32))), .val (.int (192 : Int32)), .val (.ref b9), .val (.int (1 : Int32)), .unset, .unset, .unset, .unset, .unset, .unset, .unset, .unset, .unset, .unset, .unset, .unset, .unset] [(.int (192 : Int32))]))
    refine own_FinV.step (fun _ => XS.bipush X9.here hx rfl (hb hby at_74)) ?_
    show own_FinV p e below s _ _ _ (T9.setTop (mkF m 76 #[.val (.int p1), .val (.int p2), .val (.int p3), .val (.int (p2 &&& (3 : Int32))), .val (.int (192 : Int32)), .val (.ref b9), .val (.int (1 : Int32)), .unset, .unset, .unset, .unset, .unset, .unset, .unset, .unset, .unset, .unset, .unset, .unset, .unset] [(.int (15 : Int32)), (.int (192 : Int32))]))
    refine own_FinV.step (fun _ => XS.iand X9.here hx rfl (hb hby at_76) rfl) ?_
    show own_FinV p e below s _ _ _ (T9.setTop (mkF m 77 #[.val (.int p1), .val (.int p2), .val (.int p3), .val (.int (p2 &&& (3 : Int32))), .val (.int (192 : Int32)), .val (.ref b9), .val (.int (1 : Int32)), .unset, .unset, .unset, .unset, .unset, .unset, .unset, .unset, .unset, .unset, .unset, .unset, .unset] [(.int (0 : Int32))]))
    refine own_FinV.step (fun _ => XS.istore X9.here hx rfl (hb hby at_77) rfl (l' := #[.val (.int p1), .val (.int p2), .val (.int p3), .val (.int (p2 &&& (3 : Int32))), .val (.int (192 : Int32)), .val (.ref b9), .val (.int (1 : Int32)), .val (.int (0 : Int32)), .unset, .unset, .unset, .unset, .unset, .unset, .unset, .unset, .unset, .unset, .unset, .unset]) rfl) ?_
    show own_FinV p e below s _ _ _ (T9.setTop (mkF m 79 #[.val (.int p1), .val (.int p2), .val (.int p3), .val (.int (p2 &&& (3 : Int32))), .val (.int (192 : Int32)), .val (.ref b9), .val (.int (1 : Int32)), .val (.int (0 : Int32)), .unset, .unset, .unset, .unset, .unset, .unset, .unset, .unset, .unset, .unset, .unset, .unset] []))
    refine own_FinV.step (fun _ => XS.iload X9.here hx rfl (hb hby at_79) rfl) ?_
    show own_FinV p e below s _ _ _ (T9.setTop (mkF m 81 #[.val (.int p1), .val (.int p2), .val (.int p3), .val (.int (p2 &&& (3 : Int32))), .val (.int (192 : Int32)), .val (.ref b9), .val (.int (1 : Int32)), .val (.int (0 : Int32)), .unset, .unset, .unset, .unset, .unset, .unset, .unset, .unset, .unset, .unset, .unset, .unset] [(.int (1 : Int32))]))
    refine own_FinV.step (fun _ => XS.ifNo X9.here hx rfl (hb hby at_81) rfl (XT.i0_eq_f (by decide : ¬ ((1 : Int32) = (0 : Int32))))) ?_
    show own_FinV p e below s _ _ _ (T9.setTop (mkF m 84 #[.val (.int p1), .val (.int p2), .val (.int p3), .val (.int (p2 &&& (3 : Int32))), .val (.int (192 : Int32)), .val (.ref b9), .val (.int (1 : Int32)), .val (.int (0 : Int32)), .unset, .unset, .unset, .unset, .unset, .unset, .unset, .unset, .unset, .unset, .unset, .unset] []))
    refine own_FinV.step (fun _ => XS.iload X9.here hx rfl (hb hby at_84) rfl) ?_
    show own_FinV p e below s _ _ _ (T9.setTop (mkF m 86 #[.val (.int p1), .val (.int p2), .val (.int p3), .val (.int (p2 &&& (3 : Int32))), .val (.int (192 : Int32)), .val (.ref b9), .val (.int (1 : Int32)), .val (.int (0 : Int32)), .unset, .unset, .unset, .unset, .unset, .unset, .unset, .unset, .unset, .unset, .unset, .unset] [(.int (0 : Int32))]))
    refine own_FinV.step (fun _ => XS.iconst X9.here hx rfl (hb hby at_86)) ?_
    show own_FinV p e below s _ _ _ (T9.setTop (mkF m 87 #[.val (.int p1), .val (.int p2), .val (.int p3), .val (.int (p2 &&& (3 : Int32))), .val (.int (192 : Int32)), .val (.ref b9), .val (.int (1 : Int32)), .val (.int (0 : Int32)), .unset, .unset, .unset, .unset, .unset, .unset, .unset, .unset, .unset, .unset, .unset, .unset] [(.int (4 : Int32)), (.int (0 : Int32))]))
    refine own_FinV.step (fun _ => XS.icmpNo X9.here hx rfl (hb hby at_87) rfl (XT.ii_eq_f (by decide : ¬ ((0 : Int32) = (4 : Int32))))) ?_
    show own_FinV p e below s _ _ _ (T9.setTop (mkF m 90 #[.val (.int p1), .val (.int p2), .val (.int p3), .val (.int (p2 &&& (3 : Int32))), .val (.int (192 : Int32)), .val (.ref b9), .val (.int (1 : Int32)), .val (.int (0 : Int32)), .unset, .unset, .unset, .unset, .unset, .unset, .unset, .unset, .unset, .unset, .unset, .unset] []))
    refine own_FinV.step (fun _ => XS.iload X9.here hx rfl (hb hby at_90) rfl) ?_
    show own_FinV p e below s _ _ _ (T9.setTop (mkF m 92 #[.val (.int p1), .val (.int p2), .val (.int p3), .val (.int (p2 &&& (3 : Int32))), .val (.int (192 : Int32)), .val (.ref b9), .val (.int (1 : Int32)), .val (.int (0 : Int32)), .unset, .unset, .unset, .unset, .unset, .unset, .unset, .unset, .unset, .unset, .unset, .unset] [(.int (0 : Int32))]))
    refine own_FinV.step (fun _ => XS.bipush X9.here hx rfl (hb hby at_92)) ?_
    show own_FinV p e below s _ _ _ (T9.setTop (mkF m 94 #[.val (.int p1), .val (.int p2), .val (.int p3), .val (.int (p2 &&& (3 : Int32))), .val (.int (192 : Int32)), .val (.ref b9), .val (.int (1 : Int32)), .val (.int (0 : Int32)), .unset, .unset, .unset, .unset, .unset, .unset, .unset, .unset, .unset, .unset, .unset, .unset] [(.int (8 : Int32)), (.int (0 : Int32))]))
    refine own_FinV.step (fun _ => XS.icmpNo X9.here hx rfl (hb hby at_94) rfl (XT.ii_eq_f (by decide : ¬ ((0 : Int32) = (8 : Int32))))) ?_
    show own_FinV p e below s _ _ _ (T9.setTop (mkF m 97 #[.val (.int p1), .val (.int p2), .val (.int p3), .val (.int (p2 &&& (3 : Int32))), .val (.int (192 : Int32)), .val (.ref b9), .val (.int (1 : Int32)), .val (.int (0 : Int32)), .unset, .unset, .unset, .unset, .unset, .unset, .unset, .unset, .unset, .unset, .unset, .unset] []))
    refine own_FinV.step (fun _ => XS.iload X9.here hx rfl (hb hby at_97) rfl) ?_
    show own_FinV p e below s _ _ _ (T9.setTop (mkF m 99 #[.val (.int p1), .val (.int p2), .val (.int p3), .val (.int (p2 &&& (3 : Int32))), .val (.int (192 : Int32)), .val (.ref b9), .val (.int (1 : Int32)), .val (.int (0 : Int32)), .unset, .unset, .unset, .unset, .unset, .unset, .unset, .unset, .unset, .unset, .unset, .unset] [(.int (0 : Int32))]))
    refine own_FinV.step (fun _ => XS.bipush X9.here hx rfl (hb hby at_99)) ?_
    show own_FinV p e below s _ _ _ (T9.setTop (mkF m 101 #[.val (.int p1), .val (.int p2), .val (.int p3), .val (.int (p2 &&& (3 : Int32))), .val (.int (192 : Int32)), .val (.ref b9), .val (.int (1 : Int32)), .val (.int (0 : Int32)), .unset, .unset, .unset, .unset, .unset, .unset, .unset, .unset, .unset, .unset, .unset, .unset] [(.int (12 : Int32)), (.int (0 : Int32))]))
    refine own_FinV.step (fun _ => XS.icmpNo X9.here hx rfl (hb hby at_101) rfl (XT.ii_eq_f (by decide : ¬ ((0 : Int32) = (12 : Int32))))) ?_
    show own_FinV p e below s _ _ _ (T9.setTop (mkF m 104 #[.val (.int p1), .val (.int p2), .val (.int p3), .val (.int (p2 &&& (3 : Int32))), .val (.int (192 : Int32)), .val (.ref b9), .val (.int (1 : Int32)), .val (.int (0 : Int32)), .unset, .unset, .unset, .unset, .unset, .unset, .unset, .unset, .unset, .unset, .unset, .unset] []))
    refine own_FinV.step (fun _ => XS.iconst X9.here hx rfl (hb hby at_104)) ?_
    show own_FinV p e below s _ _ _ (T9.setTop (mkF m 105 #[.val (.int p1), .val (.int p2), .val (.int p3), .val (.int (p2 &&& (3 : Int32))), .val (.int (192 : Int32)), .val (.ref b9), .val (.int (1 : Int32)), .val (.int (0 : Int32)), .unset, .unset, .unset, .unset, .unset, .unset, .unset, .unset, .unset, .unset, .unset, .unset] [(.int (1 : Int32))]))
    refine own_FinV.step (fun _ => XS.goto X9.here hx rfl (pc0 := 105) (pc' := 109) rfl (hb hby at_105) (by decide) (by decide)) ?_
    show own_FinV p e below s _ _ _ (T9.setTop (mkF m 109 #[.val (.int p1), .val (.int p2), .val (.int p3), .val (.int (p2 &&& (3 : Int32))), .val (.int (192 : Int32)), .val (.ref b9), .val (.int (1 : Int32)), .val (.int (0 : Int32)), .unset, .unset, .unset, .unset, .unset, .unset, .unset, .unset, .unset, .unset, .unset, .unset] [(.int (1 : Int32))]))
    refine own_FinV.step (fun _ => XS.istore X9.here hx rfl (hb hby at_109) rfl (l' := #[.val (.int p1), .val (.int p2), .val (.int p3), .val (.int (p2 &&& (3 : Int32))), .val (.int (192 : Int32)), .val (.ref b9), .val (.int (1 : Int32)), .val (.int (0 : Int32)), .val (.int (1 : Int32)), .unset, .unset, .unset, .unset, .unset, .unset, .unset, .unset, .unset, .unset, .unset]) rfl) ?_
    show own_FinV p e below s _ _ _ (T9.setTop (mkF m 111 #[.val (.int p1), .val (.int p2), .val (.int p3), .val (.int (p2 &&& (3 : Int32))), .val (.int (192 : Int32)), .val (.ref b9), .val (.int (1 : Int32)), .val (.int (0 : Int32)), .val (.int (1 : Int32)), .unset, .unset, .unset, .unset, .unset, .unset, .unset, .unset, .unset, .unset, .unset] []))
    refine own_FinV.step (fun _ => XS.iload X9.here hx rfl (hb hby at_111) rfl) ?_
    show own_FinV p e below s _ _ _ (T9.setTop (mkF m 113 #[.val (.int p1), .val (.int p2), .val (.int p3), .val (.int (p2 &&& (3 : Int32))), .val (.int (192 : Int32)), .val (.ref b9), .val (.int (1 : Int32)), .val (.int (0 : Int32)), .val (.int (1 : Int32)), .unset, .unset, .unset, .unset, .unset, .unset, .unset, .unset, .unset, .unset, .unset] [(.int (1 : Int32))]))
    refine own_FinV.step (fun _ => XS.ifYes X9.here hx rfl (pc0 := 113) (pc' := 127) rfl (hb hby at_113) rfl (XT.i0_ne_t (by decide : ¬ ((1 : Int32) = (0 : Int32)))) (by decide) (by decide)) ?_
    show own_FinV p e below s _ _ _ (T9.setTop (mkF m 127 #[.val (.int p1), .val (.int p2), .val (.int p3), .val (.int (p2 &&& (3 : Int32))), .val (.int (192 : Int32)), .val (.ref b9), .val (.int (1 : Int32)), .val (.int (0 : Int32)), .val (.int (1 : Int32)), .unset, .unset, .unset, .unset, .unset, .unset, .unset, .unset, .unset, .unset, .unset] []))
    refine own_FinV.step (fun _ => XS.aload X9.here hx rfl (hb hby at_127) rfl rfl) ?_
    show own_FinV p e below s _ _ _ (T9.setTop (mkF m 129 #[.val (.int p1), .val (.int p2), .val (.int p3), .val (.int (p2 &&& (3 : Int32))), .val (.int (192 : Int32)), .val (.ref b9), .val (.int (1 : Int32)), .val (.int (0 : Int32)), .val (.int (1 : Int32)), .unset, .unset, .unset, .unset, .unset, .unset, .unset, .unset, .unset, .unset, .unset] [(.ref b9)]))
    refine own_FinV.step (fun _ => XS.ifnonnullYes X9.here hx rfl (pc0 := 129) (pc' := 134) rfl (hb hby at_129) rfl (by decide) (by decide)) ?_
    show own_FinV p e below s _ _ _ (T9.setTop (mkF m 134 #[.val (.int p1), .val (.int p2), .val (.int p3), .val (.int (p2 &&& (3 : Int32))), .val (.int (192 : Int32)), .val (.ref b9), .val (.int (1 : Int32)), .val (.int (0 : Int32)), .val (.int (1 : Int32)), .unset, .unset, .unset, .unset, .unset, .unset, .unset, .unset, .unset, .unset, .unset] []))
    refine own_FinV.step (fun _ => XS.iload X9.here hx rfl (hb hby at_134) rfl) ?_
    show own_FinV p e below s _ _ _ (T9.setTop (mkF m 136 #[.val (.int p1), .val (.int p2), .val (.int p3), .val (.int (p2 &&& (3 : Int32))), .val (.int (192 : Int32)), .val (.ref b9), .val (.int (1 : Int32)), .val (.int (0 : Int32)), .val (.int (1 : Int32)), .unset, .unset, .unset, .unset, .unset, .unset, .unset, .unset, .unset, .unset, .unset] [(.int (0 : Int32))]))
    refine own_FinV.step (fun _ => XS.iconst X9.here hx rfl (hb hby at_136)) ?_
    show own_FinV p e below s _ _ _ (T9.setTop (mkF m 137 #[.val (.int p1), .val (.int p2), .val (.int p3), .val (.int (p2 &&& (3 : Int32))), .val (.int (192 : Int32)), .val (.ref b9), .val (.int (1 : Int32)), .val (.int (0 : Int32)), .val (.int (1 : Int32)), .unset, .unset, .unset, .unset, .unset, .unset, .unset, .unset, .unset, .unset, .unset] [(.int (4 : Int32)), (.int (0 : Int32))]))
    refine own_FinV.step (fun _ => XS.iand X9.here hx rfl (hb hby at_137) rfl) ?_
    show own_FinV p e below s _ _ _ (T9.setTop (mkF m 138 #[.val (.int p1), .val (.int p2), .val (.int p3), .val (.int (p2 &&& (3 : Int32))), .val (.int (192 : Int32)), .val (.ref b9), .val (.int (1 : Int32)), .val (.int (0 : Int32)), .val (.int (1 : Int32)), .unset, .unset, .unset, .unset, .unset, .unset, .unset, .unset, .unset, .unset, .unset] [(.int (0 : Int32))]))
    refine own_FinV.step (fun _ => XS.ifYes X9.here hx rfl (pc0 := 138) (pc' := 145) rfl (hb hby at_138) rfl (XT.i0_eq_t (by decide : (0 : Int32) = (0 : Int32))) (by decide) (by decide)) ?_
    show own_FinV p e below s _ _ _ (T9.setTop (mkF m 145 #[.val (.int p1), .val (.int p2), .val (.int p3), .val (.int (p2 &&& (3 : Int32))), .val (.int (192 : Int32)), .val (.ref b9), .val (.int (1 : Int32)), .val (.int (0 : Int32)), .val (.int (1 : Int32)), .unset, .unset, .unset, .unset, .unset, .unset, .unset, .unset, .unset, .unset, .unset] []))
    refine own_FinV.step (fun _ => XS.iconst X9.here hx rfl (hb hby at_145)) ?_
    show own_FinV p e below s _ _ _ (T9.setTop (mkF m 146 #[.val (.int p1), .val (.int p2), .val (.int p3), .val (.int (p2 &&& (3 : Int32))), .val (.int (192 : Int32)), .val (.ref b9), .val (.int (1 : Int32)), .val (.int (0 : Int32)), .val (.int (1 : Int32)), .unset, .unset, .unset, .unset, .unset, .unset, .unset, .unset, .unset, .unset, .unset] [(.int (0 : Int32))]))
    refine own_FinV.step (fun _ => XS.istore X9.here hx rfl (hb hby at_146) rfl (l' := #[.val (.int p1), .val (.int p2), .val (.int p3), .val (.int (p2 &&& (3 : Int32))), .val (.int (192 : Int32)), .val (.ref b9), .val (.int (1 : Int32)), .val (.int (0 : Int32)), .val (.int (1 : Int32)), .val (.int (0 : Int32)), .unset, .unset, .unset, .unset, .unset, .unset, .unset, .unset, .unset, .unset]) rfl) ?_
    show own_FinV p e below s _ _ _ (T9.setTop (mkF m 148 #[.val (.int p1), .val (.int p2), .val (.int p3), .val (.int (p2 &&& (3 : Int32))), .val (.int (192 : Int32)), .val (.ref b9), .val (.int (1 : Int32)), .val (.int (0 : Int32)), .val (.int (1 : Int32)), .val (.int (0 : Int32)), .unset, .unset, .unset, .unset, .unset, .unset, .unset, .unset, .unset, .unset] []))
    refine own_FinV.step (fun _ => XS.iload X9.here hx rfl (hb hby at_148) rfl) ?_
    show own_FinV p e below s _ _ _ (T9.setTop (mkF m 150 #[.val (.int p1), .val (.int p2), .val (.int p3), .val (.int (p2 &&& (3 : Int32))), .val (.int (192 : Int32)), .val (.ref b9), .val (.int (1 : Int32)), .val (.int (0 : Int32)), .val (.int (1 : Int32)), .val (.int (0 : Int32)), .unset, .unset, .unset, .unset, .unset, .unset, .unset, .unset, .unset, .unset] [(.int (0 : Int32))]))
    refine own_FinV.step (fun _ => XS.bipush X9.here hx rfl (hb hby at_150)) ?_
    show own_FinV p e below s _ _ _ (T9.setTop (mkF m 152 #[.val (.int p1), .val (.int p2), .val (.int p3), .val (.int (p2 &&& (3 : Int32))), .val (.int (192 : Int32)), .val (.ref b9), .val (.int (1 : Int32)), .val (.int (0 : Int32)), .val (.int (1 : Int32)), .val (.int (0 : Int32)), .unset, .unset, .unset, .unset, .unset, .unset, .unset, .unset, .unset, .unset] [(.int (8 : Int32)), (.int (0 : Int32))]))
    refine own_FinV.step (fun _ => XS.iand X9.here hx rfl (hb hby at_152) rfl) ?_
    show own_FinV p e below s _ _ _ (T9.setTop (mkF m 153 #[.val (.int p1), .val (.int p2), .val (.int p3), .val (.int (p2 &&& (3 : Int32))), .val (.int (192 : Int32)), .val (.ref b9), .val (.int (1 : Int32)), .val (.int (0 : Int32)), .val (.int (1 : Int32)), .val (.int (0 : Int32)), .unset, .unset, .unset, .unset, .unset, .unset, .unset, .unset, .unset, .unset] [(.int (0 : Int32))]))
    refine own_FinV.step (fun _ => XS.ifYes X9.here hx rfl (pc0 := 153) (pc' := 160) rfl (hb hby at_153) rfl (XT.i0_eq_t (by decide : (0 : Int32) = (0 : Int32))) (by decide) (by decide)) ?_
    show own_FinV p e below s _ _ _ (T9.setTop (mkF m 160 #[.val (.int p1), .val (.int p2), .val (.int p3), .val (.int (p2 &&& (3 : Int32))), .val (.int (192 : Int32)), .val (.ref b9), .val (.int (1 : Int32)), .val (.int (0 : Int32)), .val (.int (1 : Int32)), .val (.int (0 : Int32)), .unset, .unset, .unset, .unset, .unset, .unset, .unset, .unset, .unset, .unset] []))
    refine own_FinV.step (fun _ => XS.iconst X9.here hx rfl (hb hby at_160)) ?_
    show own_FinV p e below s _ _ _ (T9.setTop (mkF m 161 #[.val (.int p1), .val (.int p2), .val (.int p3), .val (.int (p2 &&& (3 : Int32))), .val (.int (192 : Int32)), .val (.ref b9), .val (.int (1 : Int32)), .val (.int (0 : Int32)), .val (.int (1 : Int32)), .val (.int (0 : Int32)), .unset, .unset, .unset, .unset, .unset, .unset, .unset, .unset, .unset, .unset] [(.int (0 : Int32))]))
    refine own_FinV.step (fun _ => XS.istore X9.here hx rfl (hb hby at_161) rfl (l' := #[.val (.int p1), .val (.int p2), .val (.int p3), .val (.int (p2 &&& (3 : Int32))), .val (.int (192 : Int32)), .val (.ref b9), .val (.int (1 : Int32)), .val (.int (0 : Int32)), .val (.int (1 : Int32)), .val (.int (0 : Int32)), .val (.int (0 : Int32)), .unset, .unset, .unset, .unset, .unset, .unset, .unset, .unset, .unset]) rfl) ?_
    show own_FinV p e below s _ _ _ (T9.setTop (mkF m 163 #[.val (.int p1), .val (.int p2), .val (.int p3), .val (.int (p2 &&& (3 : Int32))), .val (.int (192 : Int32)), .val (.ref b9), .val (.int (1 : Int32)), .val (.int (0 : Int32)), .val (.int (1 : Int32)), .val (.int (0 : Int32)), .val (.int (0 : Int32)), .unset, .unset, .unset, .unset, .unset, .unset, .unset, .unset, .unset] []))
    refine own_FinV.step (fun _ => XS.iload X9.here hx rfl (hb hby at_163) rfl) ?_
    show own_FinV p e below s _ _ _ (T9.setTop (mkF m 165 #[.val (.int p1), .val (.int p2), .val (.int p3), .val (.int (p2 &&& (3 : Int32))), .val (.int (192 : Int32)), .val (.ref b9), .val (.int (1 : Int32)), .val (.int (0 : Int32)), .val (.int (1 : Int32)), .val (.int (0 : Int32)), .val (.int (0 : Int32)), .unset, .unset, .unset, .unset, .unset, .unset, .unset, .unset, .unset] [(.int (0 : Int32))]))
    refine own_FinV.step (fun _ => XS.iconst X9.here hx rfl (hb hby at_165)) ?_
    show own_FinV p e below s _ _ _ (T9.setTop (mkF m 166 #[.val (.int p1), .val (.int p2), .val (.int p3), .val (.int (p2 &&& (3 : Int32))), .val (.int (192 : Int32)), .val (.ref b9), .val (.int (1 : Int32)), .val (.int (0 : Int32)), .val (.int (1 : Int32)), .val (.int (0 : Int32)), .val (.int (0 : Int32)), .unset, .unset, .unset, .unset, .unset, .unset, .unset, .unset, .unset] [(.int (3 : Int32)), (.int (0 : Int32))]))
    refine own_FinV.step (fun _ => XS.iand X9.here hx rfl (hb hby at_166) rfl) ?_
    show own_FinV p e below s _ _ _ (T9.setTop (mkF m 167 #[.val (.int p1), .val (.int p2), .val (.int p3), .val (.int (p2 &&& (3 : Int32))), .val (.int (192 : Int32)), .val (.ref b9), .val (.int (1 : Int32)), .val (.int (0 : Int32)), .val (.int (1 : Int32)), .val (.int (0 : Int32)), .val (.int (0 : Int32)), .unset, .unset, .unset, .unset, .unset, .unset, .unset, .unset, .unset] [(.int (0 : Int32))]))
    refine own_FinV.step (fun _ => XS.istore X9.here hx rfl (hb hby at_167) rfl (l' := #[.val (.int p1), .val (.int p2), .val (.int p3), .val (.int (p2 &&& (3 : Int32))), .val (.int (192 : Int32)), .val (.ref b9), .val (.int (1 : Int32)), .val (.int (0 : Int32)), .val (.int (1 : Int32)), .val (.int (0 : Int32)), .val (.int (0 : Int32)), .val (.int (0 : Int32)), .unset, .unset, .unset, .unset, .unset, .unset, .unset, .unset]) rfl) ?_
    show own_FinV p e below s _ _ _ (T9.setTop (mkF m 169 #[.val (.int p1), .val (.int p2), .val (.int p3), .val (.int (p2 &&& (3 : Int32))), .val (.int (192 : Int32)), .val (.ref b9), .val (.int (1 : Int32)), .val (.int (0 : Int32)), .val (.int (1 : Int32)), .val (.int (0 : Int32)), .val (.int (0 : Int32)), .val (.int (0 : Int32)), .unset, .unset, .unset, .unset, .unset, .unset, .unset, .unset] []))
    refine own_FinV.step (fun _ => XS.iload X9.here hx rfl (hb hby at_169) rfl) ?_
    show own_FinV p e below s _ _ _ (T9.setTop (mkF m 171 #[.val (.int p1), .val (.int p2), .val (.int p3), .val (.int (p2 &&& (3 : Int32))), .val (.int (192 : Int32)), .val (.ref b9), .val (.int (1 : Int32)), .val (.int (0 : Int32)), .val (.int (1 : Int32)), .val (.int (0 : Int32)), .val (.int (0 : Int32)), .val (.int (0 : Int32)), .unset, .unset, .unset, .unset, .unset, .unset, .unset, .unset] [(.int (0 : Int32))]))
    refine own_FinV.step (fun _ => XS.ifYes X9.here hx rfl (pc0 := 171) (pc' := 179) rfl (hb hby at_171) rfl (XT.i0_eq_t (by decide : (0 : Int32) = (0 : Int32))) (by decide) (by decide)) ?_
    show own_FinV p e below s _ _ _ (T9.setTop (mkF m 179 #[.val (.int p1), .val (.int p2), .val (.int p3), .val (.int (p2 &&& (3 : Int32))), .val (.int (192 : Int32)), .val (.ref b9), .val (.int (1 : Int32)), .val (.int (0 : Int32)), .val (.int (1 : Int32)), .val (.int (0 : Int32)), .val (.int (0 : Int32)), .val (.int (0 : Int32)), .unset, .unset, .unset, .unset, .unset, .unset, .unset, .unset] []))
    obtain ⟨b11, T11, h11, k11, X11, e11, E11, hS11, hk11, hZ11, hown11, St11, C11, st11⟩ := own_ldcV (s := s) (vm0 := T9.vm) X9 hx hZ hown (own_w hw 12 rfl) own_wS rfl hS hk hEL (List.mem_of_getElem? (i := 14) rfl) C9 (by decide) (g := (mkF m 179 #[.val (.int p1), .val (.int p2), .val (.int p3), .val (.int (p2 &&& (3 : Int32))), .val (.int (192 : Int32)), .val (.ref b9), .val (.int (1 : Int32)), .val (.int (0 : Int32)), .val (.int (1 : Int32)), .val (.int (0 : Int32)), .val (.int (0 : Int32)), .val (.int (0 : Int32)), .unset, .unset, .unset, .unset, .unset, .unset, .unset, .unset] [])) rfl (hb hby at_179) (n := 0) (by decide) (by decide) (by decide) (by decide)
    have hS := hS11
    have hk := hk11
    have hZ := hZ11
    have hown := hown11
    have f12 := f10.ext E11
    have f13 := St9.ext E11
    have Z11 : n0 ≤ h11.size := Nat.le_trans Z9 E11.1
    refine own_FinV.step st11 ?_
    show own_FinV p e below s _ _ _ (T11.setTop (mkF m 181 #[.val (.int p1), .val (.int p2), .val (.int p3), .val (.int (p2 &&& (3 : Int32))), .val (.int (192 : Int32)), .val (.ref b9), .val (.int (1 : Int32)), .val (.int (0 : Int32)), .val (.int (1 : Int32)), .val (.int (0 : Int32)), .val (.int (0 : Int32)), .val (.int (0 : Int32)), .unset, .unset, .unset, .unset, .unset, .unset, .unset, .unset] [(.ref b11)]))
    refine own_FinV.step (fun _ => XS.astore X11.here hx rfl (hb hby at_181) rfl rfl (l' := #[.val (.int p1), .val (.int p2), .val (.int p3), .val (.int (p2 &&& (3 : Int32))), .val (.int (192 : Int32)), .val (.ref b9), .val (.int (1 : Int32)), .val (.int (0 : Int32)), .val (.int (1 : Int32)), .val (.int (0 : Int32)), .val (.int (0 : Int32)), .val (.int (0 : Int32)), .val (.ref b11), .unset, .unset, .unset, .unset, .unset, .unset, .unset]) rfl) ?_
    show own_FinV p e below s _ _ _ (T11.setTop (mkF m 183 #[.val (.int p1), .val (.int p2), .val (.int p3), .val (.int (p2 &&& (3 : Int32))), .val (.int (192 : Int32)), .val (.ref b9), .val (.int (1 : Int32)), .val (.int (0 : Int32)), .val (.int (1 : Int32)), .val (.int (0 : Int32)), .val (.int (0 : Int32)), .val (.int (0 : Int32)), .val (.ref b11), .unset, .unset, .unset, .unset, .unset, .unset, .unset] []))
    refine own_FinV.step (fun _ => XS.iload X11.here hx rfl (hb hby at_183) rfl) ?_
    show own_FinV p e below s _ _ _ (T11.setTop (mkF m 185 #[.val (.int p1), .val (.int p2), .val (.int p3), .val (.int (p2 &&& (3 : Int32))), .val (.int (192 : Int32)), .val (.ref b9), .val (.int (1 : Int32)), .val (.int (0 : Int32)), .val (.int (1 : Int32)), .val (.int (0 : Int32)), .val (.int (0 : Int32)), .val (.int (0 : Int32)), .val (.ref b11), .unset, .unset, .unset, .unset, .unset, .unset, .unset] [(.int (0 : Int32))]))
    refine own_FinV.step (fun _ => XS.ifNo X11.here hx rfl (hb hby at_185) rfl (XT.i0_ne_f (by decide : (0 : Int32) = (0 : Int32)))) ?_
    show own_FinV p e below s _ _ _ (T11.setTop (mkF m 188 #[.val (.int p1), .val (.int p2), .val (.int p3), .val (.int (p2 &&& (3 : Int32))), .val (.int (192 : Int32)), .val (.ref b9), .val (.int (1 : Int32)), .val (.int (0 : Int32)), .val (.int (1 : Int32)), .val (.int (0 : Int32)), .val (.int (0 : Int32)), .val (.int (0 : Int32)), .val (.ref b11), .unset, .unset, .unset, .unset, .unset, .unset, .unset] []))
    obtain ⟨b14, T14, h14, k14, X14, e14, E14, hS14, hk14, hZ14, hown14, St14, C14, st14⟩ := own_ldcV (s := s) (vm0 := T11.vm) X11 hx hZ hown (own_w hw 13 rfl) own_wS e11 hS hk hEL (List.mem_of_getElem? (i := 15) rfl) C11 (by decide) (g := (mkF m 188 #[.val (.int p1), .val (.int p2), .val (.int p3), .val (.int (p2 &&& (3 : Int32))), .val (.int (192 : Int32)), .val (.ref b9), .val (.int (1 : Int32)), .val (.int (0 : Int32)), .val (.int (1 : Int32)), .val (.int (0 : Int32)), .val (.int (0 : Int32)), .val (.int (0 : Int32)), .val (.ref b11), .unset, .unset, .unset, .unset, .unset, .unset, .unset] [])) rfl (hb hby at_188) (n := 32) (by decide) (by decide) (by decide) (by decide)
    have hS := hS14
    have hk := hk14
    have hZ := hZ14
    have hown := hown14
    have f15 := f12.ext E14
    have f16 := f13.ext E14
    have f17 := St11.ext E14
    have Z14 : n0 ≤ h14.size := Nat.le_trans Z11 E14.1
    refine own_FinV.step st14 ?_
    show own_FinV p e below s _ _ _ (T14.setTop (mkF m 190 #[.val (.int p1), .val (.int p2), .val (.int p3), .val (.int (p2 &&& (3 : Int32))), .val (.int (192 : Int32)), .val (.ref b9), .val (.int (1 : Int32)), .val (.int (0 : Int32)), .val (.int (1 : Int32)), .val (.int (0 : Int32)), .val (.int (0 : Int32)), .val (.int (0 : Int32)), .val (.ref b11), .unset, .unset, .unset, .unset, .unset, .unset, .unset] [(.ref b14)]))
    refine own_FinV.step (fun _ => XS.astore X14.here hx rfl (hb hby at_190) rfl rfl (l' := #[.val (.int p1), .val (.int p2), .val (.int p3), .val (.int (p2 &&& (3 : Int32))), .val (.int (192 : Int32)), .val (.ref b9), .val (.int (1 : Int32)), .val (.int (0 : Int32)), .val (.int (1 : Int32)), .val (.int (0 : Int32)), .val (.int (0 : Int32)), .val (.int (0 : Int32)), .val (.ref b11), .val (.ref b14), .unset, .unset, .unset, .unset, .unset, .unset]) rfl) ?_
    show own_FinV p e below s _ _ _ (T14.setTop (mkF m 192 #[.val (.int p1), .val (.int p2), .val (.int p3), .val (.int (p2 &&& (3 : Int32))), .val (.int (192 : Int32)), .val (.ref b9), .val (.int (1 : Int32)), .val (.int (0 : Int32)), .val (.int (1 : Int32)), .val (.int (0 : Int32)), .val (.int (0 : Int32)), .val (.int (0 : Int32)), .val (.ref b11), .val (.ref b14), .unset, .unset, .unset, .unset, .unset, .unset] []))
    refine own_FinV.step (fun _ => XS.goto X14.here hx rfl (pc0 := 192) (pc' := 235) rfl (hb hby at_192) (by decide) (by decide)) ?_
    show own_FinV p e below s _ _ _ (T14.setTop (mkF m 235 #[.val (.int p1), .val (.int p2), .val (.int p3), .val (.int (p2 &&& (3 : Int32))), .val (.int (192 : Int32)), .val (.ref b9), .val (.int (1 : Int32)), .val (.int (0 : Int32)), .val (.int (1 : Int32)), .val (.int (0 : Int32)), .val (.int (0 : Int32)), .val (.int (0 : Int32)), .val (.ref b11), .val (.ref b14), .unset, .unset, .unset, .unset, .unset, .unset] []))
    refine own_FinV.step (fun _ => XS.iload X14.here hx rfl (hb hby at_235) rfl) ?_
    show own_FinV p e below s _ _ _ (T14.setTop (mkF m 237 #[.val (.int p1), .val (.int p2), .val (.int p3), .val (.int (p2 &&& (3 : Int32))), .val (.int (192 : Int32)), .val (.ref b9), .val (.int (1 : Int32)), .val (.int (0 : Int32)), .val (.int (1 : Int32)), .val (.int (0 : Int32)), .val (.int (0 : Int32)), .val (.int (0 : Int32)), .val (.ref b11), .val (.ref b14), .unset, .unset, .unset, .unset, .unset, .unset] [(.int (0 : Int32))]))
    refine own_FinV.step (fun _ => XS.ifYes X14.here hx rfl (pc0 := 237) (pc' := 245) rfl (hb hby at_237) rfl (XT.i0_eq_t (by decide : (0 : Int32) = (0 : Int32))) (by decide) (by decide)) ?_
    show own_FinV p e below s _ _ _ (T14.setTop (mkF m 245 #[.val (.int p1), .val (.int p2), .val (.int p3), .val (.int (p2 &&& (3 : Int32))), .val (.int (192 : Int32)), .val (.ref b9), .val (.int (1 : Int32)), .val (.int (0 : Int32)), .val (.int (1 : Int32)), .val (.int (0 : Int32)), .val (.int (0 : Int32)), .val (.int (0 : Int32)), .val (.ref b11), .val (.ref b14), .unset, .unset, .unset, .unset, .unset, .unset] []))
    obtain ⟨b18, T18, h18, k18, X18, e18, E18, hS18, hk18, hZ18, hown18, St18, C18, st18⟩ := own_ldcV (s := s) (vm0 := T14.vm) X14 hx hZ hown (own_w hw 12 rfl) own_wS e14 hS hk hEL (List.mem_of_getElem? (i := 14) rfl) C14 (by decide) (g := (mkF m 245 #[.val (.int p1), .val (.int p2), .val (.int p3), .val (.int (p2 &&& (3 : Int32))), .val (.int (192 : Int32)), .val (.ref b9), .val (.int (1 : Int32)), .val (.int (0 : Int32)), .val (.int (1 : Int32)), .val (.int (0 : Int32)), .val (.int (0 : Int32)), .val (.int (0 : Int32)), .val (.ref b11), .val (.ref b14), .unset, .unset, .unset, .unset, .unset, .unset] [])) rfl (hb hby at_245) (n := 0) (by decide) (by decide) (by decide) (by decide)
    have hS := hS18
    have hk := hk18
    have hZ := hZ18
    have hown := hown18
    have f19 := f15.ext E18
    have f20 := f16.ext E18
    have f21 := f17.ext E18
    have f22 := St14.ext E18
    have Z18 : n0 ≤ h18.size := Nat.le_trans Z14 E18.1
    refine own_FinV.step st18 ?_
    show own_FinV p e below s _ _ _ (T18.setTop (mkF m 247 #[.val (.int p1), .val (.int p2), .val (.int p3), .val (.int (p2 &&& (3 : Int32))), .val (.int (192 : Int32)), .val (.ref b9), .val (.int (1 : Int32)), .val (.int (0 : Int32)), .val (.int (1 : Int32)), .val (.int (0 : Int32)), .val (.int (0 : Int32)), .val (.int (0 : Int32)), .val (.ref b11), .val (.ref b14), .unset, .unset, .unset, .unset, .unset, .unset] [(.ref b18)]))
    refine own_FinV.step (fun _ => XS.astore X18.here hx rfl (hb hby at_247) rfl rfl (l' := #[.val (.int p1), .val (.int p2), .val (.int p3), .val (.int (p2 &&& (3 : Int32))), .val (.int (192 : Int32)), .val (.ref b9), .val (.int (1 : Int32)), .val (.int (0 : Int32)), .val (.int (1 : Int32)), .val (.int (0 : Int32)), .val (.int (0 : Int32)), .val (.int (0 : Int32)), .val (.ref b11), .val (.ref b14), .val (.ref b18), .unset, .unset, .unset, .unset, .unset]) rfl) ?_
    have hcat : own_bs "baseline" = own_bs "" ++ own_bs "baseline" ++ own_bs "" := by decide +kernel
    rw [hcat] at f20
    exact own_tail hw X18 hx hby hml hown hret hlk hZ Z18 N9 e18 hS hk C18 hcs rv f19 f20 f21 f22 St18 (by decide) (by decide) (by decide) (by decide) (by decide) (by decide)
  ·
    show own_FinV p e below s _ _ _ (s₁.setTop (mkF m 42 #[.val (.int p1), .val (.int p2), .val (.int p3), .val (.int (p2 &&& (3 : Int32))), .val (.int (193 : Int32)), .unset, .unset, .unset, .unset, .unset, .unset, .unset, .unset, .unset, .unset, .unset, .unset, .unset, .unset, .unset] []))
    refine own_FinV.step (fun _ => XS.iload X0.here hx rfl (hb hby at_42) rfl) ?_
    show own_FinV p e below s _ _ _ (s₁.setTop (mkF m 44 #[.val (.int p1), .val (.int p2), .val (.int p3), .val (.int (p2 &&& (3 : Int32))), .val (.int (193 : Int32)), .unset, .unset, .unset, .unset, .unset, .unset, .unset, .unset, .unset, .unset, .unset, .unset, .unset, .unset, .unset] [(.int (193 : Int32))]))
    obtain ⟨_, T23, L23, k23, X23, ⟨b23, rfl, N23q, E23, St23⟩, hS23, hk23, hZ23, hown23, C23, st23⟩ := own_callSV (s := s) (vm0 := s.vm) X0 hx hZ hown (own_w hw 0 rfl) (own_w hw 1 rfl) (own_w hw 2 rfl) (own_w hw 3 rfl) (by decide) (rm8_193 l Z a0 hw  h0 n0 Z0 ) (by decide) (by decide) hS hk hEL C0 e0 (W := 0) (g := (mkF m 44 #[.val (.int p1), .val (.int p2), .val (.int p3), .val (.int (p2 &&& (3 : Int32))), .val (.int (193 : Int32)), .unset, .unset, .unset, .unset, .unset, .unset, .unset, .unset, .unset, .unset, .unset, .unset, .unset, .unset, .unset] [(.int (193 : Int32))])) rfl (by rw [hml]; rfl) (argsL := [(.int (193 : Int32))]) (rest := []) (lenOf pd_7 rfl) rfl rfl (by show 2 * 0 + _ ≤ _; exact Nat.le_of_eq rfl) (hb hby at_44) (by decide) (by decide)
    have hS := hS23
    have hk := hk23
    have hZ := hZ23
    have hown := hown23
    have N23 := Fr.app N0 N23q
    have Z23 : n0 ≤ T23.heap.size := Nat.le_trans Z0 E23.1
    have f24 := SS.ext E23
    refine own_FinV.step st23 ?_
    show own_FinV p e below s _ _ _ (T23.setTop (mkF m 47 #[.val (.int p1), .val (.int p2), .val (.int p3), .val (.int (p2 &&& (3 : Int32))), .val (.int (193 : Int32)), .unset, .unset, .unset, .unset, .unset, .unset, .unset, .unset, .unset, .unset, .unset, .unset, .unset, .unset, .unset] [(.ref b23)]))
    refine own_FinV.step (fun _ => XS.astore X23.here hx rfl (hb hby at_47) rfl rfl (l' := #[.val (.int p1), .val (.int p2), .val (.int p3), .val (.int (p2 &&& (3 : Int32))), .val (.int (193 : Int32)), .val (.ref b23), .unset, .unset, .unset, .unset, .unset, .unset, .unset, .unset, .unset, .unset, .unset, .unset, .unset, .unset]) rfl) ?_
    show own_FinV p e below s _ _ _ (T23.setTop (mkF m 49 #[.val (.int p1), .val (.int p2), .val (.int p3), .val (.int (p2 &&& (3 : Int32))), .val (.int (193 : Int32)), .val (.ref b23), .unset, .unset, .unset, .unset, .unset, .unset, .unset, .unset, .unset, .unset, .unset, .unset, .unset, .unset] []))
    refine own_FinV.step (fun _ => XS.iload X23.here hx rfl (hb hby at_49) rfl) ?_
    show own_FinV p e below s _ _ _ (T23.setTop (mkF m 51 #[.val (.int p1), .val (.int p2), .val (.int p3), .val (.int (p2 &&& (3 : Int32))), .val (.int (193 : Int32)), .val (.ref b23), .unset, .unset, .unset, .unset, .unset, .unset, .unset, .unset, .unset, .unset, .unset, .unset, .unset, .unset] [(.int (193 : Int32))]))
    refine own_FinV.step (fun _ => XS.sipush X23.here hx rfl (hb hby at_51)) ?_
    show own_FinV p e below s _ _ _ (T23.setTop (mkF m 54 #[.val (.int p1), .val (.int p2), .val (.int p3), .val (.int (p2 &&& (3 : Int32))), .val (.int (193 : Int32)), .val (.ref b23), .unset, .unset, .unset, .unset, .unset, .unset, .unset, .unset, .unset, .unset, .unset, .unset, .unset, .unset] [(.int (192 : Int32)), (.int (193 : Int32))]))
    refine own_FinV.step (fun _ => XS.icmpNo X23.here hx rfl (hb hby at_54) rfl (XT.ii_lt_f (by decide : ¬ ((193 : Int32) < (192 : Int32))))) ?_
    show own_FinV p e below s _ _ _ (T23.setTop (mkF m 57 #[.val (.int p1), .val (.int p2), .val (.int p3), .val (.int (p2 &&& (3 : Int32))), .val (.int (193 : Int32)), .val (.ref b23), .unset, .unset, .unset, .unset, .unset, .unset, .unset, .unset, .unset, .unset, .unset, .unset, .unset, .unset] []))
    refine own_FinV.step (fun _ => XS.iload X23.here hx rfl (hb hby at_57) rfl) ?_
    show own_FinV p e below s _ _ _ (T23.setTop (mkF m 59 #[.val (.int p1), .val (.int p2), .val (.int p3), .val (.int (p2 &&& (3 : Int32))), .val (.int (193 : Int32)), .val (.ref b23), .unset, .unset, .unset, .unset, .unset, .unset, .unset, .unset, .unset, .unset, .unset, .unset, .unset, .unset] [(.int (193 : Int32))]))
    refine own_FinV.step (fun _ => XS.sipush X23.here hx rfl (hb hby at_59)) ?_
    show own_FinV p e below s _ _ _ (T23.setTop (mkF m 62 #[.val (.int p1), .val (.int p2), .val (.int p3), .val (.int (p2 &&& (3 : Int32))), .val (.int (193 : Int32)), .val (.ref b23), .unset, .unset, .unset, .unset, .unset, .unset, .unset, .unset, .unset, .unset, .unset, .unset, .unset, .unset] [(.int (207 : Int32)), (.int (193 : Int32))]))
    refine own_FinV.step (fun _ => XS.icmpNo X23.here hx rfl (hb hby at_62) rfl (XT.ii_gt_f (by decide : ¬ ((207 : Int32) < (193 : Int32))))) ?_
    show own_FinV p e below s _ _ _ (T23.setTop (mkF m 65 #[.val (.int p1), .val (.int p2), .val (.int p3), .val (.int (p2 &&& (3 : Int32))), .val (.int (193 : Int32)), .val (.ref b23), .unset, .unset, .unset, .unset, .unset, .unset, .unset, .unset, .unset, .unset, .unset, .unset, .unset, .unset] []))
    refine own_FinV.step (fun _ => XS.iconst X23.here hx rfl (hb hby at_65)) ?_
    show own_FinV p e below s _ _ _ (T23.setTop (mkF m 66 #[.val (.int p1), .val (.int p2), .val (.int p3), .val (.int (p2 &&& (3 : Int32))), .val (.int (193 : Int32)), .val (.ref b23), .unset, .unset, .unset, .unset, .unset, .unset, .unset, .unset, .unset, .unset, .unset, .unset, .unset, .unset] [(.int (1 : Int32))]))
    refine own_FinV.step (fun _ => XS.goto X23.here hx rfl (pc0 := 66) (pc' := 70) rfl (hb hby at_66) (by decide) (by decide)) ?_
    show own_FinV p e below s _ _ _ (T23.setTop (mkF m 70 #[.val (.int p1), .val (.int p2), .val (.int p3), .val (.int (p2 &&& (3 : Int32))), .val (.int (193 : Int32)), .val (.ref b23), .unset, .unset, .unset, .unset, .unset, .unset, .unset, .unset, .unset, .unset, .unset, .unset, .unset, .unset] [(.int (1 : Int32))]))
    refine own_FinV.step (fun _ => XS.istore X23.here hx rfl (hb hby at_70) rfl (l' := #[.val (.int p1), .val (.int p2), .val (.int p3), .val (.int (p2 &&& (3 : Int32))), .val (.int (193 : Int32)), .val (.ref b23), .val (.int (1 : Int32)), .unset, .unset, .unset, .unset, .unset, .unset, .unset, .unset, .unset, .unset, .unset, .unset, .unset]) rfl) ?_
    show own_FinV p e below s _ _ _ (T23.setTop (mkF m 72 #[.val (.int p1), .val (.int p2), .val (.int p3), .val (.int (p2 &&& (3 : Int32))), .val (.int (193 : Int32)), .val (.ref b23), .val (.int (1 : Int32)), .unset, .unset, .unset, .unset, .unset, .unset, .unset, .unset, .unset, .unset, .unset, .unset, .unset] []))
    refine own_FinV.step (fun _ => XS.iload X23.here hx rfl (hb hby at_72) rfl) ?_
    show own_FinV p e below s _ _ _ (T23.setTop (mkF m 74 #[.val (.int p1), .val (.int p2), .val (.int p3), .val (.int (p2 &&& (3 : Int32))), .val (.int (193 : Int32)), .val (.ref b23), .val (.int (1 : Int32)), .unset, .unset, .unset, .unset, .unset, .unset, .unset, .unset, .unset, .unset, .unset, .unset, .unset] [(.int (193 : Int32))]))
    refine own_FinV.step (fun _ => XS.bipush X23.here hx rfl (hb hby at_74)) ?_
    show own_FinV p e below s _ _ _ (T23.setTop (mkF m 76 #[.val (.int p1), .val (.int p2), .val (.int p3), .val (.int (p2 &&& (3 : Int32))), .val (.int (193 : Int32)), .val (.ref b23), .val (.int (1 : Int32)), .unset, .unset, .unset, .unset, .unset, .unset, .unset, .unset, .unset, .unset, .unset, .unset, .unset] [(.int (15 : Int32)), (.int (193 : Int32))]))
    refine own_FinV.step (fun _ => XS.iand X23.here hx rfl (hb hby at_76) rfl) ?_
    show own_FinV p e below s _ _ _ (T23.setTop (mkF m 77 #[.val (.int p1), .val (.int p2), .val (.int p3), .val (.int (p2 &&& (3 : Int32))), .val (.int (193 : Int32)), .val (.ref b23), .val (.int (1 : Int32)), .unset, .unset, .unset, .unset, .unset, .unset, .unset, .unset, .unset, .unset, .unset, .unset, .unset] [(.int (1 : Int32))]))
    refine own_FinV.step (fun _ => XS.istore X23.here hx rfl (hb hby at_77) rfl (l' := #[.val (.int p1), .val (.int p2), .val (.int p3), .val (.int (p2 &&& (3 : Int32))), .val (.int (193 : Int32)), .val (.ref b23), .val (.int (1 : Int32)), .val (.int (1 : Int32)), .unset, .unset, .unset, .unset, .unset, .unset, .unset, .unset, .unset, .unset, .unset, .unset]) rfl) ?_
    show own_FinV p e below s _ _ _ (T23.setTop (mkF m 79 #[.val (.int p1), .val (.int p2), .val (.int p3), .val (.int (p2 &&& (3 : Int32))), .val (.int (193 : Int32)), .val (.ref b23), .val (.int (1 : Int32)), .val (.int (1 : Int32)), .unset, .unset, .unset, .unset, .unset, .unset, .unset, .unset, .unset, .unset, .unset, .unset] []))
    refine own_FinV.step (fun _ => XS.iload X23.here hx rfl (hb hby at_79) rfl) ?_
    show own_FinV p e below s _ _ _ (T23.setTop (mkF m 81 #[.val (.int p1), .val (.int p2), .val (.int p3), .val (.int (p2 &&& (3 : Int32))), .val (.int (193 : Int32)), .val (.ref b23), .val (.int (1 : Int32)), .val (.int (1 : Int32)), .unset, .unset, .unset, .unset, .unset, .unset, .unset, .unset, .unset, .unset, .unset, .unset] [(.int (1 : Int32))]))
    refine own_FinV.step (fun _ => XS.ifNo X23.here hx rfl (hb hby at_81) rfl (XT.i0_eq_f (by decide : ¬ ((1 : Int32) = (0 : Int32))))) ?_
    show own_FinV p e below s _ _ _ (T23.setTop (mkF m 84 #[.val (.int p1), .val (.int p2), .val (.int p3), .val (.int (p2 &&& (3 : Int32))), .val (.int (193 : Int32)), .val (.ref b23), .val (.int (1 : Int32)), .val (.int (1 : Int32)), .unset, .unset, .unset, .unset, .unset, .unset, .unset, .unset, .unset, .unset, .unset, .unset] []))
    refine own_FinV.step (fun _ => XS.iload X23.here hx rfl (hb hby at_84) rfl) ?_
    show own_FinV p e below s _ _ _ (T23.setTop (mkF m 86 #[.val (.int p1), .val (.int p2), .val (.int p3), .val (.int (p2 &&& (3 : Int32))), .val (.int (193 : Int32)), .val (.ref b23), .val (.int (1 : Int32)), .val (.int (1 : Int32)), .unset, .unset, .unset, .unset, .unset, .unset, .unset, .unset, .unset, .unset, .unset, .unset] [(.int (1 : Int32))]))
    refine own_FinV.step (fun _ => XS.iconst X23.here hx rfl (hb hby at_86)) ?_
    show own_FinV p e below s _ _ _ (T23.setTop (mkF m 87 #[.val (.int p1), .val (.int p2), .val (.int p3), .val (.int (p2 &&& (3 : Int32))), .val (.int (193 : Int32)), .val (.ref b23), .val (.int (1 : Int32)), .val (.int (1 : Int32)), .unset, .unset, .unset, .unset, .unset, .unset, .unset, .unset, .unset, .unset, .unset, .unset] [(.int (4 : Int32)), (.int (1 : Int32))]))
    refine own_FinV.step (fun _ => XS.icmpNo X23.here hx rfl (hb hby at_87) rfl (XT.ii_eq_f (by decide : ¬ ((1 : Int32) = (4 : Int32))))) ?_
    show own_FinV p e below s _ _ _ (T23.setTop (mkF m 90 #[.val (.int p1), .val (.int p2), .val (.int p3), .val (.int (p2 &&& (3 : Int32))), .val (.int (193 : Int32)), .val (.ref b23), .val (.int (1 : Int32)), .val (.int (1 : Int32)), .unset, .unset, .unset, .unset, .unset, .unset, .unset, .unset, .unset, .unset, .unset, .unset] []))
    refine own_FinV.step (fun _ => XS.iload X23.here hx rfl (hb hby at_90) rfl) ?_
    show own_FinV p e below s _ _ _ (T23.setTop (mkF m 92 #[.val (.int p1), .val (.int p2), .val (.int p3), .val (.int (p2 &&& (3 : Int32))), .val (.int (193 : Int32)), .val (.ref b23), .val (.int (1 : Int32)), .val (.int (1 : Int32)), .unset, .unset, .unset, .unset, .unset, .unset, .unset, .unset, .unset, .unset, .unset, .unset] [(.int (1 : Int32))]))
    refine own_FinV.step (fun _ => XS.bipush X23.here hx rfl (hb hby at_92)) ?_
    show own_FinV p e below s _ _ _ (T23.setTop (mkF m 94 #[.val (.int p1), .val (.int p2), .val (.int p3), .val (.int (p2 &&& (3 : Int32))), .val (.int (193 : Int32)), .val (.ref b23), .val (.int (1 : Int32)), .val (.int (1 : Int32)), .unset, .unset, .unset, .unset, .unset, .unset, .unset, .unset, .unset, .unset, .unset, .unset] [(.int (8 : Int32)), (.int (1 : Int32))]))
    refine own_FinV.step (fun _ => XS.icmpNo X23.here hx rfl (hb hby at_94) rfl (XT.ii_eq_f (by decide : ¬ ((1 : Int32) = (8 : Int32))))) ?_
    show own_FinV p e below s _ _ _ (T23.setTop (mkF m 97 #[.val (.int p1), .val (.int p2), .val (.int p3), .val (.int (p2 &&& (3 : Int32))), .val (.int (193 : Int32)), .val (.ref b23), .val (.int (1 : Int32)), .val (.int (1 : Int32)), .unset, .unset, .unset, .unset, .unset, .unset, .unset, .unset, .unset, .unset, .unset, .unset] []))
    refine own_FinV.step (fun _ => XS.iload X23.here hx rfl (hb hby at_97) rfl) ?_
    show own_FinV p e below s _ _ _ (T23.setTop (mkF m 99 #[.val (.int p1), .val (.int p2), .val (.int p3), .val (.int (p2 &&& (3 : Int32))), .val (.int (193 : Int32)), .val (.ref b23), .val (.int (1 : Int32)), .val (.int (1 : Int32)), .unset, .unset, .unset, .unset, .unset, .unset, .unset, .unset, .unset, .unset, .unset, .unset] [(.int (1 : Int32))]))
    refine own_FinV.step (fun _ => XS.bipush X23.here hx rfl (hb hby at_99)) ?_
    show own_FinV p e below s _ _ _ (T23.setTop (mkF m 101 #[.val (.int p1), .val (.int p2), .val (.int p3), .val (.int (p2 &&& (3 : Int32))), .val (.int (193 : Int32)), .val (.ref b23), .val (.int (1 : Int32)), .val (.int (1 : Int32)), .unset, .unset, .unset, .unset, .unset, .unset, .unset, .unset, .unset, .unset, .unset, .unset] [(.int (12 : Int32)), (.int (1 : Int32))]))
    refine own_FinV.step (fun _ => XS.icmpNo X23.here hx rfl (hb hby at_101) rfl (XT.ii_eq_f (by decide : ¬ ((1 : Int32) = (12 : Int32))))) ?_
    show own_FinV p e below s _ _ _ (T23.setTop (mkF m 104 #[.val (.int p1), .val (.int p2), .val (.int p3), .val (.int (p2 &&& (3 : Int32))), .val (.int (193 : Int32)), .val (.ref b23), .val (.int (1 : Int32)), .val (.int (1 : Int32)), .unset, .unset, .unset, .unset, .unset, .unset, .unset, .unset, .unset, .unset, .unset, .unset] []))
    refine own_FinV.step (fun _ => XS.iconst X23.here hx rfl (hb hby at_104)) ?_
    show own_FinV p e below s _ _ _ (T23.setTop (mkF m 105 #[.val (.int p1), .val (.int p2), .val (.int p3), .val (.int (p2 &&& (3 : Int32))), .val (.int (193 : Int32)), .val (.ref b23), .val (.int (1 : Int32)), .val (.int (1 : Int32)), .unset, .unset, .unset, .unset, .unset, .unset, .unset, .unset, .unset, .unset, .unset, .unset] [(.int (1 : Int32))]))
    refine own_FinV.step (fun _ => XS.goto X23.here hx rfl (pc0 := 105) (pc' := 109) rfl (hb hby at_105) (by decide) (by decide)) ?_
    show own_FinV p e below s _ _ _ (T23.setTop (mkF m 109 #[.val (.int p1), .val (.int p2), .val (.int p3), .val (.int (p2 &&& (3 : Int32))), .val (.int (193 : Int32)), .val (.ref b23), .val (.int (1 : Int32)), .val (.int (1 : Int32)), .unset, .unset, .unset, .unset, .unset, .unset, .unset, .unset, .unset, .unset, .unset, .unset] [(.int (1 : Int32))]))
    refine own_FinV.step (fun _ => XS.istore X23.here hx rfl (hb hby at_109) rfl (l' := #[.val (.int p1), .val (.int p2), .val (.int p3), .val (.int (p2 &&& (3 : Int32))), .val (.int (193 : Int32)), .val (.ref b23), .val (.int (1 : Int32)), .val (.int (1 : Int32)), .val (.int (1 : Int32)), .unset, .unset, .unset, .unset, .unset, .unset, .unset, .unset, .unset, .unset, .unset]) rfl) ?_
    show own_FinV p e below s _ _ _ (T23.setTop (mkF m 111 #[.val (.int p1), .val (.int p2), .val (.int p3), .val (.int (p2 &&& (3 : Int32))), .val (.int (193 : Int32)), .val (.ref b23), .val (.int (1 : Int32)), .val (.int (1 : Int32)), .val (.int (1 : Int32)), .unset, .unset, .unset, .unset, .unset, .unset, .unset, .unset, .unset, .unset, .unset] []))
    refine own_FinV.step (fun _ => XS.iload X23.here hx rfl (hb hby at_111) rfl) ?_
    show own_FinV p e below s _ _ _ (T23.setTop (mkF m 113 #[.val (.int p1), .val (.int p2), .val (.int p3), .val (.int (p2 &&& (3 : Int32))), .val (.int (193 : Int32)), .val (.ref b23), .val (.int (1 : Int32)), .val (.int (1 : Int32)), .val (.int (1 : Int32)), .unset, .unset, .unset, .unset, .unset, .unset, .unset, .unset, .unset, .unset, .unset] [(.int (1 : Int32))]))
    refine own_FinV.step (fun _ => XS.ifYes X23.here hx rfl (pc0 := 113) (pc' := 127) rfl (hb hby at_113) rfl (XT.i0_ne_t (by decide : ¬ ((1 : Int32) = (0 : Int32)))) (by decide) (by decide)) ?_
    show own_FinV p e below s _ _ _ (T23.setTop (mkF m 127 #[.val (.int p1), .val (.int p2), .val (.int p3), .val (.int (p2 &&& (3 : Int32))), .val (.int (193 : Int32)), .val (.ref b23), .val (.int (1 : Int32)), .val (.int (1 : Int32)), .val (.int (1 : Int32)), .unset, .unset, .unset, .unset, .unset, .unset, .unset, .unset, .unset, .unset, .unset] []))
    refine own_FinV.step (fun _ => XS.aload X23.here hx rfl (hb hby at_127) rfl rfl) ?_
    show own_FinV p e below s _ _ _ (T23.setTop (mkF m 129 #[.val (.int p1), .val (.int p2), .val (.int p3), .val (.int (p2 &&& (3 : Int32))), .val (.int (193 : Int32)), .val (.ref b23), .val (.int (1 : Int32)), .val (.int (1 : Int32)), .val (.int (1 : Int32)), .unset, .unset, .unset, .unset, .unset, .unset, .unset, .unset, .unset, .unset, .unset] [(.ref b23)]))
    refine own_FinV.step (fun _ => XS.ifnonnullYes X23.here hx rfl (pc0 := 129) (pc' := 134) rfl (hb hby at_129) rfl (by decide) (by decide)) ?_
    show own_FinV p e below s _ _ _ (T23.setTop (mkF m 134 #[.val (.int p1), .val (.int p2), .val (.int p3), .val (.int (p2 &&& (3 : Int32))), .val (.int (193 : Int32)), .val (.ref b23), .val (.int (1 : Int32)), .val (.int (1 : Int32)), .val (.int (1 : Int32)), .unset, .unset, .unset, .unset, .unset, .unset, .unset, .unset, .unset, .unset, .unset] []))
    refine own_FinV.step (fun _ => XS.iload X23.here hx rfl (hb hby at_134) rfl) ?_
    show own_FinV p e below s _ _ _ (T23.setTop (mkF m 136 #[.val (.int p1), .val (.int p2), .val (.int p3), .val (.int (p2 &&& (3 : Int32))), .val (.int (193 : Int32)), .val (.ref b23), .val (.int (1 : Int32)), .val (.int (1 : Int32)), .val (.int (1 : Int32)), .unset, .unset, .unset, .unset, .unset, .unset, .unset, .unset, .unset, .unset, .unset] [(.int (1 : Int32))]))
    refine own_FinV.step (fun _ => XS.iconst X23.here hx rfl (hb hby at_136)) ?_
    show own_FinV p e below s _ _ _ (T23.setTop (mkF m 137 #[.val (.int p1), .val (.int p2), .val (.int p3), .val (.int (p2 &&& (3 : Int32))), .val (.int (193 : Int32)), .val (.ref b23), .val (.int (1 : Int32)), .val (.int (1 : Int32)), .val (.int (1 : Int32)), .unset, .unset, .unset, .unset, .unset, .unset, .unset, .unset, .unset, .unset, .unset] [(.int (4 : Int32)), (.int (1 : Int32))]))
    refine own_FinV.step (fun _ => XS.iand X23.here hx rfl (hb hby at_137) rfl) ?_
    show own_FinV p e below s _ _ _ (T23.setTop (mkF m 138 #[.val (.int p1), .val (.int p2), .val (.int p3), .val (.int (p2 &&& (3 : Int32))), .val (.int (193 : Int32)), .val (.ref b23), .val (.int (1 : Int32)), .val (.int (1 : Int32)), .val (.int (1 : Int32)), .unset, .unset, .unset, .unset, .unset, .unset, .unset, .unset, .unset, .unset, .unset] [(.int (0 : Int32))]))
    refine own_FinV.step (fun _ => XS.ifYes X23.here hx rfl (pc0 := 138) (pc' := 145) rfl (hb hby at_138) rfl (XT.i0_eq_t (by decide : (0 : Int32) = (0 : Int32))) (by decide) (by decide)) ?_
    show own_FinV p e below s _ _ _ (T23.setTop (mkF m 145 #[.val (.int p1), .val (.int p2), .val (.int p3), .val (.int (p2 &&& (3 : Int32))), .val (.int (193 : Int32)), .val (.ref b23), .val (.int (1 : Int32)), .val (.int (1 : Int32)), .val (.int (1 : Int32)), .unset, .unset, .unset, .unset, .unset, .unset, .unset, .unset, .unset, .unset, .unset] []))
    refine own_FinV.step (fun _ => XS.iconst X23.here hx rfl (hb hby at_145)) ?_
    show own_FinV p e below s _ _ _ (T23.setTop (mkF m 146 #[.val (.int p1), .val (.int p2), .val (.int p3), .val (.int (p2 &&& (3 : Int32))), .val (.int (193 : Int32)), .val (.ref b23), .val (.int (1 : Int32)), .val (.int (1 : Int32)), .val (.int (1 : Int32)), .unset, .unset, .unset, .unset, .unset, .unset, .unset, .unset, .unset, .unset, .unset] [(.int (0 : Int32))]))
    refine own_FinV.step (fun _ => XS.istore X23.here hx rfl (hb hby at_146) rfl (l' := #[.val (.int p1), .val (.int p2), .val (.int p3), .val (.int (p2 &&& (3 : Int32))), .val (.int (193 : Int32)), .val (.ref b23), .val (.int (1 : Int32)), .val (.int (1 : Int32)), .val (.int (1 : Int32)), .val (.int (0 : Int32)), .unset, .unset, .unset, .unset, .unset, .unset, .unset, .unset, .unset, .unset]) rfl) ?_
    show own_FinV p e below s _ _ _ (T23.setTop (mkF m 148 #[.val (.int p1), .val (.int p2), .val (.int p3), .val (.int (p2 &&& (3 : Int32))), .val (.int (193 : Int32)), .val (.ref b23), .val (.int (1 : Int32)), .val (.int (1 : Int32)), .val (.int (1 : Int32)), .val (.int (0 : Int32)), .unset, .unset, .unset, .unset, .unset, .unset, .unset, .unset, .unset, .unset] []))
    refine own_FinV.step (fun _ => XS.iload X23.here hx rfl (hb hby at_148) rfl) ?_
    show own_FinV p e below s _ _ _ (T23.setTop (mkF m 150 #[.val (.int p1), .val (.int p2), .val (.int p3), .val (.int (p2 &&& (3 : Int32))), .val (.int (193 : Int32)), .val (.ref b23), .val (.int (1 : Int32)), .val (.int (1 : Int32)), .val (.int (1 : Int32)), .val (.int (0 : Int32)), .unset, .unset, .unset, .unset, .unset, .unset, .unset, .unset, .unset, .unset] [(.int (1 : Int32))]))
    refine own_FinV.step (fun _ => XS.bipush X23.here hx rfl (hb hby at_150)) ?_
    show own_FinV p e below s _ _ _ (T23.setTop (mkF m 152 #[.val (.int p1), .val (.int p2), .val (.int p3), .val (.int (p2 &&& (3 : Int32))), .val (.int (193 : Int32)), .val (.ref b23), .val (.int (1 : Int32)), .val (.int (1 : Int32)), .val (.int (1 : Int32)), .val (.int (0 : Int32)), .unset, .unset, .unset, .unset, .unset, .unset, .unset, .unset, .unset, .unset] [(.int (8 : Int32)), (.int (1 : Int32))]))
    refine own_FinV.step (fun _ => XS.iand X23.here hx rfl (hb hby at_152) rfl) ?_
    show own_FinV p e below s _ _ _ (T23.setTop (mkF m 153 #[.val (.int p1), .val (.int p2), .val (.int p3), .val (.int (p2 &&& (3 : Int32))), .val (.int (193 : Int32)), .val (.ref b23), .val (.int (1 : Int32)), .val (.int (1 : Int32)), .val (.int (1 : Int32)), .val (.int (0 : Int32)), .unset, .unset, .unset, .unset, .unset, .unset, .unset, .unset, .unset, .unset] [(.int (0 : Int32))]))
    refine own_FinV.step (fun _ => XS.ifYes X23.here hx rfl (pc0 := 153) (pc' := 160) rfl (hb hby at_153) rfl (XT.i0_eq_t (by decide : (0 : Int32) = (0 : Int32))) (by decide) (by decide)) ?_
    show own_FinV p e below s _ _ _ (T23.setTop (mkF m 160 #[.val (.int p1), .val (.int p2), .val (.int p3), .val (.int (p2 &&& (3 : Int32))), .val (.int (193 : Int32)), .val (.ref b23), .val (.int (1 : Int32)), .val (.int (1 : Int32)), .val (.int (1 : Int32)), .val (.int (0 : Int32)), .unset, .unset, .unset, .unset, .unset, .unset, .unset, .unset, .unset, .unset] []))
    refine own_FinV.step (fun _ => XS.iconst X23.here hx rfl (hb hby at_160)) ?_
    show own_FinV p e below s _ _ _ (T23.setTop (mkF m 161 #[.val (.int p1), .val (.int p2), .val (.int p3), .val (.int (p2 &&& (3 : Int32))), .val (.int (193 : Int32)), .val (.ref b23), .val (.int (1 : Int32)), .val (.int (1 : Int32)), .val (.int (1 : Int32)), .val (.int (0 : Int32)), .unset, .unset, .unset, .unset, .unset, .unset, .unset, .unset, .unset, .unset] [(.int (0 : Int32))]))
    refine own_FinV.step (fun _ => XS.istore X23.here hx rfl (hb hby at_161) rfl (l' := #[.val (.int p1), .val (.int p2), .val (.int p3), .val (.int (p2 &&& (3 : Int32))), .val (.int (193 : Int32)), .val (.ref b23), .val (.int (1 : Int32)), .val (.int (1 : Int32)), .val (.int (1 : Int32)), .val (.int (0 : Int32)), .val (.int (0 : Int32)), .unset, .unset, .unset, .unset, .unset, .unset, .unset, .unset, .unset]) rfl) ?_
    show own_FinV p e below s _ _ _ (T23.setTop (mkF m 163 #[.val (.int p1), .val (.int p2), .val (.int p3), .val (.int (p2 &&& (3 : Int32))), .val (.int (193 : Int32)), .val (.ref b23), .val (.int (1 : Int32)), .val (.int (1 : Int32)), .val (.int (1 : Int32)), .val (.int (0 : Int32)), .val (.int (0 : Int32)), .unset, .unset, .unset, .unset, .unset, .unset, .unset, .unset, .unset] []))
    refine own_FinV.step (fun _ => XS.iload X23.here hx rfl (hb hby at_163) rfl) ?_
    show own_FinV p e below s _ _ _ (T23.setTop (mkF m 165 #[.val (.int p1), .val (.int p2), .val (.int p3), .val (.int (p2 &&& (3 : Int32))), .val (.int (193 : Int32)), .val (.ref b23), .val (.int (1 : Int32)), .val (.int (1 : Int32)), .val (.int (1 : Int32)), .val (.int (0 : Int32)), .val (.int (0 : Int32)), .unset, .unset, .unset, .unset, .unset, .unset, .unset, .unset, .unset] [(.int (1 : Int32))]))
    refine own_FinV.step (fun _ => XS.iconst X23.here hx rfl (hb hby at_165)) ?_
    show own_FinV p e below s _ _ _ (T23.setTop (mkF m 166 #[.val (.int p1), .val (.int p2), .val (.int p3), .val (.int (p2 &&& (3 : Int32))), .val (.int (193 : Int32)), .val (.ref b23), .val (.int (1 : Int32)), .val (.int (1 : Int32)), .val (.int (1 : Int32)), .val (.int (0 : Int32)), .val (.int (0 : Int32)), .unset, .unset, .unset, .unset, .unset, .unset, .unset, .unset, .unset] [(.int (3 : Int32)), (.int (1 : Int32))]))
    refine own_FinV.step (fun _ => XS.iand X23.here hx rfl (hb hby at_166) rfl) ?_
    show own_FinV p e below s _ _ _ (T23.setTop (mkF m 167 #[.val (.int p1), .val (.int p2), .val (.int p3), .val (.int (p2 &&& (3 : Int32))), .val (.int (193 : Int32)), .val (.ref b23), .val (.int (1 : Int32)), .val (.int (1 : Int32)), .val (.int (1 : Int32)), .val (.int (0 : Int32)), .val (.int (0 : Int32)), .unset, .unset, .unset, .unset, .unset, .unset, .unset, .unset, .unset] [(.int (1 : Int32))]))
    refine own_FinV.step (fun _ => XS.istore X23.here hx rfl (hb hby at_167) rfl (l' := #[.val (.int p1), .val (.int p2), .val (.int p3), .val (.int (p2 &&& (3 : Int32))), .val (.int (193 : Int32)), .val (.ref b23), .val (.int (1 : Int32)), .val (.int (1 : Int32)), .val (.int (1 : Int32)), .val (.int (0 : Int32)), .val (.int (0 : Int32)), .val (.int (1 : Int32)), .unset, .unset, .unset, .unset, .unset, .unset, .unset, .unset]) rfl) ?_
    show own_FinV p e below s _ _ _ (T23.setTop (mkF m 169 #[.val (.int p1), .val (.int p2), .val (.int p3), .val (.int (p2 &&& (3 : Int32))), .val (.int (193 : Int32)), .val (.ref b23), .val (.int (1 : Int32)), .val (.int (1 : Int32)), .val (.int (1 : Int32)), .val (.int (0 : Int32)), .val (.int (0 : Int32)), .val (.int (1 : Int32)), .unset, .unset, .unset, .unset, .unset, .unset, .unset, .unset] []))
    refine own_FinV.step (fun _ => XS.iload X23.here hx rfl (hb hby at_169) rfl) ?_
    show own_FinV p e below s _ _ _ (T23.setTop (mkF m 171 #[.val (.int p1), .val (.int p2), .val (.int p3), .val (.int (p2 &&& (3 : Int32))), .val (.int (193 : Int32)), .val (.ref b23), .val (.int (1 : Int32)), .val (.int (1 : Int32)), .val (.int (1 : Int32)), .val (.int (0 : Int32)), .val (.int (0 : Int32)), .val (.int (1 : Int32)), .unset, .unset, .unset, .unset, .unset, .unset, .unset, .unset] [(.int (0 : Int32))]))
    refine own_FinV.step (fun _ => XS.ifYes X23.here hx rfl (pc0 := 171) (pc' := 179) rfl (hb hby at_171) rfl (XT.i0_eq_t (by decide : (0 : Int32) = (0 : Int32))) (by decide) (by decide)) ?_
    show own_FinV p e below s _ _ _ (T23.setTop (mkF m 179 #[.val (.int p1), .val (.int p2), .val (.int p3), .val (.int (p2 &&& (3 : Int32))), .val (.int (193 : Int32)), .val (.ref b23), .val (.int (1 : Int32)), .val (.int (1 : Int32)), .val (.int (1 : Int32)), .val (.int (0 : Int32)), .val (.int (0 : Int32)), .val (.int (1 : Int32)), .unset, .unset, .unset, .unset, .unset, .unset, .unset, .unset] []))
    obtain ⟨b25, T25, h25, k25, X25, e25, E25, hS25, hk25, hZ25, hown25, St25, C25, st25⟩ := own_ldcV (s := s) (vm0 := T23.vm) X23 hx hZ hown (own_w hw 12 rfl) own_wS rfl hS hk hEL (List.mem_of_getElem? (i := 14) rfl) C23 (by decide) (g := (mkF m 179 #[.val (.int p1), .val (.int p2), .val (.int p3), .val (.int (p2 &&& (3 : Int32))), .val (.int (193 : Int32)), .val (.ref b23), .val (.int (1 : Int32)), .val (.int (1 : Int32)), .val (.int (1 : Int32)), .val (.int (0 : Int32)), .val (.int (0 : Int32)), .val (.int (1 : Int32)), .unset, .unset, .unset, .unset, .unset, .unset, .unset, .unset] [])) rfl (hb hby at_179) (n := 0) (by decide) (by decide) (by decide) (by decide)
    have hS := hS25
    have hk := hk25
    have hZ := hZ25
    have hown := hown25
    have f26 := f24.ext E25
    have f27 := St23.ext E25
    have Z25 : n0 ≤ h25.size := Nat.le_trans Z23 E25.1
    refine own_FinV.step st25 ?_
    show own_FinV p e below s _ _ _ (T25.setTop (mkF m 181 #[.val (.int p1), .val (.int p2), .val (.int p3), .val (.int (p2 &&& (3 : Int32))), .val (.int (193 : Int32)), .val (.ref b23), .val (.int (1 : Int32)), .val (.int (1 : Int32)), .val (.int (1 : Int32)), .val (.int (0 : Int32)), .val (.int (0 : Int32)), .val (.int (1 : Int32)), .unset, .unset, .unset, .unset, .unset, .unset, .unset, .unset] [(.ref b25)]))
    refine own_FinV.step (fun _ => XS.astore X25.here hx rfl (hb hby at_181) rfl rfl (l' := #[.val (.int p1), .val (.int p2), .val (.int p3), .val (.int (p2 &&& (3 : Int32))), .val (.int (193 : Int32)), .val (.ref b23), .val (.int (1 : Int32)), .val (.int (1 : Int32)), .val (.int (1 : Int32)), .val (.int (0 : Int32)), .val (.int (0 : Int32)), .val (.int (1 : Int32)), .val (.ref b25), .unset, .unset, .unset, .unset, .unset, .unset, .unset]) rfl) ?_
    show own_FinV p e below s _ _ _ (T25.setTop (mkF m 183 #[.val (.int p1), .val (.int p2), .val (.int p3), .val (.int (p2 &&& (3 : Int32))), .val (.int (193 : Int32)), .val (.ref b23), .val (.int (1 : Int32)), .val (.int (1 : Int32)), .val (.int (1 : Int32)), .val (.int (0 : Int32)), .val (.int (0 : Int32)), .val (.int (1 : Int32)), .val (.ref b25), .unset, .unset, .unset, .unset, .unset, .unset, .unset] []))
    refine own_FinV.step (fun _ => XS.iload X25.here hx rfl (hb hby at_183) rfl) ?_
    show own_FinV p e below s _ _ _ (T25.setTop (mkF m 185 #[.val (.int p1), .val (.int p2), .val (.int p3), .val (.int (p2 &&& (3 : Int32))), .val (.int (193 : Int32)), .val (.ref b23), .val (.int (1 : Int32)), .val (.int (1 : Int32)), .val (.int (1 : Int32)), .val (.int (0 : Int32)), .val (.int (0 : Int32)), .val (.int (1 : Int32)), .val (.ref b25), .unset, .unset, .unset, .unset, .unset, .unset, .unset] [(.int (1 : Int32))]))
    refine own_FinV.step (fun _ => XS.ifYes X25.here hx rfl (pc0 := 185) (pc' := 195) rfl (hb hby at_185) rfl (XT.i0_ne_t (by decide : ¬ ((1 : Int32) = (0 : Int32)))) (by decide) (by decide)) ?_
    show own_FinV p e below s _ _ _ (T25.setTop (mkF m 195 #[.val (.int p1), .val (.int p2), .val (.int p3), .val (.int (p2 &&& (3 : Int32))), .val (.int (193 : Int32)), .val (.ref b23), .val (.int (1 : Int32)), .val (.int (1 : Int32)), .val (.int (1 : Int32)), .val (.int (0 : Int32)), .val (.int (0 : Int32)), .val (.int (1 : Int32)), .val (.ref b25), .unset, .unset, .unset, .unset, .unset, .unset, .unset] []))
    refine own_FinV.step (fun _ => XS.iload X25.here hx rfl (hb hby at_195) rfl) ?_
    show own_FinV p e below s _ _ _ (T25.setTop (mkF m 197 #[.val (.int p1), .val (.int p2), .val (.int p3), .val (.int (p2 &&& (3 : Int32))), .val (.int (193 : Int32)), .val (.ref b23), .val (.int (1 : Int32)), .val (.int (1 : Int32)), .val (.int (1 : Int32)), .val (.int (0 : Int32)), .val (.int (0 : Int32)), .val (.int (1 : Int32)), .val (.ref b25), .unset, .unset, .unset, .unset, .unset, .unset, .unset] [(.int (1 : Int32))]))
    refine own_FinV.step (fun _ => XS.iconst X25.here hx rfl (hb hby at_197)) ?_
    show own_FinV p e below s _ _ _ (T25.setTop (mkF m 198 #[.val (.int p1), .val (.int p2), .val (.int p3), .val (.int (p2 &&& (3 : Int32))), .val (.int (193 : Int32)), .val (.ref b23), .val (.int (1 : Int32)), .val (.int (1 : Int32)), .val (.int (1 : Int32)), .val (.int (0 : Int32)), .val (.int (0 : Int32)), .val (.int (1 : Int32)), .val (.ref b25), .unset, .unset, .unset, .unset, .unset, .unset, .unset] [(.int (1 : Int32)), (.int (1 : Int32))]))
    refine own_FinV.step (fun _ => XS.icmpNo X25.here hx rfl (hb hby at_198) rfl (XT.ii_ne_f (by decide : (1 : Int32) = (1 : Int32)))) ?_
    show own_FinV p e below s _ _ _ (T25.setTop (mkF m 201 #[.val (.int p1), .val (.int p2), .val (.int p3), .val (.int (p2 &&& (3 : Int32))), .val (.int (193 : Int32)), .val (.ref b23), .val (.int (1 : Int32)), .val (.int (1 : Int32)), .val (.int (1 : Int32)), .val (.int (0 : Int32)), .val (.int (0 : Int32)), .val (.int (1 : Int32)), .val (.ref b25), .unset, .unset, .unset, .unset, .unset, .unset, .unset] []))
    refine own_FinV.step (fun _ => XS.iload X25.here hx rfl (hb hby at_201) rfl) ?_
    show own_FinV p e below s _ _ _ (T25.setTop (mkF m 203 #[.val (.int p1), .val (.int p2), .val (.int p3), .val (.int (p2 &&& (3 : Int32))), .val (.int (193 : Int32)), .val (.ref b23), .val (.int (1 : Int32)), .val (.int (1 : Int32)), .val (.int (1 : Int32)), .val (.int (0 : Int32)), .val (.int (0 : Int32)), .val (.int (1 : Int32)), .val (.ref b25), .unset, .unset, .unset, .unset, .unset, .unset, .unset] [(.int (0 : Int32))]))
    refine own_FinV.step (fun _ => XS.ifYes X25.here hx rfl (pc0 := 203) (pc' := 211) rfl (hb hby at_203) rfl (XT.i0_eq_t (by decide : (0 : Int32) = (0 : Int32))) (by decide) (by decide)) ?_
    show own_FinV p e below s _ _ _ (T25.setTop (mkF m 211 #[.val (.int p1), .val (.int p2), .val (.int p3), .val (.int (p2 &&& (3 : Int32))), .val (.int (193 : Int32)), .val (.ref b23), .val (.int (1 : Int32)), .val (.int (1 : Int32)), .val (.int (1 : Int32)), .val (.int (0 : Int32)), .val (.int (0 : Int32)), .val (.int (1 : Int32)), .val (.ref b25), .unset, .unset, .unset, .unset, .unset, .unset, .unset] []))
    obtain ⟨b28, T28, h28, k28, X28, e28, E28, hS28, hk28, hZ28, hown28, St28, C28, st28⟩ := own_ldcV (s := s) (vm0 := T25.vm) X25 hx hZ hown (own_w hw 57 rfl) own_wS e25 hS hk hEL (List.mem_of_getElem? (i := 17) rfl) C25 (by decide) (g := (mkF m 211 #[.val (.int p1), .val (.int p2), .val (.int p3), .val (.int (p2 &&& (3 : Int32))), .val (.int (193 : Int32)), .val (.ref b23), .val (.int (1 : Int32)), .val (.int (1 : Int32)), .val (.int (1 : Int32)), .val (.int (0 : Int32)), .val (.int (0 : Int32)), .val (.int (1 : Int32)), .val (.ref b25), .unset, .unset, .unset, .unset, .unset, .unset, .unset] [])) rfl (hb hby at_211) (n := 76) (by decide) (by decide) (by decide) (by decide)
    have hS := hS28
    have hk := hk28
    have hZ := hZ28
    have hown := hown28
    have f29 := f26.ext E28
    have f30 := f27.ext E28
    have f31 := St25.ext E28
    have Z28 : n0 ≤ h28.size := Nat.le_trans Z25 E28.1
    refine own_FinV.step st28 ?_
    show own_FinV p e below s _ _ _ (T28.setTop (mkF m 213 #[.val (.int p1), .val (.int p2), .val (.int p3), .val (.int (p2 &&& (3 : Int32))), .val (.int (193 : Int32)), .val (.ref b23), .val (.int (1 : Int32)), .val (.int (1 : Int32)), .val (.int (1 : Int32)), .val (.int (0 : Int32)), .val (.int (0 : Int32)), .val (.int (1 : Int32)), .val (.ref b25), .unset, .unset, .unset, .unset, .unset, .unset, .unset] [(.ref b28)]))
    refine own_FinV.step (fun _ => XS.astore X28.here hx rfl (hb hby at_213) rfl rfl (l' := #[.val (.int p1), .val (.int p2), .val (.int p3), .val (.int (p2 &&& (3 : Int32))), .val (.int (193 : Int32)), .val (.ref b23), .val (.int (1 : Int32)), .val (.int (1 : Int32)), .val (.int (1 : Int32)), .val (.int (0 : Int32)), .val (.int (0 : Int32)), .val (.int (1 : Int32)), .val (.ref b25), .val (.ref b28), .unset, .unset, .unset, .unset, .unset, .unset]) rfl) ?_
    show own_FinV p e below s _ _ _ (T28.setTop (mkF m 215 #[.val (.int p1), .val (.int p2), .val (.int p3), .val (.int (p2 &&& (3 : Int32))), .val (.int (193 : Int32)), .val (.ref b23), .val (.int (1 : Int32)), .val (.int (1 : Int32)), .val (.int (1 : Int32)), .val (.int (0 : Int32)), .val (.int (0 : Int32)), .val (.int (1 : Int32)), .val (.ref b25), .val (.ref b28), .unset, .unset, .unset, .unset, .unset, .unset] []))
    refine own_FinV.step (fun _ => XS.goto X28.here hx rfl (pc0 := 215) (pc' := 235) rfl (hb hby at_215) (by decide) (by decide)) ?_
    show own_FinV p e below s _ _ _ (T28.setTop (mkF m 235 #[.val (.int p1), .val (.int p2), .val (.int p3), .val (.int (p2 &&& (3 : Int32))), .val (.int (193 : Int32)), .val (.ref b23), .val (.int (1 : Int32)), .val (.int (1 : Int32)), .val (.int (1 : Int32)), .val (.int (0 : Int32)), .val (.int (0 : Int32)), .val (.int (1 : Int32)), .val (.ref b25), .val (.ref b28), .unset, .unset, .unset, .unset, .unset, .unset] []))
    refine own_FinV.step (fun _ => XS.iload X28.here hx rfl (hb hby at_235) rfl) ?_
    show own_FinV p e below s _ _ _ (T28.setTop (mkF m 237 #[.val (.int p1), .val (.int p2), .val (.int p3), .val (.int (p2 &&& (3 : Int32))), .val (.int (193 : Int32)), .val (.ref b23), .val (.int (1 : Int32)), .val (.int (1 : Int32)), .val (.int (1 : Int32)), .val (.int (0 : Int32)), .val (.int (0 : Int32)), .val (.int (1 : Int32)), .val (.ref b25), .val (.ref b28), .unset, .unset, .unset, .unset, .unset, .unset] [(.int (0 : Int32))]))
    refine own_FinV.step (fun _ => XS.ifYes X28.here hx rfl (pc0 := 237) (pc' := 245) rfl (hb hby at_237) rfl (XT.i0_eq_t (by decide : (0 : Int32) = (0 : Int32))) (by decide) (by decide)) ?_
    show own_FinV p e below s _ _ _ (T28.setTop (mkF m 245 #[.val (.int p1), .val (.int p2), .val (.int p3), .val (.int (p2 &&& (3 : Int32))), .val (.int (193 : Int32)), .val (.ref b23), .val (.int (1 : Int32)), .val (.int (1 : Int32)), .val (.int (1 : Int32)), .val (.int (0 : Int32)), .val (.int (0 : Int32)), .val (.int (1 : Int32)), .val (.ref b25), .val (.ref b28), .unset, .unset, .unset, .unset, .unset, .unset] []))
    obtain ⟨b32, T32, h32, k32, X32, e32, E32, hS32, hk32, hZ32, hown32, St32, C32, st32⟩ := own_ldcV (s := s) (vm0 := T28.vm) X28 hx hZ hown (own_w hw 12 rfl) own_wS e28 hS hk hEL (List.mem_of_getElem? (i := 14) rfl) C28 (by decide) (g := (mkF m 245 #[.val (.int p1), .val (.int p2), .val (.int p3), .val (.int (p2 &&& (3 : Int32))), .val (.int (193 : Int32)), .val (.ref b23), .val (.int (1 : Int32)), .val (.int (1 : Int32)), .val (.int (1 : Int32)), .val (.int (0 : Int32)), .val (.int (0 : Int32)), .val (.int (1 : Int32)), .val (.ref b25), .val (.ref b28), .unset, .unset, .unset, .unset, .unset, .unset] [])) rfl (hb hby at_245) (n := 0) (by decide) (by decide) (by decide) (by decide)
    have hS := hS32
    have hk := hk32
    have hZ := hZ32
    have hown := hown32
    have f33 := f29.ext E32
    have f34 := f30.ext E32
    have f35 := f31.ext E32
    have f36 := St28.ext E32
    have Z32 : n0 ≤ h32.size := Nat.le_trans Z28 E32.1
    refine own_FinV.step st32 ?_
    show own_FinV p e below s _ _ _ (T32.setTop (mkF m 247 #[.val (.int p1), .val (.int p2), .val (.int p3), .val (.int (p2 &&& (3 : Int32))), .val (.int (193 : Int32)), .val (.ref b23), .val (.int (1 : Int32)), .val (.int (1 : Int32)), .val (.int (1 : Int32)), .val (.int (0 : Int32)), .val (.int (0 : Int32)), .val (.int (1 : Int32)), .val (.ref b25), .val (.ref b28), .unset, .unset, .unset, .unset, .unset, .unset] [(.ref b32)]))
    refine own_FinV.step (fun _ => XS.astore X32.here hx rfl (hb hby at_247) rfl rfl (l' := #[.val (.int p1), .val (.int p2), .val (.int p3), .val (.int (p2 &&& (3 : Int32))), .val (.int (193 : Int32)), .val (.ref b23), .val (.int (1 : Int32)), .val (.int (1 : Int32)), .val (.int (1 : Int32)), .val (.int (0 : Int32)), .val (.int (0 : Int32)), .val (.int (1 : Int32)), .val (.ref b25), .val (.ref b28), .val (.ref b32), .unset, .unset, .unset, .unset, .unset]) rfl) ?_
    have hcat : own_bs "extended sequential" = own_bs "" ++ own_bs "extended sequential" ++ own_bs "" := by decide +kernel
    rw [hcat] at f34
    exact own_tail hw X32 hx hby hml hown hret hlk hZ Z32 N23 e32 hS hk C32 hcs rv f33 f34 f35 f36 St32 (by decide) (by decide) (by decide) (by decide) (by decide) (by decide)
  ·
    show own_FinV p e below s _ _ _ (s₁.setTop (mkF m 42 #[.val (.int p1), .val (.int p2), .val (.int p3), .val (.int (p2 &&& (3 : Int32))), .val (.int (194 : Int32)), .unset, .unset, .unset, .unset, .unset, .unset, .unset, .unset, .unset, .unset, .unset, .unset, .unset, .unset, .unset] []))
    refine own_FinV.step (fun _ => XS.iload X0.here hx rfl (hb hby at_42) rfl) ?_
    show own_FinV p e below s _ _ _ (s₁.setTop (mkF m 44 #[.val (.int p1), .val (.int p2), .val (.int p3), .val (.int (p2 &&& (3 : Int32))), .val (.int (194 : Int32)), .unset, .unset, .unset, .unset, .unset, .unset, .unset, .unset, .unset, .unset, .unset, .unset, .unset, .unset, .unset] [(.int (194 : Int32))]))
    obtain ⟨_, T37, L37, k37, X37, ⟨b37, rfl, N37q, E37, St37⟩, hS37, hk37, hZ37, hown37, C37, st37⟩ := own_callSV (s := s) (vm0 := s.vm) X0 hx hZ hown (own_w hw 0 rfl) (own_w hw 1 rfl) (own_w hw 2 rfl) (own_w hw 3 rfl) (by decide) (rm8_194 l Z a0 hw  h0 n0 Z0 ) (by decide) (by decide) hS hk hEL C0 e0 (W := 0) (g := (mkF m 44 #[.val (.int p1), .val (.int p2), .val (.int p3), .val (.int (p2 &&& (3 : Int32))), .val (.int (194 : Int32)), .unset, .unset, .unset, .unset, .unset, .unset, .unset, .unset, .unset, .unset, .unset, .unset, .unset, .unset, .unset] [(.int (194 : Int32))])) rfl (by rw [hml]; rfl) (argsL := [(.int (194 : Int32))]) (rest := []) (lenOf pd_7 rfl) rfl rfl (by show 2 * 0 + _ ≤ _; exact Nat.le_of_eq rfl) (hb hby at_44) (by decide) (by decide)
    have hS := hS37
    have hk := hk37
    have hZ := hZ37
    have hown := hown37
    have N37 := Fr.app N0 N37q
    have Z37 : n0 ≤ T37.heap.size := Nat.le_trans Z0 E37.1
    have f38 := SS.ext E37
    refine own_FinV.step st37 ?_
    show own_FinV p e below s _ _ _ (T37.setTop (mkF m 47 #[.val (.int p1), .val (.int p2), .val (.int p3), .val (.int (p2 &&& (3 : Int32))), .val (.int (194 : Int32)), .unset, .unset, .unset, .unset, .unset, .unset, .unset, .unset, .unset, .unset, .unset, .unset, .unset, .unset, .unset] [(.ref b37)]))
    refine own_FinV.step (fun _ => XS.astore X37.here hx rfl (hb hby at_47) rfl rfl (l' := #[.val (.int p1), .val (.int p2), .val (.int p3), .val (.int (p2 &&& (3 : Int32))), .val (.int (194 : Int32)), .val (.ref b37), .unset, .unset, .unset, .unset, .unset, .unset, .unset, .unset, .unset, .unset, .unset, .unset, .unset, .unset]) rfl) ?_
    show own_FinV p e below s _ _ _ (T37.setTop (mkF m 49 #[.val (.int p1), .val (.int p2), .val (.int p3), .val (.int (p2 &&& (3 : Int32))), .val (.int (194 : Int32)), .val (.ref b37), .unset, .unset, .unset, .unset, .unset, .unset, .unset, .unset, .unset, .unset, .unset, .unset, .unset, .unset] []))
    refine own_FinV.step (fun _ => XS.iload X37.here hx rfl (hb hby at_49) rfl) ?_
    show own_FinV p e below s _ _ _ (T37.setTop (mkF m 51 #[.val (.int p1), .val (.int p2), .val (.int p3), .val (.int (p2 &&& (3 : Int32))), .val (.int (194 : Int32)), .val (.ref b37), .unset, .unset, .unset, .unset, .unset, .unset, .unset, .unset, .unset, .unset, .unset, .unset, .unset, .unset] [(.int (194 : Int32))]))
    refine own_FinV.step (fun _ => XS.sipush X37.here hx rfl (hb hby at_51)) ?_
    show own_FinV p e below s _ _ _ (T37.setTop (mkF m 54 #[.val (.int p1), .val (.int p2), .val (.int p3), .val (.int (p2 &&& (3 : Int32))), .val (.int (194 : Int32)), .val (.ref b37), .unset, .unset, .unset, .unset, .unset, .unset, .unset, .unset, .unset, .unset, .unset, .unset, .unset, .unset] [(.int (192 : Int32)), (.int (194 : Int32))]))
    refine own_FinV.step (fun _ => XS.icmpNo X37.here hx rfl (hb hby at_54) rfl (XT.ii_lt_f (by decide : ¬ ((194 : Int32) < (192 : Int32))))) ?_
    show own_FinV p e below s _ _ _ (T37.setTop (mkF m 57 #[.val (.int p1), .val (.int p2), .val (.int p3), .val (.int (p2 &&& (3 : Int32))), .val (.int (194 : Int32)), .val (.ref b37), .unset, .unset, .unset, .unset, .unset, .unset, .unset, .unset, .unset, .unset, .unset, .unset, .unset, .unset] []))
    refine own_FinV.step (fun _ => XS.iload X37.here hx rfl (hb hby at_57) rfl) ?_
    show own_FinV p e below s _ _ _ (T37.setTop (mkF m 59 #[.val (.int p1), .val (.int p2), .val (.int p3), .val (.int (p2 &&& (3 : Int32))), .val (.int (194 : Int32)), .val (.ref b37), .unset, .unset, .unset, .unset, .unset, .unset, .unset, .unset, .unset, .unset, .unset, .unset, .unset, .unset] [(.int (194 : Int32))]))
    refine own_FinV.step (fun _ => XS.sipush X37.here hx rfl (hb hby at_59)) ?_
    show own_FinV p e below s _ _ _ (T37.setTop (mkF m 62 #[.val (.int p1), .val (.int p2), .val (.int p3), .val (.int (p2 &&& (3 : Int32))), .val (.int (194 : Int32)), .val (.ref b37), .unset, .unset, .unset, .unset, .unset, .unset, .unset, .unset, .unset, .unset, .unset, .unset, .unset, .unset] [(.int (207 : Int32)), (.int (194 : Int32))]))
    refine own_FinV.step (fun _ => XS.icmpNo X37.here hx rfl (hb hby at_62) rfl (XT.ii_gt_f (by decide : ¬ ((207 : Int32) < (194 : Int32))))) ?_
    show own_FinV p e below s _ _ _ (T37.setTop (mkF m 65 #[.val (.int p1), .val (.int p2), .val (.int p3), .val (.int (p2 &&& (3 : Int32))), .val (.int (194 : Int32)), .val (.ref b37), .unset, .unset, .unset, .unset, .unset, .unset, .unset, .unset, .unset, .unset, .unset, .unset, .unset, .unset] []))
    refine own_FinV.step (fun _ => XS.iconst X37.here hx rfl (hb hby at_65)) ?_
    show own_FinV p e below s _ _ _ (T37.setTop (mkF m 66 #[.val (.int p1), .val (.int p2), .val (.int p3), .val (.int (p2 &&& (3 : Int32))), .val (.int (194 : Int32)), .val (.ref b37), .unset, .unset, .unset, .unset, .unset, .unset, .unset, .unset, .unset, .unset, .unset, .unset, .unset, .unset] [(.int (1 : Int32))]))
    refine own_FinV.step (fun _ => XS.goto X37.here hx rfl (pc0 := 66) (pc' := 70) rfl (hb hby at_66) (by decide) (by decide)) ?_
    show own_FinV p e below s _ _ _ (T37.setTop (mkF m 70 #[.val (.int p1), .val (.int p2), .val (.int p3), .val (.int (p2 &&& (3 : Int32))), .val (.int (194 : Int32)), .val (.ref b37), .unset, .unset, .unset, .unset, .unset, .unset, .unset, .unset, .unset, .unset, .unset, .unset, .unset, .unset] [(.int (1 : Int32))]))
    refine own_FinV.step (fun _ => XS.istore X37.here hx rfl (hb hby at_70) rfl (l' := #[.val (.int p1), .val (.int p2), .val (.int p3), .val (.int (p2 &&& (3 : Int32))), .val (.int (194 : Int32)), .val (.ref b37), .val (.int (1 : Int32)), .unset, .unset, .unset, .unset, .unset, .unset, .unset, .unset, .unset, .unset, .unset, .unset, .unset]) rfl) ?_
    show own_FinV p e below s _ _ _ (T37.setTop (mkF m 72 #[.val (.int p1), .val (.int p2), .val (.int p3), .val (.int (p2 &&& (3 : Int32))), .val (.int (194 : Int32)), .val (.ref b37), .val (.int (1 : Int32)), .unset, .unset, .unset, .unset, .unset, .unset, .unset, .unset, .unset, .unset, .unset, .unset, .unset] []))
    refine own_FinV.step (fun _ => XS.iload X37.here hx rfl (hb hby at_72) rfl) ?_
    show own_FinV p e below s _ _ _ (T37.setTop (mkF m 74 #[.val (.int p1), .val (.int p2), .val (.int p3), .val (.int (p2 &&& (3 : Int32))), .val (.int (194 : Int32)), .val (.ref b37), .val (.int (1 : Int32)), .unset, .unset, .unset, .unset, .unset, .unset, .unset, .unset, .unset, .unset, .unset, .unset, .unset] [(.int (194 : Int32))]))
    refine own_FinV.step (fun _ => XS.bipush X37.here hx rfl (hb hby at_74)) ?_
    show own_FinV p e below s _ _ _ (T37.setTop (mkF m 76 #[.val (.int p1), .val (.int p2), .val (.int p3), .val (.int (p2 &&& (3 : Int32))), .val (.int (194 : Int32)), .val (.ref b37), .val (.int (1 : Int32)), .unset, .unset, .unset, .unset, .unset, .unset, .unset, .unset, .unset, .unset, .unset, .unset, .unset] [(.int (15 : Int32)), (.int (194 : Int32))]))
    refine own_FinV.step (fun _ => XS.iand X37.here hx rfl (hb hby at_76) rfl) ?_
    show own_FinV p e below s _ _ _ (T37.setTop (mkF m 77 #[.val (.int p1), .val (.int p2), .val (.int p3), .val (.int (p2 &&& (3 : Int32))), .val (.int (194 : Int32)), .val (.ref b37), .val (.int (1 : Int32)), .unset, .unset, .unset, .unset, .unset, .unset, .unset, .unset, .unset, .unset, .unset, .unset, .unset] [(.int (2 : Int32))]))
    refine own_FinV.step (fun _ => XS.istore X37.here hx rfl (hb hby at_77) rfl (l' := #[.val (.int p1), .val (.int p2), .val (.int p3), .val (.int (p2 &&& (3 : Int32))), .val (.int (194 : Int32)), .val (.ref b37), .val (.int (1 : Int32)), .val (.int (2 : Int32)), .unset, .unset, .unset, .unset, .unset, .unset, .unset, .unset, .unset, .unset, .unset, .unset]) rfl) ?_
    show own_FinV p e below s _ _ _ (T37.setTop (mkF m 79 #[.val (.int p1), .val (.int p2), .val (.int p3), .val (.int (p2 &&& (3 : Int32))), .val (.int (194 : Int32)), .val (.ref b37), .val (.int (1 : Int32)), .val (.int (2 : Int32)), .unset, .unset, .unset, .unset, .unset, .unset, .unset, .unset, .unset, .unset, .unset, .unset] []))
    refine own_FinV.step (fun _ => XS.iload X37.here hx rfl (hb hby at_79) rfl) ?_
    show own_FinV p e below s _ _ _ (T37.setTop (mkF m 81 #[.val (.int p1), .val (.int p2), .val (.int p3), .val (.int (p2 &&& (3 : Int32))), .val (.int (194 : Int32)), .val (.ref b37), .val (.int (1 : Int32)), .val (.int (2 : Int32)), .unset, .unset, .unset, .unset, .unset, .unset, .unset, .unset, .unset, .unset, .unset, .unset] [(.int (1 : Int32))]))
    refine own_FinV.step (fun _ => XS.ifNo X37.here hx rfl (hb hby at_81) rfl (XT.i0_eq_f (by decide : ¬ ((1 : Int32) = (0 : Int32))))) ?_
    show own_FinV p e below s _ _ _ (T37.setTop (mkF m 84 #[.val (.int p1), .val (.int p2), .val (.int p3), .val (.int (p2 &&& (3 : Int32))), .val (.int (194 : Int32)), .val (.ref b37), .val (.int (1 : Int32)), .val (.int (2 : Int32)), .unset, .unset, .unset, .unset, .unset, .unset, .unset, .unset, .unset, .unset, .unset, .unset] []))
    refine own_FinV.step (fun _ => XS.iload X37.here hx rfl (hb hby at_84) rfl) ?_
    show own_FinV p e below s _ _ _ (T37.setTop (mkF m 86 #[.val (.int p1), .val (.int p2), .val (.int p3), .val (.int (p2 &&& (3 : Int32))), .val (.int (194 : Int32)), .val (.ref b37), .val (.int (1 : Int32)), .val (.int (2 : Int32)), .unset, .unset, .unset, .unset, .unset, .unset, .unset, .unset, .unset, .unset, .unset, .unset] [(.int (2 : Int32))]))
    refine own_FinV.step (fun _ => XS.iconst X37.here hx rfl (hb hby at_86)) ?_
    show own_FinV p e below s _ _ _ (T37.setTop (mkF m 87 #[.val (.int p1), .val (.int p2), .val (.int p3), .val (.int (p2 &&& (3 : Int32))), .val (.int (194 : Int32)), .val (.ref b37), .val (.int (1 : Int32)), .val (.int (2 : Int32)), .unset, .unset, .unset, .unset, .unset, .unset, .unset, .unset, .unset, .unset, .unset, .unset] [(.int (4 : Int32)), (.int (2 : Int32))]))
    refine own_FinV.step (fun _ => XS.icmpNo X37.here hx rfl (hb hby at_87) rfl (XT.ii_eq_f (by decide : ¬ ((2 : Int32) = (4 : Int32))))) ?_
    show own_FinV p e below s _ _ _ (T37.setTop (mkF m 90 #[.val (.int p1), .val (.int p2), .val (.int p3), .val (.int (p2 &&& (3 : Int32))), .val (.int (194 : Int32)), .val (.ref b37), .val (.int (1 : Int32)), .val (.int (2 : Int32)), .unset, .unset, .unset, .unset, .unset, .unset, .unset, .unset, .unset, .unset, .unset, .unset] []))
    refine own_FinV.step (fun _ => XS.iload X37.here hx rfl (hb hby at_90) rfl) ?_
    show own_FinV p e below s _ _ _ (T37.setTop (mkF m 92 #[.val (.int p1), .val (.int p2), .val (.int p3), .val (.int (p2 &&& (3 : Int32))), .val (.int (194 : Int32)), .val (.ref b37), .val (.int (1 : Int32)), .val (.int (2 : Int32)), .unset, .unset, .unset, .unset, .unset, .unset, .unset, .unset, .unset, .unset, .unset, .unset] [(.int (2 : Int32))]))
    refine own_FinV.step (fun _ => XS.bipush X37.here hx rfl (hb hby at_92)) ?_
    show own_FinV p e below s _ _ _ (T37.setTop (mkF m 94 #[.val (.int p1), .val (.int p2), .val (.int p3), .val (.int (p2 &&& (3 : Int32))), .val (.int (194 : Int32)), .val (.ref b37), .val (.int (1 : Int32)), .val (.int (2 : Int32)), .unset, .unset, .unset, .unset, .unset, .unset, .unset, .unset, .unset, .unset, .unset, .unset] [(.int (8 : Int32)), (.int (2 : Int32))]))
    refine own_FinV.step (fun _ => XS.icmpNo X37.here hx rfl (hb hby at_94) rfl (XT.ii_eq_f (by decide : ¬ ((2 : Int32) = (8 : Int32))))) ?_
    show own_FinV p e below s _ _ _ (T37.setTop (mkF m 97 #[.val (.int p1), .val (.int p2), .val (.int p3), .val (.int (p2 &&& (3 : Int32))), .val (.int (194 : Int32)), .val (.ref b37), .val (.int (1 : Int32)), .val (.int (2 : Int32)), .unset, .unset, .unset, .unset, .unset, .unset, .unset, .unset, .unset, .unset, .unset, .unset] []))
    refine own_FinV.step (fun _ => XS.iload X37.here hx rfl (hb hby at_97) rfl) ?_
    show own_FinV p e below s _ _ _ (T37.setTop (mkF m 99 #[.val (.int p1), .val (.int p2), .val (.int p3), .val (.int (p2 &&& (3 : Int32))), .val (.int (194 : Int32)), .val (.ref b37), .val (.int (1 : Int32)), .val (.int (2 : Int32)), .unset, .unset, .unset, .unset, .unset, .unset, .unset, .unset, .unset, .unset, .unset, .unset] [(.int (2 : Int32))]))
    refine own_FinV.step (fun _ => XS.bipush X37.here hx rfl (hb hby at_99)) ?_
    show own_FinV p e below s _ _ _ (T37.setTop (mkF m 101 #[.val (.int p1), .val (.int p2), .val (.int p3), .val (.int (p2 &&& (3 : Int32))), .val (.int (194 : Int32)), .val (.ref b37), .val (.int (1 : Int32)), .val (.int (2 : Int32)), .unset, .unset, .unset, .unset, .unset, .unset, .unset, .unset, .unset, .unset, .unset, .unset] [(.int (12 : Int32)), (.int (2 : Int32))]))
    refine own_FinV.step (fun _ => XS.icmpNo X37.here hx rfl (hb hby at_101) rfl (XT.ii_eq_f (by decide : ¬ ((2 : Int32) = (12 : Int32))))) ?_
    show own_FinV p e below s _ _ _ (T37.setTop (mkF m 104 #[.val (.int p1), .val (.int p2), .val (.int p3), .val (.int (p2 &&& (3 : Int32))), .val (.int (194 : Int32)), .val (.ref b37), .val (.int (1 : Int32)), .val (.int (2 : Int32)), .unset, .unset, .unset, .unset, .unset, .unset, .unset, .unset, .unset, .unset, .unset, .unset] []))
    refine own_FinV.step (fun _ => XS.iconst X37.here hx rfl (hb hby at_104)) ?_
    show own_FinV p e below s _ _ _ (T37.setTop (mkF m 105 #[.val (.int p1), .val (.int p2), .val (.int p3), .val (.int (p2 &&& (3 : Int32))), .val (.int (194 : Int32)), .val (.ref b37), .val (.int (1 : Int32)), .val (.int (2 : Int32)), .unset, .unset, .unset, .unset, .unset, .unset, .unset, .unset, .unset, .unset, .unset, .unset] [(.int (1 : Int32))]))
    refine own_FinV.step (fun _ => XS.goto X37.here hx rfl (pc0 := 105) (pc' := 109) rfl (hb hby at_105) (by decide) (by decide)) ?_
    show own_FinV p e below s _ _ _ (T37.setTop (mkF m 109 #[.val (.int p1), .val (.int p2), .val (.int p3), .val (.int (p2 &&& (3 : Int32))), .val (.int (194 : Int32)), .val (.ref b37), .val (.int (1 : Int32)), .val (.int (2 : Int32)), .unset, .unset, .unset, .unset, .unset, .unset, .unset, .unset, .unset, .unset, .unset, .unset] [(.int (1 : Int32))]))
    refine own_FinV.step (fun _ => XS.istore X37.here hx rfl (hb hby at_109) rfl (l' := #[.val (.int p1), .val (.int p2), .val (.int p3), .val (.int (p2 &&& (3 : Int32))), .val (.int (194 : Int32)), .val (.ref b37), .val (.int (1 : Int32)), .val (.int (2 : Int32)), .val (.int (1 : Int32)), .unset, .unset, .unset, .unset, .unset, .unset, .unset, .unset, .unset, .unset, .unset]) rfl) ?_
    show own_FinV p e below s _ _ _ (T37.setTop (mkF m 111 #[.val (.int p1), .val (.int p2), .val (.int p3), .val (.int (p2 &&& (3 : Int32))), .val (.int (194 : Int32)), .val (.ref b37), .val (.int (1 : Int32)), .val (.int (2 : Int32)), .val (.int (1 : Int32)), .unset, .unset, .unset, .unset, .unset, .unset, .unset, .unset, .unset, .unset, .unset] []))
    refine own_FinV.step (fun _ => XS.iload X37.here hx rfl (hb hby at_111) rfl) ?_
    show own_FinV p e below s _ _ _ (T37.setTop (mkF m 113 #[.val (.int p1), .val (.int p2), .val (.int p3), .val (.int (p2 &&& (3 : Int32))), .val (.int (194 : Int32)), .val (.ref b37), .val (.int (1 : Int32)), .val (.int (2 : Int32)), .val (.int (1 : Int32)), .unset, .unset, .unset, .unset, .unset, .unset, .unset, .unset, .unset, .unset, .unset] [(.int (1 : Int32))]))
    refine own_FinV.step (fun _ => XS.ifYes X37.here hx rfl (pc0 := 113) (pc' := 127) rfl (hb hby at_113) rfl (XT.i0_ne_t (by decide : ¬ ((1 : Int32) = (0 : Int32)))) (by decide) (by decide)) ?_
    show own_FinV p e below s _ _ _ (T37.setTop (mkF m 127 #[.val (.int p1), .val (.int p2), .val (.int p3), .val (.int (p2 &&& (3 : Int32))), .val (.int (194 : Int32)), .val (.ref b37), .val (.int (1 : Int32)), .val (.int (2 : Int32)), .val (.int (1 : Int32)), .unset, .unset, .unset, .unset, .unset, .unset, .unset, .unset, .unset, .unset, .unset] []))
    refine own_FinV.step (fun _ => XS.aload X37.here hx rfl (hb hby at_127) rfl rfl) ?_
    show own_FinV p e below s _ _ _ (T37.setTop (mkF m 129 #[.val (.int p1), .val (.int p2), .val (.int p3), .val (.int (p2 &&& (3 : Int32))), .val (.int (194 : Int32)), .val (.ref b37), .val (.int (1 : Int32)), .val (.int (2 : Int32)), .val (.int (1 : Int32)), .unset, .unset, .unset, .unset, .unset, .unset, .unset, .unset, .unset, .unset, .unset] [(.ref b37)]))
    refine own_FinV.step (fun _ => XS.ifnonnullYes X37.here hx rfl (pc0 := 129) (pc' := 134) rfl (hb hby at_129) rfl (by decide) (by decide)) ?_
    show own_FinV p e below s _ _ _ (T37.setTop (mkF m 134 #[.val (.int p1), .val (.int p2), .val (.int p3), .val (.int (p2 &&& (3 : Int32))), .val (.int (194 : Int32)), .val (.ref b37), .val (.int (1 : Int32)), .val (.int (2 : Int32)), .val (.int (1 : Int32)), .unset, .unset, .unset, .unset, .unset, .unset, .unset, .unset, .unset, .unset, .unset] []))
    refine own_FinV.step (fun _ => XS.iload X37.here hx rfl (hb hby at_134) rfl) ?_
    show own_FinV p e below s _ _ _ (T37.setTop (mkF m 136 #[.val (.int p1), .val (.int p2), .val (.int p3), .val (.int (p2 &&& (3 : Int32))), .val (.int (194 : Int32)), .val (.ref b37), .val (.int (1 : Int32)), .val (.int (2 : Int32)), .val (.int (1 : Int32)), .unset, .unset, .unset, .unset, .unset, .unset, .unset, .unset, .unset, .unset, .unset] [(.int (2 : Int32))]))
    refine own_FinV.step (fun _ => XS.iconst X37.here hx rfl (hb hby at_136)) ?_
    show own_FinV p e below s _ _ _ (T37.setTop (mkF m 137 #[.val (.int p1), .val (.int p2), .val (.int p3), .val (.int (p2 &&& (3 : Int32))), .val (.int (194 : Int32)), .val (.ref b37), .val (.int (1 : Int32)), .val (.int (2 : Int32)), .val (.int (1 : Int32)), .unset, .unset, .unset, .unset, .unset, .unset, .unset, .unset, .unset, .unset, .unset] [(.int (4 : Int32)), (.int (2 : Int32))]))
    refine own_FinV.step (fun _ => XS.iand X37.here hx rfl (hb hby at_137) rfl) ?_
    show own_FinV p e below s _ _ _ (T37.setTop (mkF m 138 #[.val (.int p1), .val (.int p2), .val (.int p3), .val (.int (p2 &&& (3 : Int32))), .val (.int (194 : Int32)), .val (.ref b37), .val (.int (1 : Int32)), .val (.int (2 : Int32)), .val (.int (1 : Int32)), .unset, .unset, .unset, .unset, .unset, .unset, .unset, .unset, .unset, .unset, .unset] [(.int (0 : Int32))]))
    refine own_FinV.step (fun _ => XS.ifYes X37.here hx rfl (pc0 := 138) (pc' := 145) rfl (hb hby at_138) rfl (XT.i0_eq_t (by decide : (0 : Int32) = (0 : Int32))) (by decide) (by decide)) ?_
    show own_FinV p e below s _ _ _ (T37.setTop (mkF m 145 #[.val (.int p1), .val (.int p2), .val (.int p3), .val (.int (p2 &&& (3 : Int32))), .val (.int (194 : Int32)), .val (.ref b37), .val (.int (1 : Int32)), .val (.int (2 : Int32)), .val (.int (1 : Int32)), .unset, .unset, .unset, .unset, .unset, .unset, .unset, .unset, .unset, .unset, .unset] []))
    refine own_FinV.step (fun _ => XS.iconst X37.here hx rfl (hb hby at_145)) ?_
    show own_FinV p e below s _ _ _ (T37.setTop (mkF m 146 #[.val (.int p1), .val (.int p2), .val (.int p3), .val (.int (p2 &&& (3 : Int32))), .val (.int (194 : Int32)), .val (.ref b37), .val (.int (1 : Int32)), .val (.int (2 : Int32)), .val (.int (1 : Int32)), .unset, .unset, .unset, .unset, .unset, .unset, .unset, .unset, .unset, .unset, .unset] [(.int (0 : Int32))]))
    refine own_FinV.step (fun _ => XS.istore X37.here hx rfl (hb hby at_146) rfl (l' := #[.val (.int p1), .val (.int p2), .val (.int p3), .val (.int (p2 &&& (3 : Int32))), .val (.int (194 : Int32)), .val (.ref b37), .val (.int (1 : Int32)), .val (.int (2 : Int32)), .val (.int (1 : Int32)), .val (.int (0 : Int32)), .unset, .unset, .unset, .unset, .unset, .unset, .unset, .unset, .unset, .unset]) rfl) ?_
    show own_FinV p e below s _ _ _ (T37.setTop (mkF m 148 #[.val (.int p1), .val (.int p2), .val (.int p3), .val (.int (p2 &&& (3 : Int32))), .val (.int (194 : Int32)), .val (.ref b37), .val (.int (1 : Int32)), .val (.int (2 : Int32)), .val (.int (1 : Int32)), .val (.int (0 : Int32)), .unset, .unset, .unset, .unset, .unset, .unset, .unset, .unset, .unset, .unset] []))
    refine own_FinV.step (fun _ => XS.iload X37.here hx rfl (hb hby at_148) rfl) ?_
    show own_FinV p e below s _ _ _ (T37.setTop (mkF m 150 #[.val (.int p1), .val (.int p2), .val (.int p3), .val (.int (p2 &&& (3 : Int32))), .val (.int (194 : Int32)), .val (.ref b37), .val (.int (1 : Int32)), .val (.int (2 : Int32)), .val (.int (1 : Int32)), .val (.int (0 : Int32)), .unset, .unset, .unset, .unset, .unset, .unset, .unset, .unset, .unset, .unset] [(.int (2 : Int32))]))
    refine own_FinV.step (fun _ => XS.bipush X37.here hx rfl (hb hby at_150)) ?_
    show own_FinV p e below s _ _ _ (T37.setTop (mkF m 152 #[.val (.int p1), .val (.int p2), .val (.int p3), .val (.int (p2 &&& (3 : Int32))), .val (.int (194 : Int32)), .val (.ref b37), .val (.int (1 : Int32)), .val (.int (2 : Int32)), .val (.int (1 : Int32)), .val (.int (0 : Int32)), .unset, .unset, .unset, .unset, .unset, .unset, .unset, .unset, .unset, .unset] [(.int (8 : Int32)), (.int (2 : Int32))]))
    refine own_FinV.step (fun _ => XS.iand X37.here hx rfl (hb hby at_152) rfl) ?_
    show own_FinV p e below s _ _ _ (T37.setTop (mkF m 153 #[.val (.int p1), .val (.int p2), .val (.int p3), .val (.int (p2 &&& (3 : Int32))), .val (.int (194 : Int32)), .val (.ref b37), .val (.int (1 : Int32)), .val (.int (2 : Int32)), .val (.int (1 : Int32)), .val (.int (0 : Int32)), .unset, .unset, .unset, .unset, .unset, .unset, .unset, .unset, .unset, .unset] [(.int (0 : Int32))]))
    refine own_FinV.step (fun _ => XS.ifYes X37.here hx rfl (pc0 := 153) (pc' := 160) rfl (hb hby at_153) rfl (XT.i0_eq_t (by decide : (0 : Int32) = (0 : Int32))) (by decide) (by decide)) ?_
    show own_FinV p e below s _ _ _ (T37.setTop (mkF m 160 #[.val (.int p1), .val (.int p2), .val (.int p3), .val (.int (p2 &&& (3 : Int32))), .val (.int (194 : Int32)), .val (.ref b37), .val (.int (1 : Int32)), .val (.int (2 : Int32)), .val (.int (1 : Int32)), .val (.int (0 : Int32)), .unset, .unset, .unset, .unset, .unset, .unset, .unset, .unset, .unset, .unset] []))
    refine own_FinV.step (fun _ => XS.iconst X37.here hx rfl (hb hby at_160)) ?_
    show own_FinV p e below s _ _ _ (T37.setTop (mkF m 161 #[.val (.int p1), .val (.int p2), .val (.int p3), .val (.int (p2 &&& (3 : Int32))), .val (.int (194 : Int32)), .val (.ref b37), .val (.int (1 : Int32)), .val (.int (2 : Int32)), .val (.int (1 : Int32)), .val (.int (0 : Int32)), .unset, .unset, .unset, .unset, .unset, .unset, .unset, .unset, .unset, .unset] [(.int (0 : Int32))]))
    refine own_FinV.step (fun _ => XS.istore X37.here hx rfl (hb hby at_161) rfl (l' := #[.val (.int p1), .val (.int p2), .val (.int p3), .val (.int (p2 &&& (3 : Int32))), .val (.int (194 : Int32)), .val (.ref b37), .val (.int (1 : Int32)), .val (.int (2 : Int32)), .val (.int (1 : Int32)), .val (.int (0 : Int32)), .val (.int (0 : Int32)), .unset, .unset, .unset, .unset, .unset, .unset, .unset, .unset, .unset]) rfl) ?_
    show own_FinV p e below s _ _ _ (T37.setTop (mkF m 163 #[.val (.int p1), .val (.int p2), .val (.int p3), .val (.int (p2 &&& (3 : Int32))), .val (.int (194 : Int32)), .val (.ref b37), .val (.int (1 : Int32)), .val (.int (2 : Int32)), .val (.int (1 : Int32)), .val (.int (0 : Int32)), .val (.int (0 : Int32)), .unset, .unset, .unset, .unset, .unset, .unset, .unset, .unset, .unset] []))
    refine own_FinV.step (fun _ => XS.iload X37.here hx rfl (hb hby at_163) rfl) ?_
    show own_FinV p e below s _ _ _ (T37.setTop (mkF m 165 #[.val (.int p1), .val (.int p2), .val (.int p3), .val (.int (p2 &&& (3 : Int32))), .val (.int (194 : Int32)), .val (.ref b37), .val (.int (1 : Int32)), .val (.int (2 : Int32)), .val (.int (1 : Int32)), .val (.int (0 : Int32)), .val (.int (0 : Int32)), .unset, .unset, .unset, .unset, .unset, .unset, .unset, .unset, .unset] [(.int (2 : Int32))]))
    refine own_FinV.step (fun _ => XS.iconst X37.here hx rfl (hb hby at_165)) ?_
    show own_FinV p e below s _ _ _ (T37.setTop (mkF m 166 #[.val (.int p1), .val (.int p2), .val (.int p3), .val (.int (p2 &&& (3 : Int32))), .val (.int (194 : Int32)), .val (.ref b37), .val (.int (1 : Int32)), .val (.int (2 : Int32)), .val (.int (1 : Int32)), .val (.int (0 : Int32)), .val (.int (0 : Int32)), .unset, .unset, .unset, .unset, .unset, .unset, .unset, .unset, .unset] [(.int (3 : Int32)), (.int (2 : Int32))]))
    refine own_FinV.step (fun _ => XS.iand X37.here hx rfl (hb hby at_166) rfl) ?_
    show own_FinV p e below s _ _ _ (T37.setTop (mkF m 167 #[.val (.int p1), .val (.int p2), .val (.int p3), .val (.int (p2 &&& (3 : Int32))), .val (.int (194 : Int32)), .val (.ref b37), .val (.int (1 : Int32)), .val (.int (2 : Int32)), .val (.int (1 : Int32)), .val (.int (0 : Int32)), .val (.int (0 : Int32)), .unset, .unset, .unset, .unset, .unset, .unset, .unset, .unset, .unset] [(.int (2 : Int32))]))
    refine own_FinV.step (fun _ => XS.istore X37.here hx rfl (hb hby at_167) rfl (l' := #[.val (.int p1), .val (.int p2), .val (.int p3), .val (.int (p2 &&& (3 : Int32))), .val (.int (194 : Int32)), .val (.ref b37), .val (.int (1 : Int32)), .val (.int (2 : Int32)), .val (.int (1 : Int32)), .val (.int (0 : Int32)), .val (.int (0 : Int32)), .val (.int (2 : Int32)), .unset, .unset, .unset, .unset, .unset, .unset, .unset, .unset]) rfl) ?_
    show own_FinV p e below s _ _ _ (T37.setTop (mkF m 169 #[.val (.int p1), .val (.int p2), .val (.int p3), .val (.int (p2 &&& (3 : Int32))), .val (.int (194 : Int32)), .val (.ref b37), .val (.int (1 : Int32)), .val (.int (2 : Int32)), .val (.int (1 : Int32)), .val (.int (0 : Int32)), .val (.int (0 : Int32)), .val (.int (2 : Int32)), .unset, .unset, .unset, .unset, .unset, .unset, .unset, .unset] []))
    refine own_FinV.step (fun _ => XS.iload X37.here hx rfl (hb hby at_169) rfl) ?_
    show own_FinV p e below s _ _ _ (T37.setTop (mkF m 171 #[.val (.int p1), .val (.int p2), .val (.int p3), .val (.int (p2 &&& (3 : Int32))), .val (.int (194 : Int32)), .val (.ref b37), .val (.int (1 : Int32)), .val (.int (2 : Int32)), .val (.int (1 : Int32)), .val (.int (0 : Int32)), .val (.int (0 : Int32)), .val (.int (2 : Int32)), .unset, .unset, .unset, .unset, .unset, .unset, .unset, .unset] [(.int (0 : Int32))]))
    refine own_FinV.step (fun _ => XS.ifYes X37.here hx rfl (pc0 := 171) (pc' := 179) rfl (hb hby at_171) rfl (XT.i0_eq_t (by decide : (0 : Int32) = (0 : Int32))) (by decide) (by decide)) ?_
    show own_FinV p e below s _ _ _ (T37.setTop (mkF m 179 #[.val (.int p1), .val (.int p2), .val (.int p3), .val (.int (p2 &&& (3 : Int32))), .val (.int (194 : Int32)), .val (.ref b37), .val (.int (1 : Int32)), .val (.int (2 : Int32)), .val (.int (1 : Int32)), .val (.int (0 : Int32)), .val (.int (0 : Int32)), .val (.int (2 : Int32)), .unset, .unset, .unset, .unset, .unset, .unset, .unset, .unset] []))
    obtain ⟨b39, T39, h39, k39, X39, e39, E39, hS39, hk39, hZ39, hown39, St39, C39, st39⟩ := own_ldcV (s := s) (vm0 := T37.vm) X37 hx hZ hown (own_w hw 12 rfl) own_wS rfl hS hk hEL (List.mem_of_getElem? (i := 14) rfl) C37 (by decide) (g := (mkF m 179 #[.val (.int p1), .val (.int p2), .val (.int p3), .val (.int (p2 &&& (3 : Int32))), .val (.int (194 : Int32)), .val (.ref b37), .val (.int (1 : Int32)), .val (.int (2 : Int32)), .val (.int (1 : Int32)), .val (.int (0 : Int32)), .val (.int (0 : Int32)), .val (.int (2 : Int32)), .unset, .unset, .unset, .unset, .unset, .unset, .unset, .unset] [])) rfl (hb hby at_179) (n := 0) (by decide) (by decide) (by decide) (by decide)
    have hS := hS39
    have hk := hk39
    have hZ := hZ39
    have hown := hown39
    have f40 := f38.ext E39
    have f41 := St37.ext E39
    have Z39 : n0 ≤ h39.size := Nat.le_trans Z37 E39.1
    refine own_FinV.step st39 ?_
    show own_FinV p e below s _ _ _ (T39.setTop (mkF m 181 #[.val (.int p1), .val (.int p2), .val (.int p3), .val (.int (p2 &&& (3 : Int32))), .val (.int (194 : Int32)), .val (.ref b37), .val (.int (1 : Int32)), .val (.int (2 : Int32)), .val (.int (1 : Int32)), .val (.int (0 : Int32)), .val (.int (0 : Int32)), .val (.int (2 : Int32)), .unset, .unset, .unset, .unset, .unset, .unset, .unset, .unset] [(.ref b39)]))
    refine own_FinV.step (fun _ => XS.astore X39.here hx rfl (hb hby at_181) rfl rfl (l' := #[.val (.int p1), .val (.int p2), .val (.int p3), .val (.int (p2 &&& (3 : Int32))), .val (.int (194 : Int32)), .val (.ref b37), .val (.int (1 : Int32)), .val (.int (2 : Int32)), .val (.int (1 : Int32)), .val (.int (0 : Int32)), .val (.int (0 : Int32)), .val (.int (2 : Int32)), .val (.ref b39), .unset, .unset, .unset, .unset, .unset, .unset, .unset]) rfl) ?_
    show own_FinV p e below s _ _ _ (T39.setTop (mkF m 183 #[.val (.int p1), .val (.int p2), .val (.int p3), .val (.int (p2 &&& (3 : Int32))), .val (.int (194 : Int32)), .val (.ref b37), .val (.int (1 : Int32)), .val (.int (2 : Int32)), .val (.int (1 : Int32)), .val (.int (0 : Int32)), .val (.int (0 : Int32)), .val (.int (2 : Int32)), .val (.ref b39), .unset, .unset, .unset, .unset, .unset, .unset, .unset] []))
    refine own_FinV.step (fun _ => XS.iload X39.here hx rfl (hb hby at_183) rfl) ?_
    show own_FinV p e below s _ _ _ (T39.setTop (mkF m 185 #[.val (.int p1), .val (.int p2), .val (.int p3), .val (.int (p2 &&& (3 : Int32))), .val (.int (194 : Int32)), .val (.ref b37), .val (.int (1 : Int32)), .val (.int (2 : Int32)), .val (.int (1 : Int32)), .val (.int (0 : Int32)), .val (.int (0 : Int32)), .val (.int (2 : Int32)), .val (.ref b39), .unset, .unset, .unset, .unset, .unset, .unset, .unset] [(.int (2 : Int32))]))
    refine own_FinV.step (fun _ => XS.ifYes X39.here hx rfl (pc0 := 185) (pc' := 195) rfl (hb hby at_185) rfl (XT.i0_ne_t (by decide : ¬ ((2 : Int32) = (0 : Int32)))) (by decide) (by decide)) ?_
    show own_FinV p e below s _ _ _ (T39.setTop (mkF m 195 #[.val (.int p1), .val (.int p2), .val (.int p3), .val (.int (p2 &&& (3 : Int32))), .val (.int (194 : Int32)), .val (.ref b37), .val (.int (1 : Int32)), .val (.int (2 : Int32)), .val (.int (1 : Int32)), .val (.int (0 : Int32)), .val (.int (0 : Int32)), .val (.int (2 : Int32)), .val (.ref b39), .unset, .unset, .unset, .unset, .unset, .unset, .unset] []))
    refine own_FinV.step (fun _ => XS.iload X39.here hx rfl (hb hby at_195) rfl) ?_
    show own_FinV p e below s _ _ _ (T39.setTop (mkF m 197 #[.val (.int p1), .val (.int p2), .val (.int p3), .val (.int (p2 &&& (3 : Int32))), .val (.int (194 : Int32)), .val (.ref b37), .val (.int (1 : Int32)), .val (.int (2 : Int32)), .val (.int (1 : Int32)), .val (.int (0 : Int32)), .val (.int (0 : Int32)), .val (.int (2 : Int32)), .val (.ref b39), .unset, .unset, .unset, .unset, .unset, .unset, .unset] [(.int (2 : Int32))]))
    refine own_FinV.step (fun _ => XS.iconst X39.here hx rfl (hb hby at_197)) ?_
    show own_FinV p e below s _ _ _ (T39.setTop (mkF m 198 #[.val (.int p1), .val (.int p2), .val (.int p3), .val (.int (p2 &&& (3 : Int32))), .val (.int (194 : Int32)), .val (.ref b37), .val (.int (1 : Int32)), .val (.int (2 : Int32)), .val (.int (1 : Int32)), .val (.int (0 : Int32)), .val (.int (0 : Int32)), .val (.int (2 : Int32)), .val (.ref b39), .unset, .unset, .unset, .unset, .unset, .unset, .unset] [(.int (1 : Int32)), (.int (2 : Int32))]))
    refine own_FinV.step (fun _ => XS.icmpYes X39.here hx rfl (pc0 := 198) (pc' := 218) rfl (hb hby at_198) rfl (XT.ii_ne_t (by decide : ¬ ((2 : Int32) = (1 : Int32)))) (by decide) (by decide)) ?_
    show own_FinV p e below s _ _ _ (T39.setTop (mkF m 218 #[.val (.int p1), .val (.int p2), .val (.int p3), .val (.int (p2 &&& (3 : Int32))), .val (.int (194 : Int32)), .val (.ref b37), .val (.int (1 : Int32)), .val (.int (2 : Int32)), .val (.int (1 : Int32)), .val (.int (0 : Int32)), .val (.int (0 : Int32)), .val (.int (2 : Int32)), .val (.ref b39), .unset, .unset, .unset, .unset, .unset, .unset, .unset] []))
    refine own_FinV.step (fun _ => XS.iload X39.here hx rfl (hb hby at_218) rfl) ?_
    show own_FinV p e below s _ _ _ (T39.setTop (mkF m 220 #[.val (.int p1), .val (.int p2), .val (.int p3), .val (.int (p2 &&& (3 : Int32))), .val (.int (194 : Int32)), .val (.ref b37), .val (.int (1 : Int32)), .val (.int (2 : Int32)), .val (.int (1 : Int32)), .val (.int (0 : Int32)), .val (.int (0 : Int32)), .val (.int (2 : Int32)), .val (.ref b39), .unset, .unset, .unset, .unset, .unset, .unset, .unset] [(.int (2 : Int32))]))
    refine own_FinV.step (fun _ => XS.iconst X39.here hx rfl (hb hby at_220)) ?_
    show own_FinV p e below s _ _ _ (T39.setTop (mkF m 221 #[.val (.int p1), .val (.int p2), .val (.int p3), .val (.int (p2 &&& (3 : Int32))), .val (.int (194 : Int32)), .val (.ref b37), .val (.int (1 : Int32)), .val (.int (2 : Int32)), .val (.int (1 : Int32)), .val (.int (0 : Int32)), .val (.int (0 : Int32)), .val (.int (2 : Int32)), .val (.ref b39), .unset, .unset, .unset, .unset, .unset, .unset, .unset] [(.int (2 : Int32)), (.int (2 : Int32))]))
    refine own_FinV.step (fun _ => XS.icmpNo X39.here hx rfl (hb hby at_221) rfl (XT.ii_ne_f (by decide : (2 : Int32) = (2 : Int32)))) ?_
    show own_FinV p e below s _ _ _ (T39.setTop (mkF m 224 #[.val (.int p1), .val (.int p2), .val (.int p3), .val (.int (p2 &&& (3 : Int32))), .val (.int (194 : Int32)), .val (.ref b37), .val (.int (1 : Int32)), .val (.int (2 : Int32)), .val (.int (1 : Int32)), .val (.int (0 : Int32)), .val (.int (0 : Int32)), .val (.int (2 : Int32)), .val (.ref b39), .unset, .unset, .unset, .unset, .unset, .unset, .unset] []))
    obtain ⟨b42, T42, h42, k42, X42, e42, E42, hS42, hk42, hZ42, hown42, St42, C42, st42⟩ := own_ldcV (s := s) (vm0 := T39.vm) X39 hx hZ hown (own_w hw 51 rfl) own_wS e39 hS hk hEL (List.mem_of_getElem? (i := 18) rfl) C39 (by decide) (g := (mkF m 224 #[.val (.int p1), .val (.int p2), .val (.int p3), .val (.int (p2 &&& (3 : Int32))), .val (.int (194 : Int32)), .val (.ref b37), .val (.int (1 : Int32)), .val (.int (2 : Int32)), .val (.int (1 : Int32)), .val (.int (0 : Int32)), .val (.int (0 : Int32)), .val (.int (2 : Int32)), .val (.ref b39), .unset, .unset, .unset, .unset, .unset, .unset, .unset] [])) rfl (hb hby at_224) (n := 44) (by decide) (by decide) (by decide) (by decide)
    have hS := hS42
    have hk := hk42
    have hZ := hZ42
    have hown := hown42
    have f43 := f40.ext E42
    have f44 := f41.ext E42
    have f45 := St39.ext E42
    have Z42 : n0 ≤ h42.size := Nat.le_trans Z39 E42.1
    refine own_FinV.step st42 ?_
    show own_FinV p e below s _ _ _ (T42.setTop (mkF m 226 #[.val (.int p1), .val (.int p2), .val (.int p3), .val (.int (p2 &&& (3 : Int32))), .val (.int (194 : Int32)), .val (.ref b37), .val (.int (1 : Int32)), .val (.int (2 : Int32)), .val (.int (1 : Int32)), .val (.int (0 : Int32)), .val (.int (0 : Int32)), .val (.int (2 : Int32)), .val (.ref b39), .unset, .unset, .unset, .unset, .unset, .unset, .unset] [(.ref b42)]))
    refine own_FinV.step (fun _ => XS.astore X42.here hx rfl (hb hby at_226) rfl rfl (l' := #[.val (.int p1), .val (.int p2), .val (.int p3), .val (.int (p2 &&& (3 : Int32))), .val (.int (194 : Int32)), .val (.ref b37), .val (.int (1 : Int32)), .val (.int (2 : Int32)), .val (.int (1 : Int32)), .val (.int (0 : Int32)), .val (.int (0 : Int32)), .val (.int (2 : Int32)), .val (.ref b39), .val (.ref b42), .unset, .unset, .unset, .unset, .unset, .unset]) rfl) ?_
    show own_FinV p e below s _ _ _ (T42.setTop (mkF m 228 #[.val (.int p1), .val (.int p2), .val (.int p3), .val (.int (p2 &&& (3 : Int32))), .val (.int (194 : Int32)), .val (.ref b37), .val (.int (1 : Int32)), .val (.int (2 : Int32)), .val (.int (1 : Int32)), .val (.int (0 : Int32)), .val (.int (0 : Int32)), .val (.int (2 : Int32)), .val (.ref b39), .val (.ref b42), .unset, .unset, .unset, .unset, .unset, .unset] []))
    refine own_FinV.step (fun _ => XS.goto X42.here hx rfl (pc0 := 228) (pc' := 235) rfl (hb hby at_228) (by decide) (by decide)) ?_
    show own_FinV p e below s _ _ _ (T42.setTop (mkF m 235 #[.val (.int p1), .val (.int p2), .val (.int p3), .val (.int (p2 &&& (3 : Int32))), .val (.int (194 : Int32)), .val (.ref b37), .val (.int (1 : Int32)), .val (.int (2 : Int32)), .val (.int (1 : Int32)), .val (.int (0 : Int32)), .val (.int (0 : Int32)), .val (.int (2 : Int32)), .val (.ref b39), .val (.ref b42), .unset, .unset, .unset, .unset, .unset, .unset] []))
    refine own_FinV.step (fun _ => XS.iload X42.here hx rfl (hb hby at_235) rfl) ?_
    show own_FinV p e below s _ _ _ (T42.setTop (mkF m 237 #[.val (.int p1), .val (.int p2), .val (.int p3), .val (.int (p2 &&& (3 : Int32))), .val (.int (194 : Int32)), .val (.ref b37), .val (.int (1 : Int32)), .val (.int (2 : Int32)), .val (.int (1 : Int32)), .val (.int (0 : Int32)), .val (.int (0 : Int32)), .val (.int (2 : Int32)), .val (.ref b39), .val (.ref b42), .unset, .unset, .unset, .unset, .unset, .unset] [(.int (0 : Int32))]))
    refine own_FinV.step (fun _ => XS.ifYes X42.here hx rfl (pc0 := 237) (pc' := 245) rfl (hb hby at_237) rfl (XT.i0_eq_t (by decide : (0 : Int32) = (0 : Int32))) (by decide) (by decide)) ?_
    show own_FinV p e below s _ _ _ (T42.setTop (mkF m 245 #[.val (.int p1), .val (.int p2), .val (.int p3), .val (.int (p2 &&& (3 : Int32))), .val (.int (194 : Int32)), .val (.ref b37), .val (.int (1 : Int32)), .val (.int (2 : Int32)), .val (.int (1 : Int32)), .val (.int (0 : Int32)), .val (.int (0 : Int32)), .val (.int (2 : Int32)), .val (.ref b39), .val (.ref b42), .unset, .unset, .unset, .unset, .unset, .unset] []))
    obtain ⟨b46, T46, h46, k46, X46, e46, E46, hS46, hk46, hZ46, hown46, St46, C46, st46⟩ := own_ldcV (s := s) (vm0 := T42.vm) X42 hx hZ hown (own_w hw 12 rfl) own_wS e42 hS hk hEL (List.mem_of_getElem? (i := 14) rfl) C42 (by decide) (g := (mkF m 245 #[.val (.int p1), .val (.int p2), .val (.int p3), .val (.int (p2 &&& (3 : Int32))), .val (.int (194 : Int32)), .val (.ref b37), .val (.int (1 : Int32)), .val (.int (2 : Int32)), .val (.int (1 : Int32)), .val (.int (0 : Int32)), .val (.int (0 : Int32)), .val (.int (2 : Int32)), .val (.ref b39), .val (.ref b42), .unset, .unset, .unset, .unset, .unset, .unset] [])) rfl (hb hby at_245) (n := 0) (by decide) (by decide) (by decide) (by decide)
    have hS := hS46
    have hk := hk46
    have hZ := hZ46
    have hown := hown46
    have f47 := f43.ext E46
    have f48 := f44.ext E46
    have f49 := f45.ext E46
    have f50 := St42.ext E46
    have Z46 : n0 ≤ h46.size := Nat.le_trans Z42 E46.1
    refine own_FinV.step st46 ?_
    show own_FinV p e below s _ _ _ (T46.setTop (mkF m 247 #[.val (.int p1), .val (.int p2), .val (.int p3), .val (.int (p2 &&& (3 : Int32))), .val (.int (194 : Int32)), .val (.ref b37), .val (.int (1 : Int32)), .val (.int (2 : Int32)), .val (.int (1 : Int32)), .val (.int (0 : Int32)), .val (.int (0 : Int32)), .val (.int (2 : Int32)), .val (.ref b39), .val (.ref b42), .unset, .unset, .unset, .unset, .unset, .unset] [(.ref b46)]))
    refine own_FinV.step (fun _ => XS.astore X46.here hx rfl (hb hby at_247) rfl rfl (l' := #[.val (.int p1), .val (.int p2), .val (.int p3), .val (.int (p2 &&& (3 : Int32))), .val (.int (194 : Int32)), .val (.ref b37), .val (.int (1 : Int32)), .val (.int (2 : Int32)), .val (.int (1 : Int32)), .val (.int (0 : Int32)), .val (.int (0 : Int32)), .val (.int (2 : Int32)), .val (.ref b39), .val (.ref b42), .val (.ref b46), .unset, .unset, .unset, .unset, .unset]) rfl) ?_
    have hcat : own_bs "progressive" = own_bs "" ++ own_bs "progressive" ++ own_bs "" := by decide +kernel
    rw [hcat] at f48
    exact own_tail hw X46 hx hby hml hown hret hlk hZ Z46 N37 e46 hS hk C46 hcs rv f47 f48 f49 f50 St46 (by decide) (by decide) (by decide) (by decide) (by decide) (by decide)
  ·
    show own_FinV p e below s _ _ _ (s₁.setTop (mkF m 42 #[.val (.int p1), .val (.int p2), .val (.int p3), .val (.int (p2 &&& (3 : Int32))), .val (.int (195 : Int32)), .unset, .unset, .unset, .unset, .unset, .unset, .unset, .unset, .unset, .unset, .unset, .unset, .unset, .unset, .unset] []))
    refine own_FinV.step (fun _ => XS.iload X0.here hx rfl (hb hby at_42) rfl) ?_
    show own_FinV p e below s _ _ _ (s₁.setTop (mkF m 44 #[.val (.int p1), .val (.int p2), .val (.int p3), .val (.int (p2 &&& (3 : Int32))), .val (.int (195 : Int32)), .unset, .unset, .unset, .unset, .unset, .unset, .unset, .unset, .unset, .unset, .unset, .unset, .unset, .unset, .unset] [(.int (195 : Int32))]))
    obtain ⟨_, T51, L51, k51, X51, ⟨b51, rfl, N51q, E51, St51⟩, hS51, hk51, hZ51, hown51, C51, st51⟩ := own_callSV (s := s) (vm0 := s.vm) X0 hx hZ hown (own_w hw 0 rfl) (own_w hw 1 rfl) (own_w hw 2 rfl) (own_w hw 3 rfl) (by decide) (rm8_195 l Z a0 hw  h0 n0 Z0 ) (by decide) (by decide) hS hk hEL C0 e0 (W := 0) (g := (mkF m 44 #[.val (.int p1), .val (.int p2), .val (.int p3), .val (.int (p2 &&& (3 : Int32))), .val (.int (195 : Int32)), .unset, .unset, .unset, .unset, .unset, .unset, .unset, .unset, .unset, .unset, .unset, .unset, .unset, .unset, .unset] [(.int (195 : Int32))])) rfl (by rw [hml]; rfl) (argsL := [(.int (195 : Int32))]) (rest := []) (lenOf pd_7 rfl) rfl rfl (by show 2 * 0 + _ ≤ _; exact Nat.le_of_eq rfl) (hb hby at_44) (by decide) (by decide)
    have hS := hS51
    have hk := hk51
    have hZ := hZ51
    have hown := hown51
    have N51 := Fr.app N0 N51q
    have Z51 : n0 ≤ T51.heap.size := Nat.le_trans Z0 E51.1
    have f52 := SS.ext E51
    refine own_FinV.step st51 ?_
    show own_FinV p e below s _ _ _ (T51.setTop (mkF m 47 #[.val (.int p1), .val (.int p2), .val (.int p3), .val (.int (p2 &&& (3 : Int32))), .val (.int (195 : Int32)), .unset, .unset, .unset, .unset, .unset, .unset, .unset, .unset, .unset, .unset, .unset, .unset, .unset, .unset, .unset] [(.ref b51)]))
    refine own_FinV.step (fun _ => XS.astore X51.here hx rfl (hb hby at_47) rfl rfl (l' := #[.val (.int p1), .val (.int p2), .val (.int p3), .val (.int (p2 &&& (3 : Int32))), .val (.int (195 : Int32)), .val (.ref b51), .unset, .unset, .unset, .unset, .unset, .unset, .unset, .unset, .unset, .unset, .unset, .unset, .unset, .unset]) rfl) ?_
    show own_FinV p e below s _ _ _ (T51.setTop (mkF m 49 #[.val (.int p1), .val (.int p2), .val (.int p3), .val (.int (p2 &&& (3 : Int32))), .val (.int (195 : Int32)), .val (.ref b51), .unset, .unset, .unset, .unset, .unset, .unset, .unset, .unset, .unset, .unset, .unset, .unset, .unset, .unset] []))
    refine own_FinV.step (fun _ => XS.iload X51.here hx rfl (hb hby at_49) rfl) ?_
    show own_FinV p e below s _ _ _ (T51.setTop (mkF m 51 #[.val (.int p1), .val (.int p2), .val (.int p3), .val (.int (p2 &&& (3 : Int32))), .val (.int (195 : Int32)), .val (.ref b51), .unset, .unset, .unset, .unset, .unset, .unset, .unset, .unset, .unset, .unset, .unset, .unset, .unset, .unset] [(.int (195 : Int32))]))
    refine own_FinV.step (fun _ => XS.sipush X51.here hx rfl (hb hby at_51)) ?_
    show own_FinV p e below s _ _ _ (T51.setTop (mkF m 54 #[.val (.int p1), .val (.int p2), .val (.int p3), .val (.int (p2 &&& (3 : Int32))), .val (.int (195 : Int32)), .val (.ref b51), .unset, .unset, .unset, .unset, .unset, .unset, .unset, .unset, .unset, .unset, .unset, .unset, .unset, .unset] [(.int (192 : Int32)), (.int (195 : Int32))]))
    refine own_FinV.step (fun _ => XS.icmpNo X51.here hx rfl (hb hby at_54) rfl (XT.ii_lt_f (by decide : ¬ ((195 : Int32) < (192 : Int32))))) ?_
    show own_FinV p e below s _ _ _ (T51.setTop (mkF m 57 #[.val (.int p1), .val (.int p2), .val (.int p3), .val (.int (p2 &&& (3 : Int32))), .val (.int (195 : Int32)), .val (.ref b51), .unset, .unset, .unset, .unset, .unset, .unset, .unset, .unset, .unset, .unset, .unset, .unset, .unset, .unset] []))
    refine own_FinV.step (fun _ => XS.iload X51.here hx rfl (hb hby at_57) rfl) ?_
    show own_FinV p e below s _ _ _ (T51.setTop (mkF m 59 #[.val (.int p1), .val (.int p2), .val (.int p3), .val (.int (p2 &&& (3 : Int32))), .val (.int (195 : Int32)), .val (.ref b51), .unset, .unset, .unset, .unset, .unset, .unset, .unset, .unset, .unset, .unset, .unset, .unset, .unset, .unset] [(.int (195 : Int32))]))
    refine own_FinV.step (fun _ => XS.sipush X51.here hx rfl (hb hby at_59)) ?_
    show own_FinV p e below s _ _ _ (T51.setTop (mkF m 62 #[.val (.int p1), .val (.int p2), .val (.int p3), .val (.int (p2 &&& (3 : Int32))), .val (.int (195 : Int32)), .val (.ref b51), .unset, .unset, .unset, .unset, .unset, .unset, .unset, .unset, .unset, .unset, .unset, .unset, .unset, .unset] [(.int (207 : Int32)), (.int (195 : Int32))]))
    refine own_FinV.step (fun _ => XS.icmpNo X51.here hx rfl (hb hby at_62) rfl (XT.ii_gt_f (by decide : ¬ ((207 : Int32) < (195 : Int32))))) ?_
    show own_FinV p e below s _ _ _ (T51.setTop (mkF m 65 #[.val (.int p1), .val (.int p2), .val (.int p3), .val (.int (p2 &&& (3 : Int32))), .val (.int (195 : Int32)), .val (.ref b51), .unset, .unset, .unset, .unset, .unset, .unset, .unset, .unset, .unset, .unset, .unset, .unset, .unset, .unset] []))
    refine own_FinV.step (fun _ => XS.iconst X51.here hx rfl (hb hby at_65)) ?_
    show own_FinV p e below s _ _ _ (T51.setTop (mkF m 66 #[.val (.int p1), .val (.int p2), .val (.int p3), .val (.int (p2 &&& (3 : Int32))), .val (.int (195 : Int32)), .val (.ref b51), .unset, .unset, .unset, .unset, .unset, .unset, .unset, .unset, .unset, .unset, .unset, .unset, .unset, .unset] [(.int (1 : Int32))]))
    refine own_FinV.step (fun _ => XS.goto X51.here hx rfl (pc0 := 66) (pc' := 70) rfl (hb hby at_66) (by decide) (by decide)) ?_
    show own_FinV p e below s _ _ _ (T51.setTop (mkF m 70 #[.val (.int p1), .val (.int p2), .val (.int p3), .val (.int (p2 &&& (3 : Int32))), .val (.int (195 : Int32)), .val (.ref b51), .unset, .unset, .unset, .unset, .unset, .unset, .unset, .unset, .unset, .unset, .unset, .unset, .unset, .unset] [(.int (1 : Int32))]))
    refine own_FinV.step (fun _ => XS.istore X51.here hx rfl (hb hby at_70) rfl (l' := #[.val (.int p1), .val (.int p2), .val (.int p3), .val (.int (p2 &&& (3 : Int32))), .val (.int (195 : Int32)), .val (.ref b51), .val (.int (1 : Int32)), .unset, .unset, .unset, .unset, .unset, .unset, .unset, .unset, .unset, .unset, .unset, .unset, .unset]) rfl) ?_
    show own_FinV p e below s _ _ _ (T51.setTop (mkF m 72 #[.val (.int p1), .val (.int p2), .val (.int p3), .val (.int (p2 &&& (3 : Int32))), .val (.int (195 : Int32)), .val (.ref b51), .val (.int (1 : Int32)), .unset, .unset, .unset, .unset, .unset, .unset, .unset, .unset, .unset, .unset, .unset, .unset, .unset] []))
    refine own_FinV.step (fun _ => XS.iload X51.here hx rfl (hb hby at_72) rfl) ?_
    show own_FinV p e below s _ _ _ (T51.setTop (mkF m 74 #[.val (.int p1), .val (.int p2), .val (.int p3), .val (.int (p2 &&& (3 : Int32))), .val (.int (195 : Int32)), .val (.ref b51), .val (.int (1 : Int32)), .unset, .unset, .unset, .unset, .unset, .unset, .unset, .unset, .unset, .unset, .unset, .unset, .unset] [(.int (195 : Int32))]))
    refine own_FinV.step (fun _ => XS.bipush X51.here hx rfl (hb hby at_74)) ?_
    show own_FinV p e below s _ _ _ (T51.setTop (mkF m 76 #[.val (.int p1), .val (.int p2), .val (.int p3), .val (.int (p2 &&& (3 : Int32))), .val (.int (195 : Int32)), .val (.ref b51), .val (.int (1 : Int32)), .unset, .unset, .unset, .unset, .unset, .unset, .unset, .unset, .unset, .unset, .unset, .unset, .unset] [(.int (15 : Int32)), (.int (195 : Int32))]))
    refine own_FinV.step (fun _ => XS.iand X51.here hx rfl (hb hby at_76) rfl) ?_
    show own_FinV p e below s _ _ _ (T51.setTop (mkF m 77 #[.val (.int p1), .val (.int p2), .val (.int p3), .val (.int (p2 &&& (3 : Int32))), .val (.int (195 : Int32)), .val (.ref b51), .val (.int (1 : Int32)), .unset, .unset, .unset, .unset, .unset, .unset, .unset, .unset, .unset, .unset, .unset, .unset, .unset] [(.int (3 : Int32))]))
    refine own_FinV.step (fun _ => XS.istore X51.here hx rfl (hb hby at_77) rfl (l' := #[.val (.int p1), .val (.int p2), .val (.int p3), .val (.int (p2 &&& (3 : Int32))), .val (.int (195 : Int32)), .val (.ref b51), .val (.int (1 : Int32)), .val (.int (3 : Int32)), .unset, .unset, .unset, .unset, .unset, .unset, .unset, .unset, .unset, .unset, .unset, .unset]) rfl) ?_
    show own_FinV p e below s _ _ _ (T51.setTop (mkF m 79 #[.val (.int p1), .val (.int p2), .val (.int p3), .val (.int (p2 &&& (3 : Int32))), .val (.int (195 : Int32)), .val (.ref b51), .val (.int (1 : Int32)), .val (.int (3 : Int32)), .unset, .unset, .unset, .unset, .unset, .unset, .unset, .unset, .unset, .unset, .unset, .unset] []))
    refine own_FinV.step (fun _ => XS.iload X51.here hx rfl (hb hby at_79) rfl) ?_
    show own_FinV p e below s _ _ _ (T51.setTop (mkF m 81 #[.val (.int p1), .val (.int p2), .val (.int p3), .val (.int (p2 &&& (3 : Int32))), .val (.int (195 : Int32)), .val (.ref b51), .val (.int (1 : Int32)), .val (.int (3 : Int32)), .unset, .unset, .unset, .unset, .unset, .unset, .unset, .unset, .unset, .unset, .unset, .unset] [(.int (1 : Int32))]))
    refine own_FinV.step (fun _ => XS.ifNo X51.here hx rfl (hb hby at_81) rfl (XT.i0_eq_f (by decide : ¬ ((1 : Int32) = (0 : Int32))))) ?_
    show own_FinV p e below s _ _ _ (T51.setTop (mkF m 84 #[.val (.int p1), .val (.int p2), .val (.int p3), .val (.int (p2 &&& (3 : Int32))), .val (.int (195 : Int32)), .val (.ref b51), .val (.int (1 : Int32)), .val (.int (3 : Int32)), .unset, .unset, .unset, .unset, .unset, .unset, .unset, .unset, .unset, .unset, .unset, .unset] []))
    refine own_FinV.step (fun _ => XS.iload X51.here hx rfl (hb hby at_84) rfl) ?_
    show own_FinV p e below s _ _ _ (T51.setTop (mkF m 86 #[.val (.int p1), .val (.int p2), .val (.int p3), .val (.int (p2 &&& (3 : Int32))), .val (.int (195 : Int32)), .val (.ref b51), .val (.int (1 : Int32)), .val (.int (3 : Int32)), .unset, .unset, .unset, .unset, .unset, .unset, .unset, .unset, .unset, .unset, .unset, .unset] [(.int (3 : Int32))]))
    refine own_FinV.step (fun _ => XS.iconst X51.here hx rfl (hb hby at_86)) ?_
    show own_FinV p e below s _ _ _ (T51.setTop (mkF m 87 #[.val (.int p1), .val (.int p2), .val (.int p3), .val (.int (p2 &&& (3 : Int32))), .val (.int (195 : Int32)), .val (.ref b51), .val (.int (1 : Int32)), .val (.int (3 : Int32)), .unset, .unset, .unset, .unset, .unset, .unset, .unset, .unset, .unset, .unset, .unset, .unset] [(.int (4 : Int32)), (.int (3 : Int32))]))
    refine own_FinV.step (fun _ => XS.icmpNo X51.here hx rfl (hb hby at_87) rfl (XT.ii_eq_f (by decide : ¬ ((3 : Int32) = (4 : Int32))))) ?_
    show own_FinV p e below s _ _ _ (T51.setTop (mkF m 90 #[.val (.int p1), .val (.int p2), .val (.int p3), .val (.int (p2 &&& (3 : Int32))), .val (.int (195 : Int32)), .val (.ref b51), .val (.int (1 : Int32)), .val (.int (3 : Int32)), .unset, .unset, .unset, .unset, .unset, .unset, .unset, .unset, .unset, .unset, .unset, .unset] []))
    refine own_FinV.step (fun _ => XS.iload X51.here hx rfl (hb hby at_90) rfl) ?_
    show own_FinV p e below s _ _ _ (T51.setTop (mkF m 92 #[.val (.int p1), .val (.int p2), .val (.int p3), .val (.int (p2 &&& (3 : Int32))), .val (.int (195 : Int32)), .val (.ref b51), .val (.int (1 : Int32)), .val (.int (3 : Int32)), .unset, .unset, .unset, .unset, .unset, .unset, .unset, .unset, .unset, .unset, .unset, .unset] [(.int (3 : Int32))]))
    refine own_FinV.step (fun _ => XS.bipush X51.here hx rfl (hb hby at_92)) ?_
    show own_FinV p e below s _ _ _ (T51.setTop (mkF m 94 #[.val (.int p1), .val (.int p2), .val (.int p3), .val (.int (p2 &&& (3 : Int32))), .val (.int (195 : Int32)), .val (.ref b51), .val (.int (1 : Int32)), .val (.int (3 : Int32)), .unset, .unset, .unset, .unset, .unset, .unset, .unset, .unset, .unset, .unset, .unset, .unset] [(.int (8 : Int32)), (.int (3 : Int32))]))
    refine own_FinV.step (fun _ => XS.icmpNo X51.here hx rfl (hb hby at_94) rfl (XT.ii_eq_f (by decide : ¬ ((3 : Int32) = (8 : Int32))))) ?_
    show own_FinV p e below s _ _ _ (T51.setTop (mkF m 97 #[.val (.int p1), .val (.int p2), .val (.int p3), .val (.int (p2 &&& (3 : Int32))), .val (.int (195 : Int32)), .val (.ref b51), .val (.int (1 : Int32)), .val (.int (3 : Int32)), .unset, .unset, .unset, .unset, .unset, .unset, .unset, .unset, .unset, .unset, .unset, .unset] []))
    refine own_FinV.step (fun _ => XS.iload X51.here hx rfl (hb hby at_97) rfl) ?_
    show own_FinV p e below s _ _ _ (T51.setTop (mkF m 99 #[.val (.int p1), .val (.int p2), .val (.int p3), .val (.int (p2 &&& (3 : Int32))), .val (.int (195 : Int32)), .val (.ref b51), .val (.int (1 : Int32)), .val (.int (3 : Int32)), .unset, .unset, .unset, .unset, .unset, .unset, .unset, .unset, .unset, .unset, .unset, .unset] [(.int (3 : Int32))]))
    refine own_FinV.step (fun _ => XS.bipush X51.here hx rfl (hb hby at_99)) ?_
    show own_FinV p e below s _ _ _ (T51.setTop (mkF m 101 #[.val (.int p1), .val (.int p2), .val (.int p3), .val (.int (p2 &&& (3 : Int32))), .val (.int (195 : Int32)), .val (.ref b51), .val (.int (1 : Int32)), .val (.int (3 : Int32)), .unset, .unset, .unset, .unset, .unset, .unset, .unset, .unset, .unset, .unset, .unset, .unset] [(.int (12 : Int32)), (.int (3 : Int32))]))
    refine own_FinV.step (fun _ => XS.icmpNo X51.here hx rfl (hb hby at_101) rfl (XT.ii_eq_f (by decide : ¬ ((3 : Int32) = (12 : Int32))))) ?_
    show own_FinV p e below s _ _ _ (T51.setTop (mkF m 104 #[.val (.int p1), .val (.int p2), .val (.int p3), .val (.int (p2 &&& (3 : Int32))), .val (.int (195 : Int32)), .val (.ref b51), .val (.int (1 : Int32)), .val (.int (3 : Int32)), .unset, .unset, .unset, .unset, .unset, .unset, .unset, .unset, .unset, .unset, .unset, .unset] []))
    refine own_FinV.step (fun _ => XS.iconst X51.here hx rfl (hb hby at_104)) ?_
    show own_FinV p e below s _ _ _ (T51.setTop (mkF m 105 #[.val (.int p1), .val (.int p2), .val (.int p3), .val (.int (p2 &&& (3 : Int32))), .val (.int (195 : Int32)), .val (.ref b51), .val (.int (1 : Int32)), .val (.int (3 : Int32)), .unset, .unset, .unset, .unset, .unset, .unset, .unset, .unset, .unset, .unset, .unset, .unset] [(.int (1 : Int32))]))
    refine own_FinV.step (fun _ => XS.goto X51.here hx rfl (pc0 := 105) (pc' := 109) rfl (hb hby at_105) (by decide) (by decide)) ?_
    show own_FinV p e below s _ _ _ (T51.setTop (mkF m 109 #[.val (.int p1), .val (.int p2), .val (.int p3), .val (.int (p2 &&& (3 : Int32))), .val (.int (195 : Int32)), .val (.ref b51), .val (.int (1 : Int32)), .val (.int (3 : Int32)), .unset, .unset, .unset, .unset, .unset, .unset, .unset, .unset, .unset, .unset, .unset, .unset] [(.int (1 : Int32))]))
    refine own_FinV.step (fun _ => XS.istore X51.here hx rfl (hb hby at_109) rfl (l' := #[.val (.int p1), .val (.int p2), .val (.int p3), .val (.int (p2 &&& (3 : Int32))), .val (.int (195 : Int32)), .val (.ref b51), .val (.int (1 : Int32)), .val (.int (3 : Int32)), .val (.int (1 : Int32)), .unset, .unset, .unset, .unset, .unset, .unset, .unset, .unset, .unset, .unset, .unset]) rfl) ?_
    show own_FinV p e below s _ _ _ (T51.setTop (mkF m 111 #[.val (.int p1), .val (.int p2), .val (.int p3), .val (.int (p2 &&& (3 : Int32))), .val (.int (195 : Int32)), .val (.ref b51), .val (.int (1 : Int32)), .val (.int (3 : Int32)), .val (.int (1 : Int32)), .unset, .unset, .unset, .unset, .unset, .unset, .unset, .unset, .unset, .unset, .unset] []))
    refine own_FinV.step (fun _ => XS.iload X51.here hx rfl (hb hby at_111) rfl) ?_
    show own_FinV p e below s _ _ _ (T51.setTop (mkF m 113 #[.val (.int p1), .val (.int p2), .val (.int p3), .val (.int (p2 &&& (3 : Int32))), .val (.int (195 : Int32)), .val (.ref b51), .val (.int (1 : Int32)), .val (.int (3 : Int32)), .val (.int (1 : Int32)), .unset, .unset, .unset, .unset, .unset, .unset, .unset, .unset, .unset, .unset, .unset] [(.int (1 : Int32))]))
    refine own_FinV.step (fun _ => XS.ifYes X51.here hx rfl (pc0 := 113) (pc' := 127) rfl (hb hby at_113) rfl (XT.i0_ne_t (by decide : ¬ ((1 : Int32) = (0 : Int32)))) (by decide) (by decide)) ?_
    show own_FinV p e below s _ _ _ (T51.setTop (mkF m 127 #[.val (.int p1), .val (.int p2), .val (.int p3), .val (.int (p2 &&& (3 : Int32))), .val (.int (195 : Int32)), .val (.ref b51), .val (.int (1 : Int32)), .val (.int (3 : Int32)), .val (.int (1 : Int32)), .unset, .unset, .unset, .unset, .unset, .unset, .unset, .unset, .unset, .unset, .unset] []))
    refine own_FinV.step (fun _ => XS.aload X51.here hx rfl (hb hby at_127) rfl rfl) ?_
    show own_FinV p e below s _ _ _ (T51.setTop (mkF m 129 #[.val (.int p1), .val (.int p2), .val (.int p3), .val (.int (p2 &&& (3 : Int32))), .val (.int (195 : Int32)), .val (.ref b51), .val (.int (1 : Int32)), .val (.int (3 : Int32)), .val (.int (1 : Int32)), .unset, .unset, .unset, .unset, .unset, .unset, .unset, .unset, .unset, .unset, .unset] [(.ref b51)]))
    refine own_FinV.step (fun _ => XS.ifnonnullYes X51.here hx rfl (pc0 := 129) (pc' := 134) rfl (hb hby at_129) rfl (by decide) (by decide)) ?_
    show own_FinV p e below s _ _ _ (T51.setTop (mkF m 134 #[.val (.int p1), .val (.int p2), .val (.int p3), .val (.int (p2 &&& (3 : Int32))), .val (.int (195 : Int32)), .val (.ref b51), .val (.int (1 : Int32)), .val (.int (3 : Int32)), .val (.int (1 : Int32)), .unset, .unset, .unset, .unset, .unset, .unset, .unset, .unset, .unset, .unset, .unset] []))
    refine own_FinV.step (fun _ => XS.iload X51.here hx rfl (hb hby at_134) rfl) ?_
    show own_FinV p e below s _ _ _ (T51.setTop (mkF m 136 #[.val (.int p1), .val (.int p2), .val (.int p3), .val (.int (p2 &&& (3 : Int32))), .val (.int (195 : Int32)), .val (.ref b51), .val (.int (1 : Int32)), .val (.int (3 : Int32)), .val (.int (1 : Int32)), .unset, .unset, .unset, .unset, .unset, .unset, .unset, .unset, .unset, .unset, .unset] [(.int (3 : Int32))]))
    refine own_FinV.step (fun _ => XS.iconst X51.here hx rfl (hb hby at_136)) ?_
    show own_FinV p e below s _ _ _ (T51.setTop (mkF m 137 #[.val (.int p1), .val (.int p2), .val (.int p3), .val (.int (p2 &&& (3 : Int32))), .val (.int (195 : Int32)), .val (.ref b51), .val (.int (1 : Int32)), .val (.int (3 : Int32)), .val (.int (1 : Int32)), .unset, .unset, .unset, .unset, .unset, .unset, .unset, .unset, .unset, .unset, .unset] [(.int (4 : Int32)), (.int (3 : Int32))]))
    refine own_FinV.step (fun _ => XS.iand X51.here hx rfl (hb hby at_137) rfl) ?_
    show own_FinV p e below s _ _ _ (T51.setTop (mkF m 138 #[.val (.int p1), .val (.int p2), .val (.int p3), .val (.int (p2 &&& (3 : Int32))), .val (.int (195 : Int32)), .val (.ref b51), .val (.int (1 : Int32)), .val (.int (3 : Int32)), .val (.int (1 : Int32)), .unset, .unset, .unset, .unset, .unset, .unset, .unset, .unset, .unset, .unset, .unset] [(.int (0 : Int32))]))
    refine own_FinV.step (fun _ => XS.ifYes X51.here hx rfl (pc0 := 138) (pc' := 145) rfl (hb hby at_138) rfl (XT.i0_eq_t (by decide : (0 : Int32) = (0 : Int32))) (by decide) (by decide)) ?_
    show own_FinV p e below s _ _ _ (T51.setTop (mkF m 145 #[.val (.int p1), .val (.int p2), .val (.int p3), .val (.int (p2 &&& (3 : Int32))), .val (.int (195 : Int32)), .val (.ref b51), .val (.int (1 : Int32)), .val (.int (3 : Int32)), .val (.int (1 : Int32)), .unset, .unset, .unset, .unset, .unset, .unset, .unset, .unset, .unset, .unset, .unset] []))
    refine own_FinV.step (fun _ => XS.iconst X51.here hx rfl (hb hby at_145)) ?_
    show own_FinV p e below s _ _ _ (T51.setTop (mkF m 146 #[.val (.int p1), .val (.int p2), .val (.int p3), .val (.int (p2 &&& (3 : Int32))), .val (.int (195 : Int32)), .val (.ref b51), .val (.int (1 : Int32)), .val (.int (3 : Int32)), .val (.int (1 : Int32)), .unset, .unset, .unset, .unset, .unset, .unset, .unset, .unset, .unset, .unset, .unset] [(.int (0 : Int32))]))
    refine own_FinV.step (fun _ => XS.istore X51.here hx rfl (hb hby at_146) rfl (l' := #[.val (.int p1), .val (.int p2), .val (.int p3), .val (.int (p2 &&& (3 : Int32))), .val (.int (195 : Int32)), .val (.ref b51), .val (.int (1 : Int32)), .val (.int (3 : Int32)), .val (.int (1 : Int32)), .val (.int (0 : Int32)), .unset, .unset, .unset, .unset, .unset, .unset, .unset, .unset, .unset, .unset]) rfl) ?_
    show own_FinV p e below s _ _ _ (T51.setTop (mkF m 148 #[.val (.int p1), .val (.int p2), .val (.int p3), .val (.int (p2 &&& (3 : Int32))), .val (.int (195 : Int32)), .val (.ref b51), .val (.int (1 : Int32)), .val (.int (3 : Int32)), .val (.int (1 : Int32)), .val (.int (0 : Int32)), .unset, .unset, .unset, .unset, .unset, .unset, .unset, .unset, .unset, .unset] []))
    refine own_FinV.step (fun _ => XS.iload X51.here hx rfl (hb hby at_148) rfl) ?_
    show own_FinV p e below s _ _ _ (T51.setTop (mkF m 150 #[.val (.int p1), .val (.int p2), .val (.int p3), .val (.int (p2 &&& (3 : Int32))), .val (.int (195 : Int32)), .val (.ref b51), .val (.int (1 : Int32)), .val (.int (3 : Int32)), .val (.int (1 : Int32)), .val (.int (0 : Int32)), .unset, .unset, .unset, .unset, .unset, .unset, .unset, .unset, .unset, .unset] [(.int (3 : Int32))]))
    refine own_FinV.step (fun _ => XS.bipush X51.here hx rfl (hb hby at_150)) ?_
    show own_FinV p e below s _ _ _ (T51.setTop (mkF m 152 #[.val (.int p1), .val (.int p2), .val (.int p3), .val (.int (p2 &&& (3 : Int32))), .val (.int (195 : Int32)), .val (.ref b51), .val (.int (1 : Int32)), .val (.int (3 : Int32)), .val (.int (1 : Int32)), .val (.int (0 : Int32)), .unset, .unset, .unset, .unset, .unset, .unset, .unset, .unset, .unset, .unset] [(.int (8 : Int32)), (.int (3 : Int32))]))
    refine own_FinV.step (fun _ => XS.iand X51.here hx rfl (hb hby at_152) rfl) ?_
    show own_FinV p e below s _ _ _ (T51.setTop (mkF m 153 #[.val (.int p1), .val (.int p2), .val (.int p3), .val (.int (p2 &&& (3 : Int32))), .val (.int (195 : Int32)), .val (.ref b51), .val (.int (1 : Int32)), .val (.int (3 : Int32)), .val (.int (1 : Int32)), .val (.int (0 : Int32)), .unset, .unset, .unset, .unset, .unset, .unset, .unset, .unset, .unset, .unset] [(.int (0 : Int32))]))
    refine own_FinV.step (fun _ => XS.ifYes X51.here hx rfl (pc0 := 153) (pc' := 160) rfl (hb hby at_153) rfl (XT.i0_eq_t (by decide : (0 : Int32) = (0 : Int32))) (by decide) (by decide)) ?_
    show own_FinV p e below s _ _ _ (T51.setTop (mkF m 160 #[.val (.int p1), .val (.int p2), .val (.int p3), .val (.int (p2 &&& (3 : Int32))), .val (.int (195 : Int32)), .val (.ref b51), .val (.int (1 : Int32)), .val (.int (3 : Int32)), .val (.int (1 : Int32)), .val (.int (0 : Int32)), .unset, .unset, .unset, .unset, .unset, .unset, .unset, .unset, .unset, .unset] []))
    refine own_FinV.step (fun _ => XS.iconst X51.here hx rfl (hb hby at_160)) ?_
    show own_FinV p e below s _ _ _ (T51.setTop (mkF m 161 #[.val (.int p1), .val (.int p2), .val (.int p3), .val (.int (p2 &&& (3 : Int32))), .val (.int (195 : Int32)), .val (.ref b51), .val (.int (1 : Int32)), .val (.int (3 : Int32)), .val (.int (1 : Int32)), .val (.int (0 : Int32)), .unset, .unset, .unset, .unset, .unset, .unset, .unset, .unset, .unset, .unset] [(.int (0 : Int32))]))
    refine own_FinV.step (fun _ => XS.istore X51.here hx rfl (hb hby at_161) rfl (l' := #[.val (.int p1), .val (.int p2), .val (.int p3), .val (.int (p2 &&& (3 : Int32))), .val (.int (195 : Int32)), .val (.ref b51), .val (.int (1 : Int32)), .val (.int (3 : Int32)), .val (.int (1 : Int32)), .val (.int (0 : Int32)), .val (.int (0 : Int32)), .unset, .unset, .unset, .unset, .unset, .unset, .unset, .unset, .unset]) rfl) ?_
    show own_FinV p e below s _ _ _ (T51.setTop (mkF m 163 #[.val (.int p1), .val (.int p2), .val (.int p3), .val (.int (p2 &&& (3 : Int32))), .val (.int (195 : Int32)), .val (.ref b51), .val (.int (1 : Int32)), .val (.int (3 : Int32)), .val (.int (1 : Int32)), .val (.int (0 : Int32)), .val (.int (0 : Int32)), .unset, .unset, .unset, .unset, .unset, .unset, .unset, .unset, .unset] []))
    refine own_FinV.step (fun _ => XS.iload X51.here hx rfl (hb hby at_163) rfl) ?_
    show own_FinV p e below s _ _ _ (T51.setTop (mkF m 165 #[.val (.int p1), .val (.int p2), .val (.int p3), .val (.int (p2 &&& (3 : Int32))), .val (.int (195 : Int32)), .val (.ref b51), .val (.int (1 : Int32)), .val (.int (3 : Int32)), .val (.int (1 : Int32)), .val (.int (0 : Int32)), .val (.int (0 : Int32)), .unset, .unset, .unset, .unset, .unset, .unset, .unset, .unset, .unset] [(.int (3 : Int32))]))
    refine own_FinV.step (fun _ => XS.iconst X51.here hx rfl (hb hby at_165)) ?_
    show own_FinV p e below s _ _ _ (T51.setTop (mkF m 166 #[.val (.int p1), .val (.int p2), .val (.int p3), .val (.int (p2 &&& (3 : Int32))), .val (.int (195 : Int32)), .val (.ref b51), .val (.int (1 : Int32)), .val (.int (3 : Int32)), .val (.int (1 : Int32)), .val (.int (0 : Int32)), .val (.int (0 : Int32)), .unset, .unset, .unset, .unset, .unset, .unset, .unset, .unset, .unset] [(.int (3 : Int32)), (.int (3 : Int32))]))
    refine own_FinV.step (fun _ => XS.iand X51.here hx rfl (hb hby at_166) rfl) ?_
    show own_FinV p e below s _ _ _ (T51.setTop (mkF m 167 #[.val (.int p1), .val (.int p2), .val (.int p3), .val (.int (p2 &&& (3 : Int32))), .val (.int (195 : Int32)), .val (.ref b51), .val (.int (1 : Int32)), .val (.int (3 : Int32)), .val (.int (1 : Int32)), .val (.int (0 : Int32)), .val (.int (0 : Int32)), .unset, .unset, .unset, .unset, .unset, .unset, .unset, .unset, .unset] [(.int (3 : Int32))]))
    refine own_FinV.step (fun _ => XS.istore X51.here hx rfl (hb hby at_167) rfl (l' := #[.val (.int p1), .val (.int p2), .val (.int p3), .val (.int (p2 &&& (3 : Int32))), .val (.int (195 : Int32)), .val (.ref b51), .val (.int (1 : Int32)), .val (.int (3 : Int32)), .val (.int (1 : Int32)), .val (.int (0 : Int32)), .val (.int (0 : Int32)), .val (.int (3 : Int32)), .unset, .unset, .unset, .unset, .unset, .unset, .unset, .unset]) rfl) ?_
    show own_FinV p e below s _ _ _ (T51.setTop (mkF m 169 #[.val (.int p1), .val (.int p2), .val (.int p3), .val (.int (p2 &&& (3 : Int32))), .val (.int (195 : Int32)), .val (.ref b51), .val (.int (1 : Int32)), .val (.int (3 : Int32)), .val (.int (1 : Int32)), .val (.int (0 : Int32)), .val (.int (0 : Int32)), .val (.int (3 : Int32)), .unset, .unset, .unset, .unset, .unset, .unset, .unset, .unset] []))
    refine own_FinV.step (fun _ => XS.iload X51.here hx rfl (hb hby at_169) rfl) ?_
    show own_FinV p e below s _ _ _ (T51.setTop (mkF m 171 #[.val (.int p1), .val (.int p2), .val (.int p3), .val (.int (p2 &&& (3 : Int32))), .val (.int (195 : Int32)), .val (.ref b51), .val (.int (1 : Int32)), .val (.int (3 : Int32)), .val (.int (1 : Int32)), .val (.int (0 : Int32)), .val (.int (0 : Int32)), .val (.int (3 : Int32)), .unset, .unset, .unset, .unset, .unset, .unset, .unset, .unset] [(.int (0 : Int32))]))
    refine own_FinV.step (fun _ => XS.ifYes X51.here hx rfl (pc0 := 171) (pc' := 179) rfl (hb hby at_171) rfl (XT.i0_eq_t (by decide : (0 : Int32) = (0 : Int32))) (by decide) (by decide)) ?_
    show own_FinV p e below s _ _ _ (T51.setTop (mkF m 179 #[.val (.int p1), .val (.int p2), .val (.int p3), .val (.int (p2 &&& (3 : Int32))), .val (.int (195 : Int32)), .val (.ref b51), .val (.int (1 : Int32)), .val (.int (3 : Int32)), .val (.int (1 : Int32)), .val (.int (0 : Int32)), .val (.int (0 : Int32)), .val (.int (3 : Int32)), .unset, .unset, .unset, .unset, .unset, .unset, .unset, .unset] []))
    obtain ⟨b53, T53, h53, k53, X53, e53, E53, hS53, hk53, hZ53, hown53, St53, C53, st53⟩ := own_ldcV (s := s) (vm0 := T51.vm) X51 hx hZ hown (own_w hw 12 rfl) own_wS rfl hS hk hEL (List.mem_of_getElem? (i := 14) rfl) C51 (by decide) (g := (mkF m 179 #[.val (.int p1), .val (.int p2), .val (.int p3), .val (.int (p2 &&& (3 : Int32))), .val (.int (195 : Int32)), .val (.ref b51), .val (.int (1 : Int32)), .val (.int (3 : Int32)), .val (.int (1 : Int32)), .val (.int (0 : Int32)), .val (.int (0 : Int32)), .val (.int (3 : Int32)), .unset, .unset, .unset, .unset, .unset, .unset, .unset, .unset] [])) rfl (hb hby at_179) (n := 0) (by decide) (by decide) (by decide) (by decide)
    have hS := hS53
    have hk := hk53
    have hZ := hZ53
    have hown := hown53
    have f54 := f52.ext E53
    have f55 := St51.ext E53
    have Z53 : n0 ≤ h53.size := Nat.le_trans Z51 E53.1
    refine own_FinV.step st53 ?_
    show own_FinV p e below s _ _ _ (T53.setTop (mkF m 181 #[.val (.int p1), .val (.int p2), .val (.int p3), .val (.int (p2 &&& (3 : Int32))), .val (.int (195 : Int32)), .val (.ref b51), .val (.int (1 : Int32)), .val (.int (3 : Int32)), .val (.int (1 : Int32)), .val (.int (0 : Int32)), .val (.int (0 : Int32)), .val (.int (3 : Int32)), .unset, .unset, .unset, .unset, .unset, .unset, .unset, .unset] [(.ref b53)]))
    refine own_FinV.step (fun _ => XS.astore X53.here hx rfl (hb hby at_181) rfl rfl (l' := #[.val (.int p1), .val (.int p2), .val (.int p3), .val (.int (p2 &&& (3 : Int32))), .val (.int (195 : Int32)), .val (.ref b51), .val (.int (1 : Int32)), .val (.int (3 : Int32)), .val (.int (1 : Int32)), .val (.int (0 : Int32)), .val (.int (0 : Int32)), .val (.int (3 : Int32)), .val (.ref b53), .unset, .unset, .unset, .unset, .unset, .unset, .unset]) rfl) ?_
    show own_FinV p e below s _ _ _ (T53.setTop (mkF m 183 #[.val (.int p1), .val (.int p2), .val (.int p3), .val (.int (p2 &&& (3 : Int32))), .val (.int (195 : Int32)), .val (.ref b51), .val (.int (1 : Int32)), .val (.int (3 : Int32)), .val (.int (1 : Int32)), .val (.int (0 : Int32)), .val (.int (0 : Int32)), .val (.int (3 : Int32)), .val (.ref b53), .unset, .unset, .unset, .unset, .unset, .unset, .unset] []))
    refine own_FinV.step (fun _ => XS.iload X53.here hx rfl (hb hby at_183) rfl) ?_
    show own_FinV p e below s _ _ _ (T53.setTop (mkF m 185 #[.val (.int p1), .val (.int p2), .val (.int p3), .val (.int (p2 &&& (3 : Int32))), .val (.int (195 : Int32)), .val (.ref b51), .val (.int (1 : Int32)), .val (.int (3 : Int32)), .val (.int (1 : Int32)), .val (.int (0 : Int32)), .val (.int (0 : Int32)), .val (.int (3 : Int32)), .val (.ref b53), .unset, .unset, .unset, .unset, .unset, .unset, .unset] [(.int (3 : Int32))]))
    refine own_FinV.step (fun _ => XS.ifYes X53.here hx rfl (pc0 := 185) (pc' := 195) rfl (hb hby at_185) rfl (XT.i0_ne_t (by decide : ¬ ((3 : Int32) = (0 : Int32)))) (by decide) (by decide)) ?_
    show own_FinV p e below s _ _ _ (T53.setTop (mkF m 195 #[.val (.int p1), .val (.int p2), .val (.int p3), .val (.int (p2 &&& (3 : Int32))), .val (.int (195 : Int32)), .val (.ref b51), .val (.int (1 : Int32)), .val (.int (3 : Int32)), .val (.int (1 : Int32)), .val (.int (0 : Int32)), .val (.int (0 : Int32)), .val (.int (3 : Int32)), .val (.ref b53), .unset, .unset, .unset, .unset, .unset, .unset, .unset] []))
    refine own_FinV.step (fun _ => XS.iload X53.here hx rfl (hb hby at_195) rfl) ?_
    show own_FinV p e below s _ _ _ (T53.setTop (mkF m 197 #[.val (.int p1), .val (.int p2), .val (.int p3), .val (.int (p2 &&& (3 : Int32))), .val (.int (195 : Int32)), .val (.ref b51), .val (.int (1 : Int32)), .val (.int (3 : Int32)), .val (.int (1 : Int32)), .val (.int (0 : Int32)), .val (.int (0 : Int32)), .val (.int (3 : Int32)), .val (.ref b53), .unset, .unset, .unset, .unset, .unset, .unset, .unset] [(.int (3 : Int32))]))
    refine own_FinV.step (fun _ => XS.iconst X53.here hx rfl (hb hby at_197)) ?_
    show own_FinV p e below s _ _ _ (T53.setTop (mkF m 198 #[.val (.int p1), .val (.int p2), .val (.int p3), .val (.int (p2 &&& (3 : Int32))), .val (.int (195 : Int32)), .val (.ref b51), .val (.int (1 : Int32)), .val (.int (3 : Int32)), .val (.int (1 : Int32)), .val (.int (0 : Int32)), .val (.int (0 : Int32)), .val (.int (3 : Int32)), .val (.ref b53), .unset, .unset, .unset, .unset, .unset, .unset, .unset] [(.int (1 : Int32)), (.int (3 : Int32))]))
    refine own_FinV.step (fun _ => XS.icmpYes X53.here hx rfl (pc0 := 198) (pc' := 218) rfl (hb hby at_198) rfl (XT.ii_ne_t (by decide : ¬ ((3 : Int32) = (1 : Int32)))) (by decide) (by decide)) ?_
    show own_FinV p e below s _ _ _ (T53.setTop (mkF m 218 #[.val (.int p1), .val (.int p2), .val (.int p3), .val (.int (p2 &&& (3 : Int32))), .val (.int (195 : Int32)), .val (.ref b51), .val (.int (1 : Int32)), .val (.int (3 : Int32)), .val (.int (1 : Int32)), .val (.int (0 : Int32)), .val (.int (0 : Int32)), .val (.int (3 : Int32)), .val (.ref b53), .unset, .unset, .unset, .unset, .unset, .unset, .unset] []))
    refine own_FinV.step (fun _ => XS.iload X53.here hx rfl (hb hby at_218) rfl) ?_
    show own_FinV p e below s _ _ _ (T53.setTop (mkF m 220 #[.val (.int p1), .val (.int p2), .val (.int p3), .val (.int (p2 &&& (3 : Int32))), .val (.int (195 : Int32)), .val (.ref b51), .val (.int (1 : Int32)), .val (.int (3 : Int32)), .val (.int (1 : Int32)), .val (.int (0 : Int32)), .val (.int (0 : Int32)), .val (.int (3 : Int32)), .val (.ref b53), .unset, .unset, .unset, .unset, .unset, .unset, .unset] [(.int (3 : Int32))]))
    refine own_FinV.step (fun _ => XS.iconst X53.here hx rfl (hb hby at_220)) ?_
    show own_FinV p e below s _ _ _ (T53.setTop (mkF m 221 #[.val (.int p1), .val (.int p2), .val (.int p3), .val (.int (p2 &&& (3 : Int32))), .val (.int (195 : Int32)), .val (.ref b51), .val (.int (1 : Int32)), .val (.int (3 : Int32)), .val (.int (1 : Int32)), .val (.int (0 : Int32)), .val (.int (0 : Int32)), .val (.int (3 : Int32)), .val (.ref b53), .unset, .unset, .unset, .unset, .unset, .unset, .unset] [(.int (2 : Int32)), (.int (3 : Int32))]))
    refine own_FinV.step (fun _ => XS.icmpYes X53.here hx rfl (pc0 := 221) (pc' := 231) rfl (hb hby at_221) rfl (XT.ii_ne_t (by decide : ¬ ((3 : Int32) = (2 : Int32)))) (by decide) (by decide)) ?_
    show own_FinV p e below s _ _ _ (T53.setTop (mkF m 231 #[.val (.int p1), .val (.int p2), .val (.int p3), .val (.int (p2 &&& (3 : Int32))), .val (.int (195 : Int32)), .val (.ref b51), .val (.int (1 : Int32)), .val (.int (3 : Int32)), .val (.int (1 : Int32)), .val (.int (0 : Int32)), .val (.int (0 : Int32)), .val (.int (3 : Int32)), .val (.ref b53), .unset, .unset, .unset, .unset, .unset, .unset, .unset] []))
    obtain ⟨b56, T56, h56, k56, X56, e56, E56, hS56, hk56, hZ56, hown56, St56, C56, st56⟩ := own_ldcV (s := s) (vm0 := T53.vm) X53 hx hZ hown (own_w hw 53 rfl) own_wS e53 hS hk hEL (List.mem_of_getElem? (i := 19) rfl) C53 (by decide) (g := (mkF m 231 #[.val (.int p1), .val (.int p2), .val (.int p3), .val (.int (p2 &&& (3 : Int32))), .val (.int (195 : Int32)), .val (.ref b51), .val (.int (1 : Int32)), .val (.int (3 : Int32)), .val (.int (1 : Int32)), .val (.int (0 : Int32)), .val (.int (0 : Int32)), .val (.int (3 : Int32)), .val (.ref b53), .unset, .unset, .unset, .unset, .unset, .unset, .unset] [])) rfl (hb hby at_231) (n := 32) (by decide) (by decide) (by decide) (by decide)
    have hS := hS56
    have hk := hk56
    have hZ := hZ56
    have hown := hown56
    have f57 := f54.ext E56
    have f58 := f55.ext E56
    have f59 := St53.ext E56
    have Z56 : n0 ≤ h56.size := Nat.le_trans Z53 E56.1
    refine own_FinV.step st56 ?_
    show own_FinV p e below s _ _ _ (T56.setTop (mkF m 233 #[.val (.int p1), .val (.int p2), .val (.int p3), .val (.int (p2 &&& (3 : Int32))), .val (.int (195 : Int32)), .val (.ref b51), .val (.int (1 : Int32)), .val (.int (3 : Int32)), .val (.int (1 : Int32)), .val (.int (0 : Int32)), .val (.int (0 : Int32)), .val (.int (3 : Int32)), .val (.ref b53), .unset, .unset, .unset, .unset, .unset, .unset, .unset] [(.ref b56)]))
    refine own_FinV.step (fun _ => XS.astore X56.here hx rfl (hb hby at_233) rfl rfl (l' := #[.val (.int p1), .val (.int p2), .val (.int p3), .val (.int (p2 &&& (3 : Int32))), .val (.int (195 : Int32)), .val (.ref b51), .val (.int (1 : Int32)), .val (.int (3 : Int32)), .val (.int (1 : Int32)), .val (.int (0 : Int32)), .val (.int (0 : Int32)), .val (.int (3 : Int32)), .val (.ref b53), .val (.ref b56), .unset, .unset, .unset, .unset, .unset, .unset]) rfl) ?_
    show own_FinV p e below s _ _ _ (T56.setTop (mkF m 235 #[.val (.int p1), .val (.int p2), .val (.int p3), .val (.int (p2 &&& (3 : Int32))), .val (.int (195 : Int32)), .val (.ref b51), .val (.int (1 : Int32)), .val (.int (3 : Int32)), .val (.int (1 : Int32)), .val (.int (0 : Int32)), .val (.int (0 : Int32)), .val (.int (3 : Int32)), .val (.ref b53), .val (.ref b56), .unset, .unset, .unset, .unset, .unset, .unset] []))
    refine own_FinV.step (fun _ => XS.iload X56.here hx rfl (hb hby at_235) rfl) ?_
    show own_FinV p e below s _ _ _ (T56.setTop (mkF m 237 #[.val (.int p1), .val (.int p2), .val (.int p3), .val (.int (p2 &&& (3 : Int32))), .val (.int (195 : Int32)), .val (.ref b51), .val (.int (1 : Int32)), .val (.int (3 : Int32)), .val (.int (1 : Int32)), .val (.int (0 : Int32)), .val (.int (0 : Int32)), .val (.int (3 : Int32)), .val (.ref b53), .val (.ref b56), .unset, .unset, .unset, .unset, .unset, .unset] [(.int (0 : Int32))]))
    refine own_FinV.step (fun _ => XS.ifYes X56.here hx rfl (pc0 := 237) (pc' := 245) rfl (hb hby at_237) rfl (XT.i0_eq_t (by decide : (0 : Int32) = (0 : Int32))) (by decide) (by decide)) ?_
    show own_FinV p e below s _ _ _ (T56.setTop (mkF m 245 #[.val (.int p1), .val (.int p2), .val (.int p3), .val (.int (p2 &&& (3 : Int32))), .val (.int (195 : Int32)), .val (.ref b51), .val (.int (1 : Int32)), .val (.int (3 : Int32)), .val (.int (1 : Int32)), .val (.int (0 : Int32)), .val (.int (0 : Int32)), .val (.int (3 : Int32)), .val (.ref b53), .val (.ref b56), .unset, .unset, .unset, .unset, .unset, .unset] []))
    obtain ⟨b60, T60, h60, k60, X60, e60, E60, hS60, hk60, hZ60, hown60, St60, C60, st60⟩ := own_ldcV (s := s) (vm0 := T56.vm) X56 hx hZ hown (own_w hw 12 rfl) own_wS e56 hS hk hEL (List.mem_of_getElem? (i := 14) rfl) C56 (by decide) (g := (mkF m 245 #[.val (.int p1), .val (.int p2), .val (.int p3), .val (.int (p2 &&& (3 : Int32))), .val (.int (195 : Int32)), .val (.ref b51), .val (.int (1 : Int32)), .val (.int (3 : Int32)), .val (.int (1 : Int32)), .val (.int (0 : Int32)), .val (.int (0 : Int32)), .val (.int (3 : Int32)), .val (.ref b53), .val (.ref b56), .unset, .unset, .unset, .unset, .unset, .unset] [])) rfl (hb hby at_245) (n := 0) (by decide) (by decide) (by decide) (by decide)
    have hS := hS60
    have hk := hk60
    have hZ := hZ60
    have hown := hown60
    have f61 := f57.ext E60
    have f62 := f58.ext E60
    have f63 := f59.ext E60
    have f64 := St56.ext E60
    have Z60 : n0 ≤ h60.size := Nat.le_trans Z56 E60.1
    refine own_FinV.step st60 ?_
    show own_FinV p e below s _ _ _ (T60.setTop (mkF m 247 #[.val (.int p1), .val (.int p2), .val (.int p3), .val (.int (p2 &&& (3 : Int32))), .val (.int (195 : Int32)), .val (.ref b51), .val (.int (1 : Int32)), .val (.int (3 : Int32)), .val (.int (1 : Int32)), .val (.int (0 : Int32)), .val (.int (0 : Int32)), .val (.int (3 : Int32)), .val (.ref b53), .val (.ref b56), .unset, .unset, .unset, .unset, .unset, .unset] [(.ref b60)]))
    refine own_FinV.step (fun _ => XS.astore X60.here hx rfl (hb hby at_247) rfl rfl (l' := #[.val (.int p1), .val (.int p2), .val (.int p3), .val (.int (p2 &&& (3 : Int32))), .val (.int (195 : Int32)), .val (.ref b51), .val (.int (1 : Int32)), .val (.int (3 : Int32)), .val (.int (1 : Int32)), .val (.int (0 : Int32)), .val (.int (0 : Int32)), .val (.int (3 : Int32)), .val (.ref b53), .val (.ref b56), .val (.ref b60), .unset, .unset, .unset, .unset, .unset]) rfl) ?_
    have hcat : own_bs "lossless" = own_bs "" ++ own_bs "lossless" ++ own_bs "" := by decide +kernel
    rw [hcat] at f62
    exact own_tail hw X60 hx hby hml hown hret hlk hZ Z60 N51 e60 hS hk C60 hcs rv f61 f62 f63 f64 St60 (by decide) (by decide) (by decide) (by decide) (by decide) (by decide)
  ·
    show own_FinV p e below s _ _ _ (s₁.setTop (mkF m 42 #[.val (.int p1), .val (.int p2), .val (.int p3), .val (.int (p2 &&& (3 : Int32))), .val (.int (196 : Int32)), .unset, .unset, .unset, .unset, .unset, .unset, .unset, .unset, .unset, .unset, .unset, .unset, .unset, .unset, .unset] []))
    refine own_FinV.step (fun _ => XS.iload X0.here hx rfl (hb hby at_42) rfl) ?_
    show own_FinV p e below s _ _ _ (s₁.setTop (mkF m 44 #[.val (.int p1), .val (.int p2), .val (.int p3), .val (.int (p2 &&& (3 : Int32))), .val (.int (196 : Int32)), .unset, .unset, .unset, .unset, .unset, .unset, .unset, .unset, .unset, .unset, .unset, .unset, .unset, .unset, .unset] [(.int (196 : Int32))]))
    obtain ⟨_, T65, L65, k65, X65, ⟨rfl, N65q, E65⟩, hS65, hk65, hZ65, hown65, C65, st65⟩ := own_callSV (s := s) (vm0 := s.vm) X0 hx hZ hown (own_w hw 0 rfl) (own_w hw 1 rfl) (own_w hw 2 rfl) (own_w hw 3 rfl) (by decide) (rm8_196 l Z a0 hw  h0 n0 Z0 ) (by decide) (by decide) hS hk hEL C0 e0 (W := 0) (g := (mkF m 44 #[.val (.int p1), .val (.int p2), .val (.int p3), .val (.int (p2 &&& (3 : Int32))), .val (.int (196 : Int32)), .unset, .unset, .unset, .unset, .unset, .unset, .unset, .unset, .unset, .unset, .unset, .unset, .unset, .unset, .unset] [(.int (196 : Int32))])) rfl (by rw [hml]; rfl) (argsL := [(.int (196 : Int32))]) (rest := []) (lenOf pd_7 rfl) rfl rfl (by show 2 * 0 + _ ≤ _; exact Nat.le_of_eq rfl) (hb hby at_44) (by decide) (by decide)
    have hS := hS65
    have hk := hk65
    have hZ := hZ65
    have hown := hown65
    have N65 := Fr.app N0 N65q
    have Z65 : n0 ≤ T65.heap.size := Nat.le_trans Z0 E65.1
    have f66 := SS.ext E65
    refine own_FinV.step st65 ?_
    show own_FinV p e below s _ _ _ (T65.setTop (mkF m 47 #[.val (.int p1), .val (.int p2), .val (.int p3), .val (.int (p2 &&& (3 : Int32))), .val (.int (196 : Int32)), .unset, .unset, .unset, .unset, .unset, .unset, .unset, .unset, .unset, .unset, .unset, .unset, .unset, .unset, .unset] [.null]))
    refine own_FinV.step (fun _ => XS.astore X65.here hx rfl (hb hby at_47) rfl rfl (l' := #[.val (.int p1), .val (.int p2), .val (.int p3), .val (.int (p2 &&& (3 : Int32))), .val (.int (196 : Int32)), .val .null, .unset, .unset, .unset, .unset, .unset, .unset, .unset, .unset, .unset, .unset, .unset, .unset, .unset, .unset]) rfl) ?_
    show own_FinV p e below s _ _ _ (T65.setTop (mkF m 49 #[.val (.int p1), .val (.int p2), .val (.int p3), .val (.int (p2 &&& (3 : Int32))), .val (.int (196 : Int32)), .val .null, .unset, .unset, .unset, .unset, .unset, .unset, .unset, .unset, .unset, .unset, .unset, .unset, .unset, .unset] []))
    refine own_FinV.step (fun _ => XS.iload X65.here hx rfl (hb hby at_49) rfl) ?_
    show own_FinV p e below s _ _ _ (T65.setTop (mkF m 51 #[.val (.int p1), .val (.int p2), .val (.int p3), .val (.int (p2 &&& (3 : Int32))), .val (.int (196 : Int32)), .val .null, .unset, .unset, .unset, .unset, .unset, .unset, .unset, .unset, .unset, .unset, .unset, .unset, .unset, .unset] [(.int (196 : Int32))]))
    refine own_FinV.step (fun _ => XS.sipush X65.here hx rfl (hb hby at_51)) ?_
    show own_FinV p e below s _ _ _ (T65.setTop (mkF m 54 #[.val (.int p1), .val (.int p2), .val (.int p3), .val (.int (p2 &&& (3 : Int32))), .val (.int (196 : Int32)), .val .null, .unset, .unset, .unset, .unset, .unset, .unset, .unset, .unset, .unset, .unset, .unset, .unset, .unset, .unset] [(.int (192 : Int32)), (.int (196 : Int32))]))
    refine own_FinV.step (fun _ => XS.icmpNo X65.here hx rfl (hb hby at_54) rfl (XT.ii_lt_f (by decide : ¬ ((196 : Int32) < (192 : Int32))))) ?_
    show own_FinV p e below s _ _ _ (T65.setTop (mkF m 57 #[.val (.int p1), .val (.int p2), .val (.int p3), .val (.int (p2 &&& (3 : Int32))), .val (.int (196 : Int32)), .val .null, .unset, .unset, .unset, .unset, .unset, .unset, .unset, .unset, .unset, .unset, .unset, .unset, .unset, .unset] []))
    refine own_FinV.step (fun _ => XS.iload X65.here hx rfl (hb hby at_57) rfl) ?_
    show own_FinV p e below s _ _ _ (T65.setTop (mkF m 59 #[.val (.int p1), .val (.int p2), .val (.int p3), .val (.int (p2 &&& (3 : Int32))), .val (.int (196 : Int32)), .val .null, .unset, .unset, .unset, .unset, .unset, .unset, .unset, .unset, .unset, .unset, .unset, .unset, .unset, .unset] [(.int (196 : Int32))]))
    refine own_FinV.step (fun _ => XS.sipush X65.here hx rfl (hb hby at_59)) ?_
    show own_FinV p e below s _ _ _ (T65.setTop (mkF m 62 #[.val (.int p1), .val (.int p2), .val (.int p3), .val (.int (p2 &&& (3 : Int32))), .val (.int (196 : Int32)), .val .null, .unset, .unset, .unset, .unset, .unset, .unset, .unset, .unset, .unset, .unset, .unset, .unset, .unset, .unset] [(.int (207 : Int32)), (.int (196 : Int32))]))
    refine own_FinV.step (fun _ => XS.icmpNo X65.here hx rfl (hb hby at_62) rfl (XT.ii_gt_f (by decide : ¬ ((207 : Int32) < (196 : Int32))))) ?_
    show own_FinV p e below s _ _ _ (T65.setTop (mkF m 65 #[.val (.int p1), .val (.int p2), .val (.int p3), .val (.int (p2 &&& (3 : Int32))), .val (.int (196 : Int32)), .val .null, .unset, .unset, .unset, .unset, .unset, .unset, .unset, .unset, .unset, .unset, .unset, .unset, .unset, .unset] []))
    refine own_FinV.step (fun _ => XS.iconst X65.here hx rfl (hb hby at_65)) ?_
    show own_FinV p e below s _ _ _ (T65.setTop (mkF m 66 #[.val (.int p1), .val (.int p2), .val (.int p3), .val (.int (p2 &&& (3 : Int32))), .val (.int (196 : Int32)), .val .null, .unset, .unset, .unset, .unset, .unset, .unset, .unset, .unset, .unset, .unset, .unset, .unset, .unset, .unset] [(.int (1 : Int32))]))
    refine own_FinV.step (fun _ => XS.goto X65.here hx rfl (pc0 := 66) (pc' := 70) rfl (hb hby at_66) (by decide) (by decide)) ?_
    show own_FinV p e below s _ _ _ (T65.setTop (mkF m 70 #[.val (.int p1), .val (.int p2), .val (.int p3), .val (.int (p2 &&& (3 : Int32))), .val (.int (196 : Int32)), .val .null, .unset, .unset, .unset, .unset, .unset, .unset, .unset, .unset, .unset, .unset, .unset, .unset, .unset, .unset] [(.int (1 : Int32))]))
    refine own_FinV.step (fun _ => XS.istore X65.here hx rfl (hb hby at_70) rfl (l' := #[.val (.int p1), .val (.int p2), .val (.int p3), .val (.int (p2 &&& (3 : Int32))), .val (.int (196 : Int32)), .val .null, .val (.int (1 : Int32)), .unset, .unset, .unset, .unset, .unset, .unset, .unset, .unset, .unset, .unset, .unset, .unset, .unset]) rfl) ?_
    show own_FinV p e below s _ _ _ (T65.setTop (mkF m 72 #[.val (.int p1), .val (.int p2), .val (.int p3), .val (.int (p2 &&& (3 : Int32))), .val (.int (196 : Int32)), .val .null, .val (.int (1 : Int32)), .unset, .unset, .unset, .unset, .unset, .unset, .unset, .unset, .unset, .unset, .unset, .unset, .unset] []))
    refine own_FinV.step (fun _ => XS.iload X65.here hx rfl (hb hby at_72) rfl) ?_
    show own_FinV p e below s _ _ _ (T65.setTop (mkF m 74 #[.val (.int p1), .val (.int p2), .val (.int p3), .val (.int (p2 &&& (3 : Int32))), .val (.int (196 : Int32)), .val .null, .val (.int (1 : Int32)), .unset, .unset, .unset, .unset, .unset, .unset, .unset, .unset, .unset, .unset, .unset, .unset, .unset] [(.int (196 : Int32))]))
    refine own_FinV.step (fun _ => XS.bipush X65.here hx rfl (hb hby at_74)) ?_
    show own_FinV p e below s _ _ _ (T65.setTop (mkF m 76 #[.val (.int p1), .val (.int p2), .val (.int p3), .val (.int (p2 &&& (3 : Int32))), .val (.int (196 : Int32)), .val .null, .val (.int (1 : Int32)), .unset, .unset, .unset, .unset, .unset, .unset, .unset, .unset, .unset, .unset, .unset, .unset, .unset] [(.int (15 : Int32)), (.int (196 : Int32))]))
    refine own_FinV.step (fun _ => XS.iand X65.here hx rfl (hb hby at_76) rfl) ?_
    show own_FinV p e below s _ _ _ (T65.setTop (mkF m 77 #[.val (.int p1), .val (.int p2), .val (.int p3), .val (.int (p2 &&& (3 : Int32))), .val (.int (196 : Int32)), .val .null, .val (.int (1 : Int32)), .unset, .unset, .unset, .unset, .unset, .unset, .unset, .unset, .unset, .unset, .unset, .unset, .unset] [(.int (4 : Int32))]))
    refine own_FinV.step (fun _ => XS.istore X65.here hx rfl (hb hby at_77) rfl (l' := #[.val (.int p1), .val (.int p2), .val (.int p3), .val (.int (p2 &&& (3 : Int32))), .val (.int (196 : Int32)), .val .null, .val (.int (1 : Int32)), .val (.int (4 : Int32)), .unset, .unset, .unset, .unset, .unset, .unset, .unset, .unset, .unset, .unset, .unset, .unset]) rfl) ?_
    show own_FinV p e below s _ _ _ (T65.setTop (mkF m 79 #[.val (.int p1), .val (.int p2), .val (.int p3), .val (.int (p2 &&& (3 : Int32))), .val (.int (196 : Int32)), .val .null, .val (.int (1 : Int32)), .val (.int (4 : Int32)), .unset, .unset, .unset, .unset, .unset, .unset, .unset, .unset, .unset, .unset, .unset, .unset] []))
    refine own_FinV.step (fun _ => XS.iload X65.here hx rfl (hb hby at_79) rfl) ?_
    show own_FinV p e below s _ _ _ (T65.setTop (mkF m 81 #[.val (.int p1), .val (.int p2), .val (.int p3), .val (.int (p2 &&& (3 : Int32))), .val (.int (196 : Int32)), .val .null, .val (.int (1 : Int32)), .val (.int (4 : Int32)), .unset, .unset, .unset, .unset, .unset, .unset, .unset, .unset, .unset, .unset, .unset, .unset] [(.int (1 : Int32))]))
    refine own_FinV.step (fun _ => XS.ifNo X65.here hx rfl (hb hby at_81) rfl (XT.i0_eq_f (by decide : ¬ ((1 : Int32) = (0 : Int32))))) ?_
    show own_FinV p e below s _ _ _ (T65.setTop (mkF m 84 #[.val (.int p1), .val (.int p2), .val (.int p3), .val (.int (p2 &&& (3 : Int32))), .val (.int (196 : Int32)), .val .null, .val (.int (1 : Int32)), .val (.int (4 : Int32)), .unset, .unset, .unset, .unset, .unset, .unset, .unset, .unset, .unset, .unset, .unset, .unset] []))
    refine own_FinV.step (fun _ => XS.iload X65.here hx rfl (hb hby at_84) rfl) ?_
    show own_FinV p e below s _ _ _ (T65.setTop (mkF m 86 #[.val (.int p1), .val (.int p2), .val (.int p3), .val (.int (p2 &&& (3 : Int32))), .val (.int (196 : Int32)), .val .null, .val (.int (1 : Int32)), .val (.int (4 : Int32)), .unset, .unset, .unset, .unset, .unset, .unset, .unset, .unset, .unset, .unset, .unset, .unset] [(.int (4 : Int32))]))
    refine own_FinV.step (fun _ => XS.iconst X65.here hx rfl (hb hby at_86)) ?_
    show own_FinV p e below s _ _ _ (T65.setTop (mkF m 87 #[.val (.int p1), .val (.int p2), .val (.int p3), .val (.int (p2 &&& (3 : Int32))), .val (.int (196 : Int32)), .val .null, .val (.int (1 : Int32)), .val (.int (4 : Int32)), .unset, .unset, .unset, .unset, .unset, .unset, .unset, .unset, .unset, .unset, .unset, .unset] [(.int (4 : Int32)), (.int (4 : Int32))]))
    refine own_FinV.step (fun _ => XS.icmpYes X65.here hx rfl (pc0 := 87) (pc' := 108) rfl (hb hby at_87) rfl (XT.ii_eq_t (by decide : (4 : Int32) = (4 : Int32))) (by decide) (by decide)) ?_
    show own_FinV p e below s _ _ _ (T65.setTop (mkF m 108 #[.val (.int p1), .val (.int p2), .val (.int p3), .val (.int (p2 &&& (3 : Int32))), .val (.int (196 : Int32)), .val .null, .val (.int (1 : Int32)), .val (.int (4 : Int32)), .unset, .unset, .unset, .unset, .unset, .unset, .unset, .unset, .unset, .unset, .unset, .unset] []))
    refine own_FinV.step (fun _ => XS.iconst X65.here hx rfl (hb hby at_108)) ?_
    show own_FinV p e below s _ _ _ (T65.setTop (mkF m 109 #[.val (.int p1), .val (.int p2), .val (.int p3), .val (.int (p2 &&& (3 : Int32))), .val (.int (196 : Int32)), .val .null, .val (.int (1 : Int32)), .val (.int (4 : Int32)), .unset, .unset, .unset, .unset, .unset, .unset, .unset, .unset, .unset, .unset, .unset, .unset] [(.int (0 : Int32))]))
    refine own_FinV.step (fun _ => XS.istore X65.here hx rfl (hb hby at_109) rfl (l' := #[.val (.int p1), .val (.int p2), .val (.int p3), .val (.int (p2 &&& (3 : Int32))), .val (.int (196 : Int32)), .val .null, .val (.int (1 : Int32)), .val (.int (4 : Int32)), .val (.int (0 : Int32)), .unset, .unset, .unset, .unset, .unset, .unset, .unset, .unset, .unset, .unset, .unset]) rfl) ?_
    show own_FinV p e below s _ _ _ (T65.setTop (mkF m 111 #[.val (.int p1), .val (.int p2), .val (.int p3), .val (.int (p2 &&& (3 : Int32))), .val (.int (196 : Int32)), .val .null, .val (.int (1 : Int32)), .val (.int (4 : Int32)), .val (.int (0 : Int32)), .unset, .unset, .unset, .unset, .unset, .unset, .unset, .unset, .unset, .unset, .unset] []))
    refine own_FinV.step (fun _ => XS.iload X65.here hx rfl (hb hby at_111) rfl) ?_
    show own_FinV p e below s _ _ _ (T65.setTop (mkF m 113 #[.val (.int p1), .val (.int p2), .val (.int p3), .val (.int (p2 &&& (3 : Int32))), .val (.int (196 : Int32)), .val .null, .val (.int (1 : Int32)), .val (.int (4 : Int32)), .val (.int (0 : Int32)), .unset, .unset, .unset, .unset, .unset, .unset, .unset, .unset, .unset, .unset, .unset] [(.int (0 : Int32))]))
    refine own_FinV.step (fun _ => XS.ifNo X65.here hx rfl (hb hby at_113) rfl (XT.i0_ne_f (by decide : (0 : Int32) = (0 : Int32)))) ?_
    show own_FinV p e below s _ _ _ (T65.setTop (mkF m 116 #[.val (.int p1), .val (.int p2), .val (.int p3), .val (.int (p2 &&& (3 : Int32))), .val (.int (196 : Int32)), .val .null, .val (.int (1 : Int32)), .val (.int (4 : Int32)), .val (.int (0 : Int32)), .unset, .unset, .unset, .unset, .unset, .unset, .unset, .unset, .unset, .unset, .unset] []))
    refine own_FinV.step (fun _ => XS.aload X65.here hx rfl (hb hby at_116) rfl rfl) ?_
    show own_FinV p e below s _ _ _ (T65.setTop (mkF m 118 #[.val (.int p1), .val (.int p2), .val (.int p3), .val (.int (p2 &&& (3 : Int32))), .val (.int (196 : Int32)), .val .null, .val (.int (1 : Int32)), .val (.int (4 : Int32)), .val (.int (0 : Int32)), .unset, .unset, .unset, .unset, .unset, .unset, .unset, .unset, .unset, .unset, .unset] [.null]))
    refine own_FinV.step (fun _ => XS.ifnonnullNo X65.here hx rfl (hb hby at_118) rfl) ?_
    show own_FinV p e below s _ _ _ (T65.setTop (mkF m 121 #[.val (.int p1), .val (.int p2), .val (.int p3), .val (.int (p2 &&& (3 : Int32))), .val (.int (196 : Int32)), .val .null, .val (.int (1 : Int32)), .val (.int (4 : Int32)), .val (.int (0 : Int32)), .unset, .unset, .unset, .unset, .unset, .unset, .unset, .unset, .unset, .unset, .unset] []))
    refine own_FinV.step (fun _ => XS.iconst X65.here hx rfl (hb hby at_121)) ?_
    show own_FinV p e below s _ _ _ (T65.setTop (mkF m 122 #[.val (.int p1), .val (.int p2), .val (.int p3), .val (.int (p2 &&& (3 : Int32))), .val (.int (196 : Int32)), .val .null, .val (.int (1 : Int32)), .val (.int (4 : Int32)), .val (.int (0 : Int32)), .unset, .unset, .unset, .unset, .unset, .unset, .unset, .unset, .unset, .unset, .unset] [(.int (1 : Int32))]))
    refine own_FinV.step (fun _ => XS.goto X65.here hx rfl (pc0 := 122) (pc' := 126) rfl (hb hby at_122) (by decide) (by decide)) ?_
    show own_FinV p e below s _ _ _ (T65.setTop (mkF m 126 #[.val (.int p1), .val (.int p2), .val (.int p3), .val (.int (p2 &&& (3 : Int32))), .val (.int (196 : Int32)), .val .null, .val (.int (1 : Int32)), .val (.int (4 : Int32)), .val (.int (0 : Int32)), .unset, .unset, .unset, .unset, .unset, .unset, .unset, .unset, .unset, .unset, .unset] [(.int (1 : Int32))]))
    exact own_retNV X65 hS hk rfl hZ hEL C65 hx hlk (t := .boolean) hret (by simp) (hb hby at_126) ⟨rfl, N65⟩ (by decide) (by decide)
  ·
    show own_FinV p e below s _ _ _ (s₁.setTop (mkF m 42 #[.val (.int p1), .val (.int p2), .val (.int p3), .val (.int (p2 &&& (3 : Int32))), .val (.int (197 : Int32)), .unset, .unset, .unset, .unset, .unset, .unset, .unset, .unset, .unset, .unset, .unset, .unset, .unset, .unset, .unset] []))
    refine own_FinV.step (fun _ => XS.iload X0.here hx rfl (hb hby at_42) rfl) ?_
    show own_FinV p e below s _ _ _ (s₁.setTop (mkF m 44 #[.val (.int p1), .val (.int p2), .val (.int p3), .val (.int (p2 &&& (3 : Int32))), .val (.int (197 : Int32)), .unset, .unset, .unset, .unset, .unset, .unset, .unset, .unset, .unset, .unset, .unset, .unset, .unset, .unset, .unset] [(.int (197 : Int32))]))
    obtain ⟨_, T67, L67, k67, X67, ⟨b67, rfl, N67q, E67, St67⟩, hS67, hk67, hZ67, hown67, C67, st67⟩ := own_callSV (s := s) (vm0 := s.vm) X0 hx hZ hown (own_w hw 0 rfl) (own_w hw 1 rfl) (own_w hw 2 rfl) (own_w hw 3 rfl) (by decide) (rm8_197 l Z a0 hw  h0 n0 Z0 ) (by decide) (by decide) hS hk hEL C0 e0 (W := 0) (g := (mkF m 44 #[.val (.int p1), .val (.int p2), .val (.int p3), .val (.int (p2 &&& (3 : Int32))), .val (.int (197 : Int32)), .unset, .unset, .unset, .unset, .unset, .unset, .unset, .unset, .unset, .unset, .unset, .unset, .unset, .unset, .unset] [(.int (197 : Int32))])) rfl (by rw [hml]; rfl) (argsL := [(.int (197 : Int32))]) (rest := []) (lenOf pd_7 rfl) rfl rfl (by show 2 * 0 + _ ≤ _; exact Nat.le_of_eq rfl) (hb hby at_44) (by decide) (by decide)
    have hS := hS67
    have hk := hk67
    have hZ := hZ67
    have hown := hown67
    have N67 := Fr.app N0 N67q
    have Z67 : n0 ≤ T67.heap.size := Nat.le_trans Z0 E67.1
    have f68 := SS.ext E67
    refine own_FinV.step st67 ?_
    show own_FinV p e below s _ _ _ (T67.setTop (mkF m 47 #[.val (.int p1), .val (.int p2), .val (.int p3), .val (.int (p2 &&& (3 : Int32))), .val (.int (197 : Int32)), .unset, .unset, .unset, .unset, .unset, .unset, .unset, .unset, .unset, .unset, .unset, .unset, .unset, .unset, .unset] [(.ref b67)]))
    refine own_FinV.step (fun _ => XS.astore X67.here hx rfl (hb hby at_47) rfl rfl (l' := #[.val (.int p1), .val (.int p2), .val (.int p3), .val (.int (p2 &&& (3 : Int32))), .val (.int (197 : Int32)), .val (.ref b67), .unset, .unset, .unset, .unset, .unset, .unset, .unset, .unset, .unset, .unset, .unset, .unset, .unset, .unset]) rfl) ?_
    show own_FinV p e below s _ _ _ (T67.setTop (mkF m 49 #[.val (.int p1), .val (.int p2), .val (.int p3), .val (.int (p2 &&& (3 : Int32))), .val (.int (197 : Int32)), .val (.ref b67), .unset, .unset, .unset, .unset, .unset, .unset, .unset, .unset, .unset, .unset, .unset, .unset, .unset, .unset] []))
    refine own_FinV.step (fun _ => XS.iload X67.here hx rfl (hb hby at_49) rfl) ?_
    show own_FinV p e below s _ _ _ (T67.setTop (mkF m 51 #[.val (.int p1), .val (.int p2), .val (.int p3), .val (.int (p2 &&& (3 : Int32))), .val (.int (197 : Int32)), .val (.ref b67), .unset, .unset, .unset, .unset, .unset, .unset, .unset, .unset, .unset, .unset, .unset, .unset, .unset, .unset] [(.int (197 : Int32))]))
    refine own_FinV.step (fun _ => XS.sipush X67.here hx rfl (hb hby at_51)) ?_
    show own_FinV p e below s _ _ _ (T67.setTop (mkF m 54 #[.val (.int p1), .val (.int p2), .val (.int p3), .val (.int (p2 &&& (3 : Int32))), .val (.int (197 : Int32)), .val (.ref b67), .unset, .unset, .unset, .unset, .unset, .unset, .unset, .unset, .unset, .unset, .unset, .unset, .unset, .unset] [(.int (192 : Int32)), (.int (197 : Int32))]))
    refine own_FinV.step (fun _ => XS.icmpNo X67.here hx rfl (hb hby at_54) rfl (XT.ii_lt_f (by decide : ¬ ((197 : Int32) < (192 : Int32))))) ?_
    show own_FinV p e below s _ _ _ (T67.setTop (mkF m 57 #[.val (.int p1), .val (.int p2), .val (.int p3), .val (.int (p2 &&& (3 : Int32))), .val (.int (197 : Int32)), .val (.ref b67), .unset, .unset, .unset, .unset, .unset, .unset, .unset, .unset, .unset, .unset, .unset, .unset, .unset, .unset] []))
    refine own_FinV.step (fun _ => XS.iload X67.here hx rfl (hb hby at_57) rfl) ?_
    show own_FinV p e below s _ _ _ (T67.setTop (mkF m 59 #[.val (.int p1), .val (.int p2), .val (.int p3), .val (.int (p2 &&& (3 : Int32))), .val (.int (197 : Int32)), .val (.ref b67), .unset, .unset, .unset, .unset, .unset, .unset, .unset, .unset, .unset, .unset, .unset, .unset, .unset, .unset] [(.int (197 : Int32))]))
    refine own_FinV.step (fun _ => XS.sipush X67.here hx rfl (hb hby at_59)) ?_
    show own_FinV p e below s _ _ _ (T67.setTop (mkF m 62 #[.val (.int p1), .val (.int p2), .val (.int p3), .val (.int (p2 &&& (3 : Int32))), .val (.int (197 : Int32)), .val (.ref b67), .unset, .unset, .unset, .unset, .unset, .unset, .unset, .unset, .unset, .unset, .unset, .unset, .unset, .unset] [(.int (207 : Int32)), (.int (197 : Int32))]))
    refine own_FinV.step (fun _ => XS.icmpNo X67.here hx rfl (hb hby at_62) rfl (XT.ii_gt_f (by decide : ¬ ((207 : Int32) < (197 : Int32))))) ?_
    show own_FinV p e below s _ _ _ (T67.setTop (mkF m 65 #[.val (.int p1), .val (.int p2), .val (.int p3), .val (.int (p2 &&& (3 : Int32))), .val (.int (197 : Int32)), .val (.ref b67), .unset, .unset, .unset, .unset, .unset, .unset, .unset, .unset, .unset, .unset, .unset, .unset, .unset, .unset] []))
    refine own_FinV.step (fun _ => XS.iconst X67.here hx rfl (hb hby at_65)) ?_
    show own_FinV p e below s _ _ _ (T67.setTop (mkF m 66 #[.val (.int p1), .val (.int p2), .val (.int p3), .val (.int (p2 &&& (3 : Int32))), .val (.int (197 : Int32)), .val (.ref b67), .unset, .unset, .unset, .unset, .unset, .unset, .unset, .unset, .unset, .unset, .unset, .unset, .unset, .unset] [(.int (1 : Int32))]))
    refine own_FinV.step (fun _ => XS.goto X67.here hx rfl (pc0 := 66) (pc' := 70) rfl (hb hby at_66) (by decide) (by decide)) ?_
    show own_FinV p e below s _ _ _ (T67.setTop (mkF m 70 #[.val (.int p1), .val (.int p2), .val (.int p3), .val (.int (p2 &&& (3 : Int32))), .val (.int (197 : Int32)), .val (.ref b67), .unset, .unset, .unset, .unset, .unset, .unset, .unset, .unset, .unset, .unset, .unset, .unset, .unset, .unset] [(.int (1 : Int32))]))
    refine own_FinV.step (fun _ => XS.istore X67.here hx rfl (hb hby at_70) rfl (l' := #[.val (.int p1), .val (.int p2), .val (.int p3), .val (.int (p2 &&& (3 : Int32))), .val (.int (197 : Int32)), .val (.ref b67), .val (.int (1 : Int32)), .unset, .unset, .unset, .unset, .unset, .unset, .unset, .unset, .unset, .unset, .unset, .unset, .unset]) rfl) ?_
    show own_FinV p e below s _ _ _ (T67.setTop (mkF m 72 #[.val (.int p1), .val (.int p2), .val (.int p3), .val (.int (p2 &&& (3 : Int32))), .val (.int (197 : Int32)), .val (.ref b67), .val (.int (1 : Int32)), .unset, .unset, .unset, .unset, .unset, .unset, .unset, .unset, .unset, .unset, .unset, .unset, .unset] []))
    refine own_FinV.step (fun _ => XS.iload X67.here hx rfl (hb hby at_72) rfl) ?_
    show own_FinV p e below s _ _ _ (T67.setTop (mkF m 74 #[.val (.int p1), .val (.int p2), .val (.int p3), .val (.int (p2 &&& (3 : Int32))), .val (.int (197 : Int32)), .val (.ref b67), .val (.int (1 : Int32)), .unset, .unset, .unset, .unset, .unset, .unset, .unset, .unset, .unset, .unset, .unset, .unset, .unset] [(.int (197 : Int32))]))
    refine own_FinV.step (fun _ => XS.bipush X67.here hx rfl (hb hby at_74)) ?_
    show own_FinV p e below s _ _ _ (T67.setTop (mkF m 76 #[.val (.int p1), .val (.int p2), .val (.int p3), .val (.int (p2 &&& (3 : Int32))), .val (.int (197 : Int32)), .val (.ref b67), .val (.int (1 : Int32)), .unset, .unset, .unset, .unset, .unset, .unset, .unset, .unset, .unset, .unset, .unset, .unset, .unset] [(.int (15 : Int32)), (.int (197 : Int32))]))
    refine own_FinV.step (fun _ => XS.iand X67.here hx rfl (hb hby at_76) rfl) ?_
    show own_FinV p e below s _ _ _ (T67.setTop (mkF m 77 #[.val (.int p1), .val (.int p2), .val (.int p3), .val (.int (p2 &&& (3 : Int32))), .val (.int (197 : Int32)), .val (.ref b67), .val (.int (1 : Int32)), .unset, .unset, .unset, .unset, .unset, .unset, .unset, .unset, .unset, .unset, .unset, .unset, .unset] [(.int (5 : Int32))]))
    refine own_FinV.step (fun _ => XS.istore X67.here hx rfl (hb hby at_77) rfl (l' := #[.val (.int p1), .val (.int p2), .val (.int p3), .val (.int (p2 &&& (3 : Int32))), .val (.int (197 : Int32)), .val (.ref b67), .val (.int (1 : Int32)), .val (.int (5 : Int32)), .unset, .unset, .unset, .unset, .unset, .unset, .unset, .unset, .unset, .unset, .unset, .unset]) rfl) ?_
    show own_FinV p e below s _ _ _ (T67.setTop (mkF m 79 #[.val (.int p1), .val (.int p2), .val (.int p3), .val (.int (p2 &&& (3 : Int32))), .val (.int (197 : Int32)), .val (.ref b67), .val (.int (1 : Int32)), .val (.int (5 : Int32)), .unset, .unset, .unset, .unset, .unset, .unset, .unset, .unset, .unset, .unset, .unset, .unset] []))
    refine own_FinV.step (fun _ => XS.iload X67.here hx rfl (hb hby at_79) rfl) ?_
    show own_FinV p e below s _ _ _ (T67.setTop (mkF m 81 #[.val (.int p1), .val (.int p2), .val (.int p3), .val (.int (p2 &&& (3 : Int32))), .val (.int (197 : Int32)), .val (.ref b67), .val (.int (1 : Int32)), .val (.int (5 : Int32)), .unset, .unset, .unset, .unset, .unset, .unset, .unset, .unset, .unset, .unset, .unset, .unset] [(.int (1 : Int32))]))
    refine own_FinV.step (fun _ => XS.ifNo X67.here hx rfl (hb hby at_81) rfl (XT.i0_eq_f (by decide : ¬ ((1 : Int32) = (0 : Int32))))) ?_
    show own_FinV p e below s _ _ _ (T67.setTop (mkF m 84 #[.val (.int p1), .val (.int p2), .val (.int p3), .val (.int (p2 &&& (3 : Int32))), .val (.int (197 : Int32)), .val (.ref b67), .val (.int (1 : Int32)), .val (.int (5 : Int32)), .unset, .unset, .unset, .unset, .unset, .unset, .unset, .unset, .unset, .unset, .unset, .unset] []))
    refine own_FinV.step (fun _ => XS.iload X67.here hx rfl (hb hby at_84) rfl) ?_
    show own_FinV p e below s _ _ _ (T67.setTop (mkF m 86 #[.val (.int p1), .val (.int p2), .val (.int p3), .val (.int (p2 &&& (3 : Int32))), .val (.int (197 : Int32)), .val (.ref b67), .val (.int (1 : Int32)), .val (.int (5 : Int32)), .unset, .unset, .unset, .unset, .unset, .unset, .unset, .unset, .unset, .unset, .unset, .unset] [(.int (5 : Int32))]))
    refine own_FinV.step (fun _ => XS.iconst X67.here hx rfl (hb hby at_86)) ?_
    show own_FinV p e below s _ _ _ (T67.setTop (mkF m 87 #[.val (.int p1), .val (.int p2), .val (.int p3), .val (.int (p2 &&& (3 : Int32))), .val (.int (197 : Int32)), .val (.ref b67), .val (.int (1 : Int32)), .val (.int (5 : Int32)), .unset, .unset, .unset, .unset, .unset, .unset, .unset, .unset, .unset, .unset, .unset, .unset] [(.int (4 : Int32)), (.int (5 : Int32))]))
    refine own_FinV.step (fun _ => XS.icmpNo X67.here hx rfl (hb hby at_87) rfl (XT.ii_eq_f (by decide : ¬ ((5 : Int32) = (4 : Int32))))) ?_
    show own_FinV p e below s _ _ _ (T67.setTop (mkF m 90 #[.val (.int p1), .val (.int p2), .val (.int p3), .val (.int (p2 &&& (3 : Int32))), .val (.int (197 : Int32)), .val (.ref b67), .val (.int (1 : Int32)), .val (.int (5 : Int32)), .unset, .unset, .unset, .unset, .unset, .unset, .unset, .unset, .unset, .unset, .unset, .unset] []))
    refine own_FinV.step (fun _ => XS.iload X67.here hx rfl (hb hby at_90) rfl) ?_
    show own_FinV p e below s _ _ _ (T67.setTop (mkF m 92 #[.val (.int p1), .val (.int p2), .val (.int p3), .val (.int (p2 &&& (3 : Int32))), .val (.int (197 : Int32)), .val (.ref b67), .val (.int (1 : Int32)), .val (.int (5 : Int32)), .unset, .unset, .unset, .unset, .unset, .unset, .unset, .unset, .unset, .unset, .unset, .unset] [(.int (5 : Int32))]))
    refine own_FinV.step (fun _ => XS.bipush X67.here hx rfl (hb hby at_92)) ?_
    show own_FinV p e below s _ _ _ (T67.setTop (mkF m 94 #[.val (.int p1), .val (.int p2), .val (.int p3), .val (.int (p2 &&& (3 : Int32))), .val (.int (197 : Int32)), .val (.ref b67), .val (.int (1 : Int32)), .val (.int (5 : Int32)), .unset, .unset, .unset, .unset, .unset, .unset, .unset, .unset, .unset, .unset, .unset, .unset] [(.int (8 : Int32)), (.int (5 : Int32))]))
    refine own_FinV.step (fun _ => XS.icmpNo X67.here hx rfl (hb hby at_94) rfl (XT.ii_eq_f (by decide : ¬ ((5 : Int32) = (8 : Int32))))) ?_
    show own_FinV p e below s _ _ _ (T67.setTop (mkF m 97 #[.val (.int p1), .val (.int p2), .val (.int p3), .val (.int (p2 &&& (3 : Int32))), .val (.int (197 : Int32)), .val (.ref b67), .val (.int (1 : Int32)), .val (.int (5 : Int32)), .unset, .unset, .unset, .unset, .unset, .unset, .unset, .unset, .unset, .unset, .unset, .unset] []))
    refine own_FinV.step (fun _ => XS.iload X67.here hx rfl (hb hby at_97) rfl) ?_
    show own_FinV p e below s _ _ _ (T67.setTop (mkF m 99 #[.val (.int p1), .val (.int p2), .val (.int p3), .val (.int (p2 &&& (3 : Int32))), .val (.int (197 : Int32)), .val (.ref b67), .val (.int (1 : Int32)), .val (.int (5 : Int32)), .unset, .unset, .unset, .unset, .unset, .unset, .unset, .unset, .unset, .unset, .unset, .unset] [(.int (5 : Int32))]))
    refine own_FinV.step (fun _ => XS.bipush X67.here hx rfl (hb hby at_99)) ?_
    show own_FinV p e below s _ _ _ (T67.setTop (mkF m 101 #[.val (.int p1), .val (.int p2), .val (.int p3), .val (.int (p2 &&& (3 : Int32))), .val (.int (197 : Int32)), .val (.ref b67), .val (.int (1 : Int32)), .val (.int (5 : Int32)), .unset, .unset, .unset, .unset, .unset, .unset, .unset, .unset, .unset, .unset, .unset, .unset] [(.int (12 : Int32)), (.int (5 : Int32))]))
    refine own_FinV.step (fun _ => XS.icmpNo X67.here hx rfl (hb hby at_101) rfl (XT.ii_eq_f (by decide : ¬ ((5 : Int32) = (12 : Int32))))) ?_
    show own_FinV p e below s _ _ _ (T67.setTop (mkF m 104 #[.val (.int p1), .val (.int p2), .val (.int p3), .val (.int (p2 &&& (3 : Int32))), .val (.int (197 : Int32)), .val (.ref b67), .val (.int (1 : Int32)), .val (.int (5 : Int32)), .unset, .unset, .unset, .unset, .unset, .unset, .unset, .unset, .unset, .unset, .unset, .unset] []))
    refine own_FinV.step (fun _ => XS.iconst X67.here hx rfl (hb hby at_104)) ?_
    show own_FinV p e below s _ _ _ (T67.setTop (mkF m 105 #[.val (.int p1), .val (.int p2), .val (.int p3), .val (.int (p2 &&& (3 : Int32))), .val (.int (197 : Int32)), .val (.ref b67), .val (.int (1 : Int32)), .val (.int (5 : Int32)), .unset, .unset, .unset, .unset, .unset, .unset, .unset, .unset, .unset, .unset, .unset, .unset] [(.int (1 : Int32))]))
    refine own_FinV.step (fun _ => XS.goto X67.here hx rfl (pc0 := 105) (pc' := 109) rfl (hb hby at_105) (by decide) (by decide)) ?_
    show own_FinV p e below s _ _ _ (T67.setTop (mkF m 109 #[.val (.int p1), .val (.int p2), .val (.int p3), .val (.int (p2 &&& (3 : Int32))), .val (.int (197 : Int32)), .val (.ref b67), .val (.int (1 : Int32)), .val (.int (5 : Int32)), .unset, .unset, .unset, .unset, .unset, .unset, .unset, .unset, .unset, .unset, .unset, .unset] [(.int (1 : Int32))]))
    refine own_FinV.step (fun _ => XS.istore X67.here hx rfl (hb hby at_109) rfl (l' := #[.val (.int p1), .val (.int p2), .val (.int p3), .val (.int (p2 &&& (3 : Int32))), .val (.int (197 : Int32)), .val (.ref b67), .val (.int (1 : Int32)), .val (.int (5 : Int32)), .val (.int (1 : Int32)), .unset, .unset, .unset, .unset, .unset, .unset, .unset, .unset, .unset, .unset, .unset]) rfl) ?_
    show own_FinV p e below s _ _ _ (T67.setTop (mkF m 111 #[.val (.int p1), .val (.int p2), .val (.int p3), .val (.int (p2 &&& (3 : Int32))), .val (.int (197 : Int32)), .val (.ref b67), .val (.int (1 : Int32)), .val (.int (5 : Int32)), .val (.int (1 : Int32)), .unset, .unset, .unset, .unset, .unset, .unset, .unset, .unset, .unset, .unset, .unset] []))
    refine own_FinV.step (fun _ => XS.iload X67.here hx rfl (hb hby at_111) rfl) ?_
    show own_FinV p e below s _ _ _ (T67.setTop (mkF m 113 #[.val (.int p1), .val (.int p2), .val (.int p3), .val (.int (p2 &&& (3 : Int32))), .val (.int (197 : Int32)), .val (.ref b67), .val (.int (1 : Int32)), .val (.int (5 : Int32)), .val (.int (1 : Int32)), .unset, .unset, .unset, .unset, .unset, .unset, .unset, .unset, .unset, .unset, .unset] [(.int (1 : Int32))]))
    refine own_FinV.step (fun _ => XS.ifYes X67.here hx rfl (pc0 := 113) (pc' := 127) rfl (hb hby at_113) rfl (XT.i0_ne_t (by decide : ¬ ((1 : Int32) = (0 : Int32)))) (by decide) (by decide)) ?_
    show own_FinV p e below s _ _ _ (T67.setTop (mkF m 127 #[.val (.int p1), .val (.int p2), .val (.int p3), .val (.int (p2 &&& (3 : Int32))), .val (.int (197 : Int32)), .val (.ref b67), .val (.int (1 : Int32)), .val (.int (5 : Int32)), .val (.int (1 : Int32)), .unset, .unset, .unset, .unset, .unset, .unset, .unset, .unset, .unset, .unset, .unset] []))
    refine own_FinV.step (fun _ => XS.aload X67.here hx rfl (hb hby at_127) rfl rfl) ?_
    show own_FinV p e below s _ _ _ (T67.setTop (mkF m 129 #[.val (.int p1), .val (.int p2), .val (.int p3), .val (.int (p2 &&& (3 : Int32))), .val (.int (197 : Int32)), .val (.ref b67), .val (.int (1 : Int32)), .val (.int (5 : Int32)), .val (.int (1 : Int32)), .unset, .unset, .unset, .unset, .unset, .unset, .unset, .unset, .unset, .unset, .unset] [(.ref b67)]))
    refine own_FinV.step (fun _ => XS.ifnonnullYes X67.here hx rfl (pc0 := 129) (pc' := 134) rfl (hb hby at_129) rfl (by decide) (by decide)) ?_
    show own_FinV p e below s _ _ _ (T67.setTop (mkF m 134 #[.val (.int p1), .val (.int p2), .val (.int p3), .val (.int (p2 &&& (3 : Int32))), .val (.int (197 : Int32)), .val (.ref b67), .val (.int (1 : Int32)), .val (.int (5 : Int32)), .val (.int (1 : Int32)), .unset, .unset, .unset, .unset, .unset, .unset, .unset, .unset, .unset, .unset, .unset] []))
    refine own_FinV.step (fun _ => XS.iload X67.here hx rfl (hb hby at_134) rfl) ?_
    show own_FinV p e below s _ _ _ (T67.setTop (mkF m 136 #[.val (.int p1), .val (.int p2), .val (.int p3), .val (.int (p2 &&& (3 : Int32))), .val (.int (197 : Int32)), .val (.ref b67), .val (.int (1 : Int32)), .val (.int (5 : Int32)), .val (.int (1 : Int32)), .unset, .unset, .unset, .unset, .unset, .unset, .unset, .unset, .unset, .unset, .unset] [(.int (5 : Int32))]))
    refine own_FinV.step (fun _ => XS.iconst X67.here hx rfl (hb hby at_136)) ?_
    show own_FinV p e below s _ _ _ (T67.setTop (mkF m 137 #[.val (.int p1), .val (.int p2), .val (.int p3), .val (.int (p2 &&& (3 : Int32))), .val (.int (197 : Int32)), .val (.ref b67), .val (.int (1 : Int32)), .val (.int (5 : Int32)), .val (.int (1 : Int32)), .unset, .unset, .unset, .unset, .unset, .unset, .unset, .unset, .unset, .unset, .unset] [(.int (4 : Int32)), (.int (5 : Int32))]))
    refine own_FinV.step (fun _ => XS.iand X67.here hx rfl (hb hby at_137) rfl) ?_
    show own_FinV p e below s _ _ _ (T67.setTop (mkF m 138 #[.val (.int p1), .val (.int p2), .val (.int p3), .val (.int (p2 &&& (3 : Int32))), .val (.int (197 : Int32)), .val (.ref b67), .val (.int (1 : Int32)), .val (.int (5 : Int32)), .val (.int (1 : Int32)), .unset, .unset, .unset, .unset, .unset, .unset, .unset, .unset, .unset, .unset, .unset] [(.int (4 : Int32))]))
    refine own_FinV.step (fun _ => XS.ifNo X67.here hx rfl (hb hby at_138) rfl (XT.i0_eq_f (by decide : ¬ ((4 : Int32) = (0 : Int32))))) ?_
    show own_FinV p e below s _ _ _ (T67.setTop (mkF m 141 #[.val (.int p1), .val (.int p2), .val (.int p3), .val (.int (p2 &&& (3 : Int32))), .val (.int (197 : Int32)), .val (.ref b67), .val (.int (1 : Int32)), .val (.int (5 : Int32)), .val (.int (1 : Int32)), .unset, .unset, .unset, .unset, .unset, .unset, .unset, .unset, .unset, .unset, .unset] []))
    refine own_FinV.step (fun _ => XS.iconst X67.here hx rfl (hb hby at_141)) ?_
    show own_FinV p e below s _ _ _ (T67.setTop (mkF m 142 #[.val (.int p1), .val (.int p2), .val (.int p3), .val (.int (p2 &&& (3 : Int32))), .val (.int (197 : Int32)), .val (.ref b67), .val (.int (1 : Int32)), .val (.int (5 : Int32)), .val (.int (1 : Int32)), .unset, .unset, .unset, .unset, .unset, .unset, .unset, .unset, .unset, .unset, .unset] [(.int (1 : Int32))]))
    refine own_FinV.step (fun _ => XS.goto X67.here hx rfl (pc0 := 142) (pc' := 146) rfl (hb hby at_142) (by decide) (by decide)) ?_
    show own_FinV p e below s _ _ _ (T67.setTop (mkF m 146 #[.val (.int p1), .val (.int p2), .val (.int p3), .val (.int (p2 &&& (3 : Int32))), .val (.int (197 : Int32)), .val (.ref b67), .val (.int (1 : Int32)), .val (.int (5 : Int32)), .val (.int (1 : Int32)), .unset, .unset, .unset, .unset, .unset, .unset, .unset, .unset, .unset, .unset, .unset] [(.int (1 : Int32))]))
    refine own_FinV.step (fun _ => XS.istore X67.here hx rfl (hb hby at_146) rfl (l' := #[.val (.int p1), .val (.int p2), .val (.int p3), .val (.int (p2 &&& (3 : Int32))), .val (.int (197 : Int32)), .val (.ref b67), .val (.int (1 : Int32)), .val (.int (5 : Int32)), .val (.int (1 : Int32)), .val (.int (1 : Int32)), .unset, .unset, .unset, .unset, .unset, .unset, .unset, .unset, .unset, .unset]) rfl) ?_
    show own_FinV p e below s _ _ _ (T67.setTop (mkF m 148 #[.val (.int p1), .val (.int p2), .val (.int p3), .val (.int (p2 &&& (3 : Int32))), .val (.int (197 : Int32)), .val (.ref b67), .val (.int (1 : Int32)), .val (.int (5 : Int32)), .val (.int (1 : Int32)), .val (.int (1 : Int32)), .unset, .unset, .unset, .unset, .unset, .unset, .unset, .unset, .unset, .unset] []))
    refine own_FinV.step (fun _ => XS.iload X67.here hx rfl (hb hby at_148) rfl) ?_
    show own_FinV p e below s _ _ _ (T67.setTop (mkF m 150 #[.val (.int p1), .val (.int p2), .val (.int p3), .val (.int (p2 &&& (3 : Int32))), .val (.int (197 : Int32)), .val (.ref b67), .val (.int (1 : Int32)), .val (.int (5 : Int32)), .val (.int (1 : Int32)), .val (.int (1 : Int32)), .unset, .unset, .unset, .unset, .unset, .unset, .unset, .unset, .unset, .unset] [(.int (5 : Int32))]))
    refine own_FinV.step (fun _ => XS.bipush X67.here hx rfl (hb hby at_150)) ?_
    show own_FinV p e below s _ _ _ (T67.setTop (mkF m 152 #[.val (.int p1), .val (.int p2), .val (.int p3), .val (.int (p2 &&& (3 : Int32))), .val (.int (197 : Int32)), .val (.ref b67), .val (.int (1 : Int32)), .val (.int (5 : Int32)), .val (.int (1 : Int32)), .val (.int (1 : Int32)), .unset, .unset, .unset, .unset, .unset, .unset, .unset, .unset, .unset, .unset] [(.int (8 : Int32)), (.int (5 : Int32))]))
    refine own_FinV.step (fun _ => XS.iand X67.here hx rfl (hb hby at_152) rfl) ?_
    show own_FinV p e below s _ _ _ (T67.setTop (mkF m 153 #[.val (.int p1), .val (.int p2), .val (.int p3), .val (.int (p2 &&& (3 : Int32))), .val (.int (197 : Int32)), .val (.ref b67), .val (.int (1 : Int32)), .val (.int (5 : Int32)), .val (.int (1 : Int32)), .val (.int (1 : Int32)), .unset, .unset, .unset, .unset, .unset, .unset, .unset, .unset, .unset, .unset] [(.int (0 : Int32))]))
    refine own_FinV.step (fun _ => XS.ifYes X67.here hx rfl (pc0 := 153) (pc' := 160) rfl (hb hby at_153) rfl (XT.i0_eq_t (by decide : (0 : Int32) = (0 : Int32))) (by decide) (by decide)) ?_
    show own_FinV p e below s _ _ _ (T67.setTop (mkF m 160 #[.val (.int p1), .val (.int p2), .val (.int p3), .val (.int (p2 &&& (3 : Int32))), .val (.int (197 : Int32)), .val (.ref b67), .val (.int (1 : Int32)), .val (.int (5 : Int32)), .val (.int (1 : Int32)), .val (.int (1 : Int32)), .unset, .unset, .unset, .unset, .unset, .unset, .unset, .unset, .unset, .unset] []))
    refine own_FinV.step (fun _ => XS.iconst X67.here hx rfl (hb hby at_160)) ?_
    show own_FinV p e below s _ _ _ (T67.setTop (mkF m 161 #[.val (.int p1), .val (.int p2), .val (.int p3), .val (.int (p2 &&& (3 : Int32))), .val (.int (197 : Int32)), .val (.ref b67), .val (.int (1 : Int32)), .val (.int (5 : Int32)), .val (.int (1 : Int32)), .val (.int (1 : Int32)), .unset, .unset, .unset, .unset, .unset, .unset, .unset, .unset, .unset, .unset] [(.int (0 : Int32))]))
    refine own_FinV.step (fun _ => XS.istore X67.here hx rfl (hb hby at_161) rfl (l' := #[.val (.int p1), .val (.int p2), .val (.int p3), .val (.int (p2 &&& (3 : Int32))), .val (.int (197 : Int32)), .val (.ref b67), .val (.int (1 : Int32)), .val (.int (5 : Int32)), .val (.int (1 : Int32)), .val (.int (1 : Int32)), .val (.int (0 : Int32)), .unset, .unset, .unset, .unset, .unset, .unset, .unset, .unset, .unset]) rfl) ?_
    show own_FinV p e below s _ _ _ (T67.setTop (mkF m 163 #[.val (.int p1), .val (.int p2), .val (.int p3), .val (.int (p2 &&& (3 : Int32))), .val (.int (197 : Int32)), .val (.ref b67), .val (.int (1 : Int32)), .val (.int (5 : Int32)), .val (.int (1 : Int32)), .val (.int (1 : Int32)), .val (.int (0 : Int32)), .unset, .unset, .unset, .unset, .unset, .unset, .unset, .unset, .unset] []))
    refine own_FinV.step (fun _ => XS.iload X67.here hx rfl (hb hby at_163) rfl) ?_
    show own_FinV p e below s _ _ _ (T67.setTop (mkF m 165 #[.val (.int p1), .val (.int p2), .val (.int p3), .val (.int (p2 &&& (3 : Int32))), .val (.int (197 : Int32)), .val (.ref b67), .val (.int (1 : Int32)), .val (.int (5 : Int32)), .val (.int (1 : Int32)), .val (.int (1 : Int32)), .val (.int (0 : Int32)), .unset, .unset, .unset, .unset, .unset, .unset, .unset, .unset, .unset] [(.int (5 : Int32))]))
    refine own_FinV.step (fun _ => XS.iconst X67.here hx rfl (hb hby at_165)) ?_
    show own_FinV p e below s _ _ _ (T67.setTop (mkF m 166 #[.val (.int p1), .val (.int p2), .val (.int p3), .val (.int (p2 &&& (3 : Int32))), .val (.int (197 : Int32)), .val (.ref b67), .val (.int (1 : Int32)), .val (.int (5 : Int32)), .val (.int (1 : Int32)), .val (.int (1 : Int32)), .val (.int (0 : Int32)), .unset, .unset, .unset, .unset, .unset, .unset, .unset, .unset, .unset] [(.int (3 : Int32)), (.int (5 : Int32))]))
    refine own_FinV.step (fun _ => XS.iand X67.here hx rfl (hb hby at_166) rfl) ?_
    show own_FinV p e below s _ _ _ (T67.setTop (mkF m 167 #[.val (.int p1), .val (.int p2), .val (.int p3), .val (.int (p2 &&& (3 : Int32))), .val (.int (197 : Int32)), .val (.ref b67), .val (.int (1 : Int32)), .val (.int (5 : Int32)), .val (.int (1 : Int32)), .val (.int (1 : Int32)), .val (.int (0 : Int32)), .unset, .unset, .unset, .unset, .unset, .unset, .unset, .unset, .unset] [(.int (1 : Int32))]))
    refine own_FinV.step (fun _ => XS.istore X67.here hx rfl (hb hby at_167) rfl (l' := #[.val (.int p1), .val (.int p2), .val (.int p3), .val (.int (p2 &&& (3 : Int32))), .val (.int (197 : Int32)), .val (.ref b67), .val (.int (1 : Int32)), .val (.int (5 : Int32)), .val (.int (1 : Int32)), .val (.int (1 : Int32)), .val (.int (0 : Int32)), .val (.int (1 : Int32)), .unset, .unset, .unset, .unset, .unset, .unset, .unset, .unset]) rfl) ?_
    show own_FinV p e below s _ _ _ (T67.setTop (mkF m 169 #[.val (.int p1), .val (.int p2), .val (.int p3), .val (.int (p2 &&& (3 : Int32))), .val (.int (197 : Int32)), .val (.ref b67), .val (.int (1 : Int32)), .val (.int (5 : Int32)), .val (.int (1 : Int32)), .val (.int (1 : Int32)), .val (.int (0 : Int32)), .val (.int (1 : Int32)), .unset, .unset, .unset, .unset, .unset, .unset, .unset, .unset] []))
    refine own_FinV.step (fun _ => XS.iload X67.here hx rfl (hb hby at_169) rfl) ?_
    show own_FinV p e below s _ _ _ (T67.setTop (mkF m 171 #[.val (.int p1), .val (.int p2), .val (.int p3), .val (.int (p2 &&& (3 : Int32))), .val (.int (197 : Int32)), .val (.ref b67), .val (.int (1 : Int32)), .val (.int (5 : Int32)), .val (.int (1 : Int32)), .val (.int (1 : Int32)), .val (.int (0 : Int32)), .val (.int (1 : Int32)), .unset, .unset, .unset, .unset, .unset, .unset, .unset, .unset] [(.int (1 : Int32))]))
    refine own_FinV.step (fun _ => XS.ifNo X67.here hx rfl (hb hby at_171) rfl (XT.i0_eq_f (by decide : ¬ ((1 : Int32) = (0 : Int32))))) ?_
    show own_FinV p e below s _ _ _ (T67.setTop (mkF m 174 #[.val (.int p1), .val (.int p2), .val (.int p3), .val (.int (p2 &&& (3 : Int32))), .val (.int (197 : Int32)), .val (.ref b67), .val (.int (1 : Int32)), .val (.int (5 : Int32)), .val (.int (1 : Int32)), .val (.int (1 : Int32)), .val (.int (0 : Int32)), .val (.int (1 : Int32)), .unset, .unset, .unset, .unset, .unset, .unset, .unset, .unset] []))
    obtain ⟨b69, T69, h69, k69, X69, e69, E69, hS69, hk69, hZ69, hown69, St69, C69, st69⟩ := own_ldcV (s := s) (vm0 := T67.vm) X67 hx hZ hown (own_w hw 59 rfl) own_wS rfl hS hk hEL (List.mem_of_getElem? (i := 13) rfl) C67 (by decide) (g := (mkF m 174 #[.val (.int p1), .val (.int p2), .val (.int p3), .val (.int (p2 &&& (3 : Int32))), .val (.int (197 : Int32)), .val (.ref b67), .val (.int (1 : Int32)), .val (.int (5 : Int32)), .val (.int (1 : Int32)), .val (.int (1 : Int32)), .val (.int (0 : Int32)), .val (.int (1 : Int32)), .unset, .unset, .unset, .unset, .unset, .unset, .unset, .unset] [])) rfl (hb hby at_174) (n := 52) (by decide) (by decide) (by decide) (by decide)
    have hS := hS69
    have hk := hk69
    have hZ := hZ69
    have hown := hown69
    have f70 := f68.ext E69
    have f71 := St67.ext E69
    have Z69 : n0 ≤ h69.size := Nat.le_trans Z67 E69.1
    refine own_FinV.step st69 ?_
    show own_FinV p e below s _ _ _ (T69.setTop (mkF m 176 #[.val (.int p1), .val (.int p2), .val (.int p3), .val (.int (p2 &&& (3 : Int32))), .val (.int (197 : Int32)), .val (.ref b67), .val (.int (1 : Int32)), .val (.int (5 : Int32)), .val (.int (1 : Int32)), .val (.int (1 : Int32)), .val (.int (0 : Int32)), .val (.int (1 : Int32)), .unset, .unset, .unset, .unset, .unset, .unset, .unset, .unset] [(.ref b69)]))
    refine own_FinV.step (fun _ => XS.goto X69.here hx rfl (pc0 := 176) (pc' := 181) rfl (hb hby at_176) (by decide) (by decide)) ?_
    show own_FinV p e below s _ _ _ (T69.setTop (mkF m 181 #[.val (.int p1), .val (.int p2), .val (.int p3), .val (.int (p2 &&& (3 : Int32))), .val (.int (197 : Int32)), .val (.ref b67), .val (.int (1 : Int32)), .val (.int (5 : Int32)), .val (.int (1 : Int32)), .val (.int (1 : Int32)), .val (.int (0 : Int32)), .val (.int (1 : Int32)), .unset, .unset, .unset, .unset, .unset, .unset, .unset, .unset] [(.ref b69)]))
    refine own_FinV.step (fun _ => XS.astore X69.here hx rfl (hb hby at_181) rfl rfl (l' := #[.val (.int p1), .val (.int p2), .val (.int p3), .val (.int (p2 &&& (3 : Int32))), .val (.int (197 : Int32)), .val (.ref b67), .val (.int (1 : Int32)), .val (.int (5 : Int32)), .val (.int (1 : Int32)), .val (.int (1 : Int32)), .val (.int (0 : Int32)), .val (.int (1 : Int32)), .val (.ref b69), .unset, .unset, .unset, .unset, .unset, .unset, .unset]) rfl) ?_
    show own_FinV p e below s _ _ _ (T69.setTop (mkF m 183 #[.val (.int p1), .val (.int p2), .val (.int p3), .val (.int (p2 &&& (3 : Int32))), .val (.int (197 : Int32)), .val (.ref b67), .val (.int (1 : Int32)), .val (.int (5 : Int32)), .val (.int (1 : Int32)), .val (.int (1 : Int32)), .val (.int (0 : Int32)), .val (.int (1 : Int32)), .val (.ref b69), .unset, .unset, .unset, .unset, .unset, .unset, .unset] []))
    refine own_FinV.step (fun _ => XS.iload X69.here hx rfl (hb hby at_183) rfl) ?_
    show own_FinV p e below s _ _ _ (T69.setTop (mkF m 185 #[.val (.int p1), .val (.int p2), .val (.int p3), .val (.int (p2 &&& (3 : Int32))), .val (.int (197 : Int32)), .val (.ref b67), .val (.int (1 : Int32)), .val (.int (5 : Int32)), .val (.int (1 : Int32)), .val (.int (1 : Int32)), .val (.int (0 : Int32)), .val (.int (1 : Int32)), .val (.ref b69), .unset, .unset, .unset, .unset, .unset, .unset, .unset] [(.int (1 : Int32))]))
    refine own_FinV.step (fun _ => XS.ifYes X69.here hx rfl (pc0 := 185) (pc' := 195) rfl (hb hby at_185) rfl (XT.i0_ne_t (by decide : ¬ ((1 : Int32) = (0 : Int32)))) (by decide) (by decide)) ?_
    show own_FinV p e below s _ _ _ (T69.setTop (mkF m 195 #[.val (.int p1), .val (.int p2), .val (.int p3), .val (.int (p2 &&& (3 : Int32))), .val (.int (197 : Int32)), .val (.ref b67), .val (.int (1 : Int32)), .val (.int (5 : Int32)), .val (.int (1 : Int32)), .val (.int (1 : Int32)), .val (.int (0 : Int32)), .val (.int (1 : Int32)), .val (.ref b69), .unset, .unset, .unset, .unset, .unset, .unset, .unset] []))
    refine own_FinV.step (fun _ => XS.iload X69.here hx rfl (hb hby at_195) rfl) ?_
    show own_FinV p e below s _ _ _ (T69.setTop (mkF m 197 #[.val (.int p1), .val (.int p2), .val (.int p3), .val (.int (p2 &&& (3 : Int32))), .val (.int (197 : Int32)), .val (.ref b67), .val (.int (1 : Int32)), .val (.int (5 : Int32)), .val (.int (1 : Int32)), .val (.int (1 : Int32)), .val (.int (0 : Int32)), .val (.int (1 : Int32)), .val (.ref b69), .unset, .unset, .unset, .unset, .unset, .unset, .unset] [(.int (1 : Int32))]))
    refine own_FinV.step (fun _ => XS.iconst X69.here hx rfl (hb hby at_197)) ?_
    show own_FinV p e below s _ _ _ (T69.setTop (mkF m 198 #[.val (.int p1), .val (.int p2), .val (.int p3), .val (.int (p2 &&& (3 : Int32))), .val (.int (197 : Int32)), .val (.ref b67), .val (.int (1 : Int32)), .val (.int (5 : Int32)), .val (.int (1 : Int32)), .val (.int (1 : Int32)), .val (.int (0 : Int32)), .val (.int (1 : Int32)), .val (.ref b69), .unset, .unset, .unset, .unset, .unset, .unset, .unset] [(.int (1 : Int32)), (.int (1 : Int32))]))
    refine own_FinV.step (fun _ => XS.icmpNo X69.here hx rfl (hb hby at_198) rfl (XT.ii_ne_f (by decide : (1 : Int32) = (1 : Int32)))) ?_
    show own_FinV p e below s _ _ _ (T69.setTop (mkF m 201 #[.val (.int p1), .val (.int p2), .val (.int p3), .val (.int (p2 &&& (3 : Int32))), .val (.int (197 : Int32)), .val (.ref b67), .val (.int (1 : Int32)), .val (.int (5 : Int32)), .val (.int (1 : Int32)), .val (.int (1 : Int32)), .val (.int (0 : Int32)), .val (.int (1 : Int32)), .val (.ref b69), .unset, .unset, .unset, .unset, .unset, .unset, .unset] []))
    refine own_FinV.step (fun _ => XS.iload X69.here hx rfl (hb hby at_201) rfl) ?_
    show own_FinV p e below s _ _ _ (T69.setTop (mkF m 203 #[.val (.int p1), .val (.int p2), .val (.int p3), .val (.int (p2 &&& (3 : Int32))), .val (.int (197 : Int32)), .val (.ref b67), .val (.int (1 : Int32)), .val (.int (5 : Int32)), .val (.int (1 : Int32)), .val (.int (1 : Int32)), .val (.int (0 : Int32)), .val (.int (1 : Int32)), .val (.ref b69), .unset, .unset, .unset, .unset, .unset, .unset, .unset] [(.int (1 : Int32))]))
    refine own_FinV.step (fun _ => XS.ifNo X69.here hx rfl (hb hby at_203) rfl (XT.i0_eq_f (by decide : ¬ ((1 : Int32) = (0 : Int32))))) ?_
    show own_FinV p e below s _ _ _ (T69.setTop (mkF m 206 #[.val (.int p1), .val (.int p2), .val (.int p3), .val (.int (p2 &&& (3 : Int32))), .val (.int (197 : Int32)), .val (.ref b67), .val (.int (1 : Int32)), .val (.int (5 : Int32)), .val (.int (1 : Int32)), .val (.int (1 : Int32)), .val (.int (0 : Int32)), .val (.int (1 : Int32)), .val (.ref b69), .unset, .unset, .unset, .unset, .unset, .unset, .unset] []))
    obtain ⟨b72, T72, h72, k72, X72, e72, E72, hS72, hk72, hZ72, hown72, St72, C72, st72⟩ := own_ldcV (s := s) (vm0 := T69.vm) X69 hx hZ hown (own_w hw 60 rfl) own_wS e69 hS hk hEL (List.mem_of_getElem? (i := 16) rfl) C69 (by decide) (g := (mkF m 206 #[.val (.int p1), .val (.int p2), .val (.int p3), .val (.int (p2 &&& (3 : Int32))), .val (.int (197 : Int32)), .val (.ref b67), .val (.int (1 : Int32)), .val (.int (5 : Int32)), .val (.int (1 : Int32)), .val (.int (1 : Int32)), .val (.int (0 : Int32)), .val (.int (1 : Int32)), .val (.ref b69), .unset, .unset, .unset, .unset, .unset, .unset, .unset] [])) rfl (hb hby at_206) (n := 40) (by decide) (by decide) (by decide) (by decide)
    have hS := hS72
    have hk := hk72
    have hZ := hZ72
    have hown := hown72
    have f73 := f70.ext E72
    have f74 := f71.ext E72
    have f75 := St69.ext E72
    have Z72 : n0 ≤ h72.size := Nat.le_trans Z69 E72.1
    refine own_FinV.step st72 ?_
    show own_FinV p e below s _ _ _ (T72.setTop (mkF m 208 #[.val (.int p1), .val (.int p2), .val (.int p3), .val (.int (p2 &&& (3 : Int32))), .val (.int (197 : Int32)), .val (.ref b67), .val (.int (1 : Int32)), .val (.int (5 : Int32)), .val (.int (1 : Int32)), .val (.int (1 : Int32)), .val (.int (0 : Int32)), .val (.int (1 : Int32)), .val (.ref b69), .unset, .unset, .unset, .unset, .unset, .unset, .unset] [(.ref b72)]))
    refine own_FinV.step (fun _ => XS.goto X72.here hx rfl (pc0 := 208) (pc' := 213) rfl (hb hby at_208) (by decide) (by decide)) ?_
    show own_FinV p e below s _ _ _ (T72.setTop (mkF m 213 #[.val (.int p1), .val (.int p2), .val (.int p3), .val (.int (p2 &&& (3 : Int32))), .val (.int (197 : Int32)), .val (.ref b67), .val (.int (1 : Int32)), .val (.int (5 : Int32)), .val (.int (1 : Int32)), .val (.int (1 : Int32)), .val (.int (0 : Int32)), .val (.int (1 : Int32)), .val (.ref b69), .unset, .unset, .unset, .unset, .unset, .unset, .unset] [(.ref b72)]))
    refine own_FinV.step (fun _ => XS.astore X72.here hx rfl (hb hby at_213) rfl rfl (l' := #[.val (.int p1), .val (.int p2), .val (.int p3), .val (.int (p2 &&& (3 : Int32))), .val (.int (197 : Int32)), .val (.ref b67), .val (.int (1 : Int32)), .val (.int (5 : Int32)), .val (.int (1 : Int32)), .val (.int (1 : Int32)), .val (.int (0 : Int32)), .val (.int (1 : Int32)), .val (.ref b69), .val (.ref b72), .unset, .unset, .unset, .unset, .unset, .unset]) rfl) ?_
    show own_FinV p e below s _ _ _ (T72.setTop (mkF m 215 #[.val (.int p1), .val (.int p2), .val (.int p3), .val (.int (p2 &&& (3 : Int32))), .val (.int (197 : Int32)), .val (.ref b67), .val (.int (1 : Int32)), .val (.int (5 : Int32)), .val (.int (1 : Int32)), .val (.int (1 : Int32)), .val (.int (0 : Int32)), .val (.int (1 : Int32)), .val (.ref b69), .val (.ref b72), .unset, .unset, .unset, .unset, .unset, .unset] []))
    refine own_FinV.step (fun _ => XS.goto X72.here hx rfl (pc0 := 215) (pc' := 235) rfl (hb hby at_215) (by decide) (by decide)) ?_
    show own_FinV p e below s _ _ _ (T72.setTop (mkF m 235 #[.val (.int p1), .val (.int p2), .val (.int p3), .val (.int (p2 &&& (3 : Int32))), .val (.int (197 : Int32)), .val (.ref b67), .val (.int (1 : Int32)), .val (.int (5 : Int32)), .val (.int (1 : Int32)), .val (.int (1 : Int32)), .val (.int (0 : Int32)), .val (.int (1 : Int32)), .val (.ref b69), .val (.ref b72), .unset, .unset, .unset, .unset, .unset, .unset] []))
    refine own_FinV.step (fun _ => XS.iload X72.here hx rfl (hb hby at_235) rfl) ?_
    show own_FinV p e below s _ _ _ (T72.setTop (mkF m 237 #[.val (.int p1), .val (.int p2), .val (.int p3), .val (.int (p2 &&& (3 : Int32))), .val (.int (197 : Int32)), .val (.ref b67), .val (.int (1 : Int32)), .val (.int (5 : Int32)), .val (.int (1 : Int32)), .val (.int (1 : Int32)), .val (.int (0 : Int32)), .val (.int (1 : Int32)), .val (.ref b69), .val (.ref b72), .unset, .unset, .unset, .unset, .unset, .unset] [(.int (0 : Int32))]))
    refine own_FinV.step (fun _ => XS.ifYes X72.here hx rfl (pc0 := 237) (pc' := 245) rfl (hb hby at_237) rfl (XT.i0_eq_t (by decide : (0 : Int32) = (0 : Int32))) (by decide) (by decide)) ?_
    show own_FinV p e below s _ _ _ (T72.setTop (mkF m 245 #[.val (.int p1), .val (.int p2), .val (.int p3), .val (.int (p2 &&& (3 : Int32))), .val (.int (197 : Int32)), .val (.ref b67), .val (.int (1 : Int32)), .val (.int (5 : Int32)), .val (.int (1 : Int32)), .val (.int (1 : Int32)), .val (.int (0 : Int32)), .val (.int (1 : Int32)), .val (.ref b69), .val (.ref b72), .unset, .unset, .unset, .unset, .unset, .unset] []))
    obtain ⟨b76, T76, h76, k76, X76, e76, E76, hS76, hk76, hZ76, hown76, St76, C76, st76⟩ := own_ldcV (s := s) (vm0 := T72.vm) X72 hx hZ hown (own_w hw 12 rfl) own_wS e72 hS hk hEL (List.mem_of_getElem? (i := 14) rfl) C72 (by decide) (g := (mkF m 245 #[.val (.int p1), .val (.int p2), .val (.int p3), .val (.int (p2 &&& (3 : Int32))), .val (.int (197 : Int32)), .val (.ref b67), .val (.int (1 : Int32)), .val (.int (5 : Int32)), .val (.int (1 : Int32)), .val (.int (1 : Int32)), .val (.int (0 : Int32)), .val (.int (1 : Int32)), .val (.ref b69), .val (.ref b72), .unset, .unset, .unset, .unset, .unset, .unset] [])) rfl (hb hby at_245) (n := 0) (by decide) (by decide) (by decide) (by decide)
    have hS := hS76
    have hk := hk76
    have hZ := hZ76
    have hown := hown76
    have f77 := f73.ext E76
    have f78 := f74.ext E76
    have f79 := f75.ext E76
    have f80 := St72.ext E76
    have Z76 : n0 ≤ h76.size := Nat.le_trans Z72 E76.1
    refine own_FinV.step st76 ?_
    show own_FinV p e below s _ _ _ (T76.setTop (mkF m 247 #[.val (.int p1), .val (.int p2), .val (.int p3), .val (.int (p2 &&& (3 : Int32))), .val (.int (197 : Int32)), .val (.ref b67), .val (.int (1 : Int32)), .val (.int (5 : Int32)), .val (.int (1 : Int32)), .val (.int (1 : Int32)), .val (.int (0 : Int32)), .val (.int (1 : Int32)), .val (.ref b69), .val (.ref b72), .unset, .unset, .unset, .unset, .unset, .unset] [(.ref b76)]))
    refine own_FinV.step (fun _ => XS.astore X76.here hx rfl (hb hby at_247) rfl rfl (l' := #[.val (.int p1), .val (.int p2), .val (.int p3), .val (.int (p2 &&& (3 : Int32))), .val (.int (197 : Int32)), .val (.ref b67), .val (.int (1 : Int32)), .val (.int (5 : Int32)), .val (.int (1 : Int32)), .val (.int (1 : Int32)), .val (.int (0 : Int32)), .val (.int (1 : Int32)), .val (.ref b69), .val (.ref b72), .val (.ref b76), .unset, .unset, .unset, .unset, .unset]) rfl) ?_
    have hcat : own_bs "differential sequential" = own_bs "differential " ++ own_bs "sequential" ++ own_bs "" := by decide +kernel
    rw [hcat] at f78
    exact own_tail hw X76 hx hby hml hown hret hlk hZ Z76 N67 e76 hS hk C76 hcs rv f77 f78 f79 f80 St76 (by decide) (by decide) (by decide) (by decide) (by decide) (by decide)
  ·
    show own_FinV p e below s _ _ _ (s₁.setTop (mkF m 42 #[.val (.int p1), .val (.int p2), .val (.int p3), .val (.int (p2 &&& (3 : Int32))), .val (.int (198 : Int32)), .unset, .unset, .unset, .unset, .unset, .unset, .unset, .unset, .unset, .unset, .unset, .unset, .unset, .unset, .unset] []))
    refine own_FinV.step (fun _ => XS.iload X0.here hx rfl (hb hby at_42) rfl) ?_
    show own_FinV p e below s _ _ _ (s₁.setTop (mkF m 44 #[.val (.int p1), .val (.int p2), .val (.int p3), .val (.int (p2 &&& (3 : Int32))), .val (.int (198 : Int32)), .unset, .unset, .unset, .unset, .unset, .unset, .unset, .unset, .unset, .unset, .unset, .unset, .unset, .unset, .unset] [(.int (198 : Int32))]))
    obtain ⟨_, T81, L81, k81, X81, ⟨b81, rfl, N81q, E81, St81⟩, hS81, hk81, hZ81, hown81, C81, st81⟩ := own_callSV (s := s) (vm0 := s.vm) X0 hx hZ hown (own_w hw 0 rfl) (own_w hw 1 rfl) (own_w hw 2 rfl) (own_w hw 3 rfl) (by decide) (rm8_198 l Z a0 hw  h0 n0 Z0 ) (by decide) (by decide) hS hk hEL C0 e0 (W := 0) (g := (mkF m 44 #[.val (.int p1), .val (.int p2), .val (.int p3), .val (.int (p2 &&& (3 : Int32))), .val (.int (198 : Int32)), .unset, .unset, .unset, .unset, .unset, .unset, .unset, .unset, .unset, .unset, .unset, .unset, .unset, .unset, .unset] [(.int (198 : Int32))])) rfl (by rw [hml]; rfl) (argsL := [(.int (198 : Int32))]) (rest := []) (lenOf pd_7 rfl) rfl rfl (by show 2 * 0 + _ ≤ _; exact Nat.le_of_eq rfl) (hb hby at_44) (by decide) (by decide)
    have hS := hS81
    have hk := hk81
    have hZ := hZ81
    have hown := hown81
    have N81 := Fr.app N0 N81q
    have Z81 : n0 ≤ T81.heap.size := Nat.le_trans Z0 E81.1
    have f82 := SS.ext E81
    refine own_FinV.step st81 ?_
    show own_FinV p e below s _ _ _ (T81.setTop (mkF m 47 #[.val (.int p1), .val (.int p2), .val (.int p3), .val (.int (p2 &&& (3 : Int32))), .val (.int (198 : Int32)), .unset, .unset, .unset, .unset, .unset, .unset, .unset, .unset, .unset, .unset, .unset, .unset, .unset, .unset, .unset] [(.ref b81)]))
    refine own_FinV.step (fun _ => XS.astore X81.here hx rfl (hb hby at_47) rfl rfl (l' := #[.val (.int p1), .val (.int p2), .val (.int p3), .val (.int (p2 &&& (3 : Int32))), .val (.int (198 : Int32)), .val (.ref b81), .unset, .unset, .unset, .unset, .unset, .unset, .unset, .unset, .unset, .unset, .unset, .unset, .unset, .unset]) rfl) ?_
    show own_FinV p e below s _ _ _ (T81.setTop (mkF m 49 #[.val (.int p1), .val (.int p2), .val (.int p3), .val (.int (p2 &&& (3 : Int32))), .val (.int (198 : Int32)), .val (.ref b81), .unset, .unset, .unset, .unset, .unset, .unset, .unset, .unset, .unset, .unset, .unset, .unset, .unset, .unset] []))
    refine own_FinV.step (fun _ => XS.iload X81.here hx rfl (hb hby at_49) rfl) ?_
    show own_FinV p e below s _ _ _ (T81.setTop (mkF m 51 #[.val (.int p1), .val (.int p2), .val (.int p3), .val (.int (p2 &&& (3 : Int32))), .val (.int (198 : Int32)), .val (.ref b81), .unset, .unset, .unset, .unset, .unset, .unset, .unset, .unset, .unset, .unset, .unset, .unset, .unset, .unset] [(.int (198 : Int32))]))
    refine own_FinV.step (fun _ => XS.sipush X81.here hx rfl (hb hby at_51)) ?_
    show own_FinV p e below s _ _ _ (T81.setTop (mkF m 54 #[.val (.int p1), .val (.int p2), .val (.int p3), .val (.int (p2 &&& (3 : Int32))), .val (.int (198 : Int32)), .val (.ref b81), .unset, .unset, .unset, .unset, .unset, .unset, .unset, .unset, .unset, .unset, .unset, .unset, .unset, .unset] [(.int (192 : Int32)), (.int (198 : Int32))]))
    refine own_FinV.step (fun _ => XS.icmpNo X81.here hx rfl (hb hby at_54) rfl (XT.ii_lt_f (by decide : ¬ ((198 : Int32) < (192 : Int32))))) ?_
    show own_FinV p e below s _ _ _ (T81.setTop (mkF m 57 #[.val (.int p1), .val (.int p2), .val (.int p3), .val (.int (p2 &&& (3 : Int32))), .val (.int (198 : Int32)), .val (.ref b81), .unset, .unset, .unset, .unset, .unset, .unset, .unset, .unset, .unset, .unset, .unset, .unset, .unset, .unset] []))
    refine own_FinV.step (fun _ => XS.iload X81.here hx rfl (hb hby at_57) rfl) ?_
    show own_FinV p e below s _ _ _ (T81.setTop (mkF m 59 #[.val (.int p1), .val (.int p2), .val (.int p3), .val (.int (p2 &&& (3 : Int32))), .val (.int (198 : Int32)), .val (.ref b81), .unset, .unset, .unset, .unset, .unset, .unset, .unset, .unset, .unset, .unset, .unset, .unset, .unset, .unset] [(.int (198 : Int32))]))
    refine own_FinV.step (fun _ => XS.sipush X81.here hx rfl (hb hby at_59)) ?_
    show own_FinV p e below s _ _ _ (T81.setTop (mkF m 62 #[.val (.int p1), .val (.int p2), .val (.int p3), .val (.int (p2 &&& (3 : Int32))), .val (.int (198 : Int32)), .val (.ref b81), .unset, .unset, .unset, .unset, .unset, .unset, .unset, .unset, .unset, .unset, .unset, .unset, .unset, .unset] [(.int (207 : Int32)), (.int (198 : Int32))]))
    refine own_FinV.step (fun _ => XS.icmpNo X81.here hx rfl (hb hby at_62) rfl (XT.ii_gt_f (by decide : ¬ ((207 : Int32) < (198 : Int32))))) ?_
    show own_FinV p e below s _ _ _ (T81.setTop (mkF m 65 #[.val (.int p1), .val (.int p2), .val (.int p3), .val (.int (p2 &&& (3 : Int32))), .val (.int (198 : Int32)), .val (.ref b81), .unset, .unset, .unset, .unset, .unset, .unset, .unset, .unset, .unset, .unset, .unset, .unset, .unset, .unset] []))
    refine own_FinV.step (fun _ => XS.iconst X81.here hx rfl (hb hby at_65)) ?_
    show own_FinV p e below s _ _ _ (T81.setTop (mkF m 66 #[.val (.int p1), .val (.int p2), .val (.int p3), .val (.int (p2 &&& (3 : Int32))), .val (.int (198 : Int32)), .val (.ref b81), .unset, .unset, .unset, .unset, .unset, .unset, .unset, .unset, .unset, .unset, .unset, .unset, .unset, .unset] [(.int (1 : Int32))]))
    refine own_FinV.step (fun _ => XS.goto X81.here hx rfl (pc0 := 66) (pc' := 70) rfl (hb hby at_66) (by decide) (by decide)) ?_
    show own_FinV p e below s _ _ _ (T81.setTop (mkF m 70 #[.val (.int p1), .val (.int p2), .val (.int p3), .val (.int (p2 &&& (3 : Int32))), .val (.int (198 : Int32)), .val (.ref b81), .unset, .unset, .unset, .unset, .unset, .unset, .unset, .unset, .unset, .unset, .unset, .unset, .unset, .unset] [(.int (1 : Int32))]))
    refine own_FinV.step (fun _ => XS.istore X81.here hx rfl (hb hby at_70) rfl (l' := #[.val (.int p1), .val (.int p2), .val (.int p3), .val (.int (p2 &&& (3 : Int32))), .val (.int (198 : Int32)), .val (.ref b81), .val (.int (1 : Int32)), .unset, .unset, .unset, .unset, .unset, .unset, .unset, .unset, .unset, .unset, .unset, .unset, .unset]) rfl) ?_
    show own_FinV p e below s _ _ _ (T81.setTop (mkF m 72 #[.val (.int p1), .val (.int p2), .val (.int p3), .val (.int (p2 &&& (3 : Int32))), .val (.int (198 : Int32)), .val (.ref b81), .val (.int (1 : Int32)), .unset, .unset, .unset, .unset, .unset, .unset, .unset, .unset, .unset, .unset, .unset, .unset, .unset] []))
    refine own_FinV.step (fun _ => XS.iload X81.here hx rfl (hb hby at_72) rfl) ?_
    show own_FinV p e below s _ _ _ (T81.setTop (mkF m 74 #[.val (.int p1), .val (.int p2), .val (.int p3), .val (.int (p2 &&& (3 : Int32))), .val (.int (198 : Int32)), .val (.ref b81), .val (.int (1 : Int32)), .unset, .unset, .unset, .unset, .unset, .unset, .unset, .unset, .unset, .unset, .unset, .unset, .unset] [(.int (198 : Int32))]))
    refine own_FinV.step (fun _ => XS.bipush X81.here hx rfl (hb hby at_74)) ?_
    show own_FinV p e below s _ _ _ (T81.setTop (mkF m 76 #[.val (.int p1), .val (.int p2), .val (.int p3), .val (.int (p2 &&& (3 : Int32))), .val (.int (198 : Int32)), .val (.ref b81), .val (.int (1 : Int32)), .unset, .unset, .unset, .unset, .unset, .unset, .unset, .unset, .unset, .unset, .unset, .unset, .unset] [(.int (15 : Int32)), (.int (198 : Int32))]))
    refine own_FinV.step (fun _ => XS.iand X81.here hx rfl (hb hby at_76) rfl) ?_
    show own_FinV p e below s _ _ _ (T81.setTop (mkF m 77 #[.val (.int p1), .val (.int p2), .val (.int p3), .val (.int (p2 &&& (3 : Int32))), .val (.int (198 : Int32)), .val (.ref b81), .val (.int (1 : Int32)), .unset, .unset, .unset, .unset, .unset, .unset, .unset, .unset, .unset, .unset, .unset, .unset, .unset] [(.int (6 : Int32))]))
    refine own_FinV.step (fun _ => XS.istore X81.here hx rfl (hb hby at_77) rfl (l' := #[.val (.int p1), .val (.int p2), .val (.int p3), .val (.int (p2 &&& (3 : Int32))), .val (.int (198 : Int32)), .val (.ref b81), .val (.int (1 : Int32)), .val (.int (6 : Int32)), .unset, .unset, .unset, .unset, .unset, .unset, .unset, .unset, .unset, .unset, .unset, .unset]) rfl) ?_
    show own_FinV p e below s _ _ _ (T81.setTop (mkF m 79 #[.val (.int p1), .val (.int p2), .val (.int p3), .val (.int (p2 &&& (3 : Int32))), .val (.int (198 : Int32)), .val (.ref b81), .val (.int (1 : Int32)), .val (.int (6 : Int32)), .unset, .unset, .unset, .unset, .unset, .unset, .unset, .unset, .unset, .unset, .unset, .unset] []))
    refine own_FinV.step (fun _ => XS.iload X81.here hx rfl (hb hby at_79) rfl) ?_
    show own_FinV p e below s _ _ _ (T81.setTop (mkF m 81 #[.val (.int p1), .val (.int p2), .val (.int p3), .val (.int (p2 &&& (3 : Int32))), .val (.int (198 : Int32)), .val (.ref b81), .val (.int (1 : Int32)), .val (.int (6 : Int32)), .unset, .unset, .unset, .unset, .unset, .unset, .unset, .unset, .unset, .unset, .unset, .unset] [(.int (1 : Int32))]))
    refine own_FinV.step (fun _ => XS.ifNo X81.here hx rfl (hb hby at_81) rfl (XT.i0_eq_f (by decide : ¬ ((1 : Int32) = (0 : Int32))))) ?_
    show own_FinV p e below s _ _ _ (T81.setTop (mkF m 84 #[.val (.int p1), .val (.int p2), .val (.int p3), .val (.int (p2 &&& (3 : Int32))), .val (.int (198 : Int32)), .val (.ref b81), .val (.int (1 : Int32)), .val (.int (6 : Int32)), .unset, .unset, .unset, .unset, .unset, .unset, .unset, .unset, .unset, .unset, .unset, .unset] []))
    refine own_FinV.step (fun _ => XS.iload X81.here hx rfl (hb hby at_84) rfl) ?_
    show own_FinV p e below s _ _ _ (T81.setTop (mkF m 86 #[.val (.int p1), .val (.int p2), .val (.int p3), .val (.int (p2 &&& (3 : Int32))), .val (.int (198 : Int32)), .val (.ref b81), .val (.int (1 : Int32)), .val (.int (6 : Int32)), .unset, .unset, .unset, .unset, .unset, .unset, .unset, .unset, .unset, .unset, .unset, .unset] [(.int (6 : Int32))]))
    refine own_FinV.step (fun _ => XS.iconst X81.here hx rfl (hb hby at_86)) ?_
    show own_FinV p e below s _ _ _ (T81.setTop (mkF m 87 #[.val (.int p1), .val (.int p2), .val (.int p3), .val (.int (p2 &&& (3 : Int32))), .val (.int (198 : Int32)), .val (.ref b81), .val (.int (1 : Int32)), .val (.int (6 : Int32)), .unset, .unset, .unset, .unset, .unset, .unset, .unset, .unset, .unset, .unset, .unset, .unset] [(.int (4 : Int32)), (.int (6 : Int32))]))
    refine own_FinV.step (fun _ => XS.icmpNo X81.here hx rfl (hb hby at_87) rfl (XT.ii_eq_f (by decide : ¬ ((6 : Int32) = (4 : Int32))))) ?_
    show own_FinV p e below s _ _ _ (T81.setTop (mkF m 90 #[.val (.int p1), .val (.int p2), .val (.int p3), .val (.int (p2 &&& (3 : Int32))), .val (.int (198 : Int32)), .val (.ref b81), .val (.int (1 : Int32)), .val (.int (6 : Int32)), .unset, .unset, .unset, .unset, .unset, .unset, .unset, .unset, .unset, .unset, .unset, .unset] []))
    refine own_FinV.step (fun _ => XS.iload X81.here hx rfl (hb hby at_90) rfl) ?_
    show own_FinV p e below s _ _ _ (T81.setTop (mkF m 92 #[.val (.int p1), .val (.int p2), .val (.int p3), .val (.int (p2 &&& (3 : Int32))), .val (.int (198 : Int32)), .val (.ref b81), .val (.int (1 : Int32)), .val (.int (6 : Int32)), .unset, .unset, .unset, .unset, .unset, .unset, .unset, .unset, .unset, .unset, .unset, .unset] [(.int (6 : Int32))]))
    refine own_FinV.step (fun _ => XS.bipush X81.here hx rfl (hb hby at_92)) ?_
    show own_FinV p e below s _ _ _ (T81.setTop (mkF m 94 #[.val (.int p1), .val (.int p2), .val (.int p3), .val (.int (p2 &&& (3 : Int32))), .val (.int (198 : Int32)), .val (.ref b81), .val (.int (1 : Int32)), .val (.int (6 : Int32)), .unset, .unset, .unset, .unset, .unset, .unset, .unset, .unset, .unset, .unset, .unset, .unset] [(.int (8 : Int32)), (.int (6 : Int32))]))
    refine own_FinV.step (fun _ => XS.icmpNo X81.here hx rfl (hb hby at_94) rfl (XT.ii_eq_f (by decide : ¬ ((6 : Int32) = (8 : Int32))))) ?_
    show own_FinV p e below s _ _ _ (T81.setTop (mkF m 97 #[.val (.int p1), .val (.int p2), .val (.int p3), .val (.int (p2 &&& (3 : Int32))), .val (.int (198 : Int32)), .val (.ref b81), .val (.int (1 : Int32)), .val (.int (6 : Int32)), .unset, .unset, .unset, .unset, .unset, .unset, .unset, .unset, .unset, .unset, .unset, .unset] []))
    refine own_FinV.step (fun _ => XS.iload X81.here hx rfl (hb hby at_97) rfl) ?_
    show own_FinV p e below s _ _ _ (T81.setTop (mkF m 99 #[.val (.int p1), .val (.int p2), .val (.int p3), .val (.int (p2 &&& (3 : Int32))), .val (.int (198 : Int32)), .val (.ref b81), .val (.int (1 : Int32)), .val (.int (6 : Int32)), .unset, .unset, .unset, .unset, .unset, .unset, .unset, .unset, .unset, .unset, .unset, .unset] [(.int (6 : Int32))]))
    refine own_FinV.step (fun _ => XS.bipush X81.here hx rfl (hb hby at_99)) ?_
    show own_FinV p e below s _ _ _ (T81.setTop (mkF m 101 #[.val (.int p1), .val (.int p2), .val (.int p3), .val (.int (p2 &&& (3 : Int32))), .val (.int (198 : Int32)), .val (.ref b81), .val (.int (1 : Int32)), .val (.int (6 : Int32)), .unset, .unset, .unset, .unset, .unset, .unset, .unset, .unset, .unset, .unset, .unset, .unset] [(.int (12 : Int32)), (.int (6 : Int32))]))
    refine own_FinV.step (fun _ => XS.icmpNo X81.here hx rfl (hb hby at_101) rfl (XT.ii_eq_f (by decide : ¬ ((6 : Int32) = (12 : Int32))))) ?_
    show own_FinV p e below s _ _ _ (T81.setTop (mkF m 104 #[.val (.int p1), .val (.int p2), .val (.int p3), .val (.int (p2 &&& (3 : Int32))), .val (.int (198 : Int32)), .val (.ref b81), .val (.int (1 : Int32)), .val (.int (6 : Int32)), .unset, .unset, .unset, .unset, .unset, .unset, .unset, .unset, .unset, .unset, .unset, .unset] []))
    refine own_FinV.step (fun _ => XS.iconst X81.here hx rfl (hb hby at_104)) ?_
    show own_FinV p e below s _ _ _ (T81.setTop (mkF m 105 #[.val (.int p1), .val (.int p2), .val (.int p3), .val (.int (p2 &&& (3 : Int32))), .val (.int (198 : Int32)), .val (.ref b81), .val (.int (1 : Int32)), .val (.int (6 : Int32)), .unset, .unset, .unset, .unset, .unset, .unset, .unset, .unset, .unset, .unset, .unset, .unset] [(.int (1 : Int32))]))
    refine own_FinV.step (fun _ => XS.goto X81.here hx rfl (pc0 := 105) (pc' := 109) rfl (hb hby at_105) (by decide) (by decide)) ?_
    show own_FinV p e below s _ _ _ (T81.setTop (mkF m 109 #[.val (.int p1), .val (.int p2), .val (.int p3), .val (.int (p2 &&& (3 : Int32))), .val (.int (198 : Int32)), .val (.ref b81), .val (.int (1 : Int32)), .val (.int (6 : Int32)), .unset, .unset, .unset, .unset, .unset, .unset, .unset, .unset, .unset, .unset, .unset, .unset] [(.int (1 : Int32))]))
    refine own_FinV.step (fun _ => XS.istore X81.here hx rfl (hb hby at_109) rfl (l' := #[.val (.int p1), .val (.int p2), .val (.int p3), .val (.int (p2 &&& (3 : Int32))), .val (.int (198 : Int32)), .val (.ref b81), .val (.int (1 : Int32)), .val (.int (6 : Int32)), .val (.int (1 : Int32)), .unset, .unset, .unset, .unset, .unset, .unset, .unset, .unset, .unset, .unset, .unset]) rfl) ?_
    show own_FinV p e below s _ _ _ (T81.setTop (mkF m 111 #[.val (.int p1), .val (.int p2), .val (.int p3), .val (.int (p2 &&& (3 : Int32))), .val (.int (198 : Int32)), .val (.ref b81), .val (.int (1 : Int32)), .val (.int (6 : Int32)), .val (.int (1 : Int32)), .unset, .unset, .unset, .unset, .unset, .unset, .unset, .unset, .unset, .unset, .unset] []))
    refine own_FinV.step (fun _ => XS.iload X81.here hx rfl (hb hby at_111) rfl) ?_
    show own_FinV p e below s _ _ _ (T81.setTop (mkF m 113 #[.val (.int p1), .val (.int p2), .val (.int p3), .val (.int (p2 &&& (3 : Int32))), .val (.int (198 : Int32)), .val (.ref b81), .val (.int (1 : Int32)), .val (.int (6 : Int32)), .val (.int (1 : Int32)), .unset, .unset, .unset, .unset, .unset, .unset, .unset, .unset, .unset, .unset, .unset] [(.int (1 : Int32))]))
    refine own_FinV.step (fun _ => XS.ifYes X81.here hx rfl (pc0 := 113) (pc' := 127) rfl (hb hby at_113) rfl (XT.i0_ne_t (by decide : ¬ ((1 : Int32) = (0 : Int32)))) (by decide) (by decide)) ?_
    show own_FinV p e below s _ _ _ (T81.setTop (mkF m 127 #[.val (.int p1), .val (.int p2), .val (.int p3), .val (.int (p2 &&& (3 : Int32))), .val (.int (198 : Int32)), .val (.ref b81), .val (.int (1 : Int32)), .val (.int (6 : Int32)), .val (.int (1 : Int32)), .unset, .unset, .unset, .unset, .unset, .unset, .unset, .unset, .unset, .unset, .unset] []))
    refine own_FinV.step (fun _ => XS.aload X81.here hx rfl (hb hby at_127) rfl rfl) ?_
    show own_FinV p e below s _ _ _ (T81.setTop (mkF m 129 #[.val (.int p1), .val (.int p2), .val (.int p3), .val (.int (p2 &&& (3 : Int32))), .val (.int (198 : Int32)), .val (.ref b81), .val (.int (1 : Int32)), .val (.int (6 : Int32)), .val (.int (1 : Int32)), .unset, .unset, .unset, .unset, .unset, .unset, .unset, .unset, .unset, .unset, .unset] [(.ref b81)]))
    refine own_FinV.step (fun _ => XS.ifnonnullYes X81.here hx rfl (pc0 := 129) (pc' := 134) rfl (hb hby at_129) rfl (by decide) (by decide)) ?_
    show own_FinV p e below s _ _ _ (T81.setTop (mkF m 134 #[.val (.int p1), .val (.int p2), .val (.int p3), .val (.int (p2 &&& (3 : Int32))), .val (.int (198 : Int32)), .val (.ref b81), .val (.int (1 : Int32)), .val (.int (6 : Int32)), .val (.int (1 : Int32)), .unset, .unset, .unset, .unset, .unset, .unset, .unset, .unset, .unset, .unset, .unset] []))
    refine own_FinV.step (fun _ => XS.iload X81.here hx rfl (hb hby at_134) rfl) ?_
    show own_FinV p e below s _ _ _ (T81.setTop (mkF m 136 #[.val (.int p1), .val (.int p2), .val (.int p3), .val (.int (p2 &&& (3 : Int32))), .val (.int (198 : Int32)), .val (.ref b81), .val (.int (1 : Int32)), .val (.int (6 : Int32)), .val (.int (1 : Int32)), .unset, .unset, .unset, .unset, .unset, .unset, .unset, .unset, .unset, .unset, .unset] [(.int (6 : Int32))]))
    refine own_FinV.step (fun _ => XS.iconst X81.here hx rfl (hb hby at_136)) ?_
    show own_FinV p e below s _ _ _ (T81.setTop (mkF m 137 #[.val (.int p1), .val (.int p2), .val (.int p3), .val (.int (p2 &&& (3 : Int32))), .val (.int (198 : Int32)), .val (.ref b81), .val (.int (1 : Int32)), .val (.int (6 : Int32)), .val (.int (1 : Int32)), .unset, .unset, .unset, .unset, .unset, .unset, .unset, .unset, .unset, .unset, .unset] [(.int (4 : Int32)), (.int (6 : Int32))]))
    refine own_FinV.step (fun _ => XS.iand X81.here hx rfl (hb hby at_137) rfl) ?_
    show own_FinV p e below s _ _ _ (T81.setTop (mkF m 138 #[.val (.int p1), .val (.int p2), .val (.int p3), .val (.int (p2 &&& (3 : Int32))), .val (.int (198 : Int32)), .val (.ref b81), .val (.int (1 : Int32)), .val (.int (6 : Int32)), .val (.int (1 : Int32)), .unset, .unset, .unset, .unset, .unset, .unset, .unset, .unset, .unset, .unset, .unset] [(.int (4 : Int32))]))
    refine own_FinV.step (fun _ => XS.ifNo X81.here hx rfl (hb hby at_138) rfl (XT.i0_eq_f (by decide : ¬ ((4 : Int32) = (0 : Int32))))) ?_
    show own_FinV p e below s _ _ _ (T81.setTop (mkF m 141 #[.val (.int p1), .val (.int p2), .val (.int p3), .val (.int (p2 &&& (3 : Int32))), .val (.int (198 : Int32)), .val (.ref b81), .val (.int (1 : Int32)), .val (.int (6 : Int32)), .val (.int (1 : Int32)), .unset, .unset, .unset, .unset, .unset, .unset, .unset, .unset, .unset, .unset, .unset] []))
    refine own_FinV.step (fun _ => XS.iconst X81.here hx rfl (hb hby at_141)) ?_
    show own_FinV p e below s _ _ _ (T81.setTop (mkF m 142 #[.val (.int p1), .val (.int p2), .val (.int p3), .val (.int (p2 &&& (3 : Int32))), .val (.int (198 : Int32)), .val (.ref b81), .val (.int (1 : Int32)), .val (.int (6 : Int32)), .val (.int (1 : Int32)), .unset, .unset, .unset, .unset, .unset, .unset, .unset, .unset, .unset, .unset, .unset] [(.int (1 : Int32))]))
    refine own_FinV.step (fun _ => XS.goto X81.here hx rfl (pc0 := 142) (pc' := 146) rfl (hb hby at_142) (by decide) (by decide)) ?_
    show own_FinV p e below s _ _ _ (T81.setTop (mkF m 146 #[.val (.int p1), .val (.int p2), .val (.int p3), .val (.int (p2 &&& (3 : Int32))), .val (.int (198 : Int32)), .val (.ref b81), .val (.int (1 : Int32)), .val (.int (6 : Int32)), .val (.int (1 : Int32)), .unset, .unset, .unset, .unset, .unset, .unset, .unset, .unset, .unset, .unset, .unset] [(.int (1 : Int32))]))
    refine own_FinV.step (fun _ => XS.istore X81.here hx rfl (hb hby at_146) rfl (l' := #[.val (.int p1), .val (.int p2), .val (.int p3), .val (.int (p2 &&& (3 : Int32))), .val (.int (198 : Int32)), .val (.ref b81), .val (.int (1 : Int32)), .val (.int (6 : Int32)), .val (.int (1 : Int32)), .val (.int (1 : Int32)), .unset, .unset, .unset, .unset, .unset, .unset, .unset, .unset, .unset, .unset]) rfl) ?_
    show own_FinV p e below s _ _ _ (T81.setTop (mkF m 148 #[.val (.int p1), .val (.int p2), .val (.int p3), .val (.int (p2 &&& (3 : Int32))), .val (.int (198 : Int32)), .val (.ref b81), .val (.int (1 : Int32)), .val (.int (6 : Int32)), .val (.int (1 : Int32)), .val (.int (1 : Int32)), .unset, .unset, .unset, .unset, .unset, .unset, .unset, .unset, .unset, .unset] []))
    refine own_FinV.step (fun _ => XS.iload X81.here hx rfl (hb hby at_148) rfl) ?_
    show own_FinV p e below s _ _ _ (T81.setTop (mkF m 150 #[.val (.int p1), .val (.int p2), .val (.int p3), .val (.int (p2 &&& (3 : Int32))), .val (.int (198 : Int32)), .val (.ref b81), .val (.int (1 : Int32)), .val (.int (6 : Int32)), .val (.int (1 : Int32)), .val (.int (1 : Int32)), .unset, .unset, .unset, .unset, .unset, .unset, .unset, .unset, .unset, .unset] [(.int (6 : Int32))]))
    refine own_FinV.step (fun _ => XS.bipush X81.here hx rfl (hb hby at_150)) ?_
    show own_FinV p e below s _ _ _ (T81.setTop (mkF m 152 #[.val (.int p1), .val (.int p2), .val (.int p3), .val (.int (p2 &&& (3 : Int32))), .val (.int (198 : Int32)), .val (.ref b81), .val (.int (1 : Int32)), .val (.int (6 : Int32)), .val (.int (1 : Int32)), .val (.int (1 : Int32)), .unset, .unset, .unset, .unset, .unset, .unset, .unset, .unset, .unset, .unset] [(.int (8 : Int32)), (.int (6 : Int32))]))
    refine own_FinV.step (fun _ => XS.iand X81.here hx rfl (hb hby at_152) rfl) ?_
    show own_FinV p e below s _ _ _ (T81.setTop (mkF m 153 #[.val (.int p1), .val (.int p2), .val (.int p3), .val (.int (p2 &&& (3 : Int32))), .val (.int (198 : Int32)), .val (.ref b81), .val (.int (1 : Int32)), .val (.int (6 : Int32)), .val (.int (1 : Int32)), .val (.int (1 : Int32)), .unset, .unset, .unset, .unset, .unset, .unset, .unset, .unset, .unset, .unset] [(.int (0 : Int32))]))
    refine own_FinV.step (fun _ => XS.ifYes X81.here hx rfl (pc0 := 153) (pc' := 160) rfl (hb hby at_153) rfl (XT.i0_eq_t (by decide : (0 : Int32) = (0 : Int32))) (by decide) (by decide)) ?_
    show own_FinV p e below s _ _ _ (T81.setTop (mkF m 160 #[.val (.int p1), .val (.int p2), .val (.int p3), .val (.int (p2 &&& (3 : Int32))), .val (.int (198 : Int32)), .val (.ref b81), .val (.int (1 : Int32)), .val (.int (6 : Int32)), .val (.int (1 : Int32)), .val (.int (1 : Int32)), .unset, .unset, .unset, .unset, .unset, .unset, .unset, .unset, .unset, .unset] []))
    refine own_FinV.step (fun _ => XS.iconst X81.here hx rfl (hb hby at_160)) ?_
    show own_FinV p e below s _ _ _ (T81.setTop (mkF m 161 #[.val (.int p1), .val (.int p2), .val (.int p3), .val (.int (p2 &&& (3 : Int32))), .val (.int (198 : Int32)), .val (.ref b81), .val (.int (1 : Int32)), .val (.int (6 : Int32)), .val (.int (1 : Int32)), .val (.int (1 : Int32)), .unset, .unset, .unset, .unset, .unset, .unset, .unset, .unset, .unset, .unset] [(.int (0 : Int32))]))
    refine own_FinV.step (fun _ => XS.istore X81.here hx rfl (hb hby at_161) rfl (l' := #[.val (.int p1), .val (.int p2), .val (.int p3), .val (.int (p2 &&& (3 : Int32))), .val (.int (198 : Int32)), .val (.ref b81), .val (.int (1 : Int32)), .val (.int (6 : Int32)), .val (.int (1 : Int32)), .val (.int (1 : Int32)), .val (.int (0 : Int32)), .unset, .unset, .unset, .unset, .unset, .unset, .unset, .unset, .unset]) rfl) ?_
    show own_FinV p e below s _ _ _ (T81.setTop (mkF m 163 #[.val (.int p1), .val (.int p2), .val (.int p3), .val (.int (p2 &&& (3 : Int32))), .val (.int (198 : Int32)), .val (.ref b81), .val (.int (1 : Int32)), .val (.int (6 : Int32)), .val (.int (1 : Int32)), .val (.int (1 : Int32)), .val (.int (0 : Int32)), .unset, .unset, .unset, .unset, .unset, .unset, .unset, .unset, .unset] []))
    refine own_FinV.step (fun _ => XS.iload X81.here hx rfl (hb hby at_163) rfl) ?_
    show own_FinV p e below s _ _ _ (T81.setTop (mkF m 165 #[.val (.int p1), .val (.int p2), .val (.int p3), .val (.int (p2 &&& (3 : Int32))), .val (.int (198 : Int32)), .val (.ref b81), .val (.int (1 : Int32)), .val (.int (6 : Int32)), .val (.int (1 : Int32)), .val (.int (1 : Int32)), .val (.int (0 : Int32)), .unset, .unset, .unset, .unset, .unset, .unset, .unset, .unset, .unset] [(.int (6 : Int32))]))
    refine own_FinV.step (fun _ => XS.iconst X81.here hx rfl (hb hby at_165)) ?_
    show own_FinV p e below s _ _ _ (T81.setTop (mkF m 166 #[.val (.int p1), .val (.int p2), .val (.int p3), .val (.int (p2 &&& (3 : Int32))), .val (.int (198 : Int32)), .val (.ref b81), .val (.int (1 : Int32)), .val (.int (6 : Int32)), .val (.int (1 : Int32)), .val (.int (1 : Int32)), .val (.int (0 : Int32)), .unset, .unset, .unset, .unset, .unset, .unset, .unset, .unset, .unset] [(.int (3 : Int32)), (.int (6 : Int32))]))
    refine own_FinV.step (fun _ => XS.iand X81.here hx rfl (hb hby at_166) rfl) ?_
    show own_FinV p e below s _ _ _ (T81.setTop (mkF m 167 #[.val (.int p1), .val (.int p2), .val (.int p3), .val (.int (p2 &&& (3 : Int32))), .val (.int (198 : Int32)), .val (.ref b81), .val (.int (1 : Int32)), .val (.int (6 : Int32)), .val (.int (1 : Int32)), .val (.int (1 : Int32)), .val (.int (0 : Int32)), .unset, .unset, .unset, .unset, .unset, .unset, .unset, .unset, .unset] [(.int (2 : Int32))]))
    refine own_FinV.step (fun _ => XS.istore X81.here hx rfl (hb hby at_167) rfl (l' := #[.val (.int p1), .val (.int p2), .val (.int p3), .val (.int (p2 &&& (3 : Int32))), .val (.int (198 : Int32)), .val (.ref b81), .val (.int (1 : Int32)), .val (.int (6 : Int32)), .val (.int (1 : Int32)), .val (.int (1 : Int32)), .val (.int (0 : Int32)), .val (.int (2 : Int32)), .unset, .unset, .unset, .unset, .unset, .unset, .unset, .unset]) rfl) ?_
    show own_FinV p e below s _ _ _ (T81.setTop (mkF m 169 #[.val (.int p1), .val (.int p2), .val (.int p3), .val (.int (p2 &&& (3 : Int32))), .val (.int (198 : Int32)), .val (.ref b81), .val (.int (1 : Int32)), .val (.int (6 : Int32)), .val (.int (1 : Int32)), .val (.int (1 : Int32)), .val (.int (0 : Int32)), .val (.int (2 : Int32)), .unset, .unset, .unset, .unset, .unset, .unset, .unset, .unset] []))
    refine own_FinV.step (fun _ => XS.iload X81.here hx rfl (hb hby at_169) rfl) ?_
    show own_FinV p e below s _ _ _ (T81.setTop (mkF m 171 #[.val (.int p1), .val (.int p2), .val (.int p3), .val (.int (p2 &&& (3 : Int32))), .val (.int (198 : Int32)), .val (.ref b81), .val (.int (1 : Int32)), .val (.int (6 : Int32)), .val (.int (1 : Int32)), .val (.int (1 : Int32)), .val (.int (0 : Int32)), .val (.int (2 : Int32)), .unset, .unset, .unset, .unset, .unset, .unset, .unset, .unset] [(.int (1 : Int32))]))
    refine own_FinV.step (fun _ => XS.ifNo X81.here hx rfl (hb hby at_171) rfl (XT.i0_eq_f (by decide : ¬ ((1 : Int32) = (0 : Int32))))) ?_
    show own_FinV p e below s _ _ _ (T81.setTop (mkF m 174 #[.val (.int p1), .val (.int p2), .val (.int p3), .val (.int (p2 &&& (3 : Int32))), .val (.int (198 : Int32)), .val (.ref b81), .val (.int (1 : Int32)), .val (.int (6 : Int32)), .val (.int (1 : Int32)), .val (.int (1 : Int32)), .val (.int (0 : Int32)), .val (.int (2 : Int32)), .unset, .unset, .unset, .unset, .unset, .unset, .unset, .unset] []))
    obtain ⟨b83, T83, h83, k83, X83, e83, E83, hS83, hk83, hZ83, hown83, St83, C83, st83⟩ := own_ldcV (s := s) (vm0 := T81.vm) X81 hx hZ hown (own_w hw 59 rfl) own_wS rfl hS hk hEL (List.mem_of_getElem? (i := 13) rfl) C81 (by decide) (g := (mkF m 174 #[.val (.int p1), .val (.int p2), .val (.int p3), .val (.int (p2 &&& (3 : Int32))), .val (.int (198 : Int32)), .val (.ref b81), .val (.int (1 : Int32)), .val (.int (6 : Int32)), .val (.int (1 : Int32)), .val (.int (1 : Int32)), .val (.int (0 : Int32)), .val (.int (2 : Int32)), .unset, .unset, .unset, .unset, .unset, .unset, .unset, .unset] [])) rfl (hb hby at_174) (n := 52) (by decide) (by decide) (by decide) (by decide)
    have hS := hS83
    have hk := hk83
    have hZ := hZ83
    have hown := hown83
    have f84 := f82.ext E83
    have f85 := St81.ext E83
    have Z83 : n0 ≤ h83.size := Nat.le_trans Z81 E83.1
    refine own_FinV.step st83 ?_
    show own_FinV p e below s _ _ _ (T83.setTop (mkF m 176 #[.val (.int p1), .val (.int p2), .val (.int p3), .val (.int (p2 &&& (3 : Int32))), .val (.int (198 : Int32)), .val (.ref b81), .val (.int (1 : Int32)), .val (.int (6 : Int32)), .val (.int (1 : Int32)), .val (.int (1 : Int32)), .val (.int (0 : Int32)), .val (.int (2 : Int32)), .unset, .unset, .unset, .unset, .unset, .unset, .unset, .unset] [(.ref b83)]))
    refine own_FinV.step (fun _ => XS.goto X83.here hx rfl (pc0 := 176) (pc' := 181) rfl (hb hby at_176) (by decide) (by decide)) ?_
    show own_FinV p e below s _ _ _ (T83.setTop (mkF m 181 #[.val (.int p1), .val (.int p2), .val (.int p3), .val (.int (p2 &&& (3 : Int32))), .val (.int (198 : Int32)), .val (.ref b81), .val (.int (1 : Int32)), .val (.int (6 : Int32)), .val (.int (1 : Int32)), .val (.int (1 : Int32)), .val (.int (0 : Int32)), .val (.int (2 : Int32)), .unset, .unset, .unset, .unset, .unset, .unset, .unset, .unset] [(.ref b83)]))
    refine own_FinV.step (fun _ => XS.astore X83.here hx rfl (hb hby at_181) rfl rfl (l' := #[.val (.int p1), .val (.int p2), .val (.int p3), .val (.int (p2 &&& (3 : Int32))), .val (.int (198 : Int32)), .val (.ref b81), .val (.int (1 : Int32)), .val (.int (6 : Int32)), .val (.int (1 : Int32)), .val (.int (1 : Int32)), .val (.int (0 : Int32)), .val (.int (2 : Int32)), .val (.ref b83), .unset, .unset, .unset, .unset, .unset, .unset, .unset]) rfl) ?_
    show own_FinV p e below s _ _ _ (T83.setTop (mkF m 183 #[.val (.int p1), .val (.int p2), .val (.int p3), .val (.int (p2 &&& (3 : Int32))), .val (.int (198 : Int32)), .val (.ref b81), .val (.int (1 : Int32)), .val (.int (6 : Int32)), .val (.int (1 : Int32)), .val (.int (1 : Int32)), .val (.int (0 : Int32)), .val (.int (2 : Int32)), .val (.ref b83), .unset, .unset, .unset, .unset, .unset, .unset, .unset] []))
    refine own_FinV.step (fun _ => XS.iload X83.here hx rfl (hb hby at_183) rfl) ?_
    show own_FinV p e below s _ _ _ (T83.setTop (mkF m 185 #[.val (.int p1), .val (.int p2), .val (.int p3), .val (.int (p2 &&& (3 : Int32))), .val (.int (198 : Int32)), .val (.ref b81), .val (.int (1 : Int32)), .val (.int (6 : Int32)), .val (.int (1 : Int32)), .val (.int (1 : Int32)), .val (.int (0 : Int32)), .val (.int (2 : Int32)), .val (.ref b83), .unset, .unset, .unset, .unset, .unset, .unset, .unset] [(.int (2 : Int32))]))
    refine own_FinV.step (fun _ => XS.ifYes X83.here hx rfl (pc0 := 185) (pc' := 195) rfl (hb hby at_185) rfl (XT.i0_ne_t (by decide : ¬ ((2 : Int32) = (0 : Int32)))) (by decide) (by decide)) ?_
    show own_FinV p e below s _ _ _ (T83.setTop (mkF m 195 #[.val (.int p1), .val (.int p2), .val (.int p3), .val (.int (p2 &&& (3 : Int32))), .val (.int (198 : Int32)), .val (.ref b81), .val (.int (1 : Int32)), .val (.int (6 : Int32)), .val (.int (1 : Int32)), .val (.int (1 : Int32)), .val (.int (0 : Int32)), .val (.int (2 : Int32)), .val (.ref b83), .unset, .unset, .unset, .unset, .unset, .unset, .unset] []))
    refine own_FinV.step (fun _ => XS.iload X83.here hx rfl (hb hby at_195) rfl) ?_
    show own_FinV p e below s _ _ _ (T83.setTop (mkF m 197 #[.val (.int p1), .val (.int p2), .val (.int p3), .val (.int (p2 &&& (3 : Int32))), .val (.int (198 : Int32)), .val (.ref b81), .val (.int (1 : Int32)), .val (.int (6 : Int32)), .val (.int (1 : Int32)), .val (.int (1 : Int32)), .val (.int (0 : Int32)), .val (.int (2 : Int32)), .val (.ref b83), .unset, .unset, .unset, .unset, .unset, .unset, .unset] [(.int (2 : Int32))]))
    refine own_FinV.step (fun _ => XS.iconst X83.here hx rfl (hb hby at_197)) ?_
    show own_FinV p e below s _ _ _ (T83.setTop (mkF m 198 #[.val (.int p1), .val (.int p2), .val (.int p3), .val (.int (p2 &&& (3 : Int32))), .val (.int (198 : Int32)), .val (.ref b81), .val (.int (1 : Int32)), .val (.int (6 : Int32)), .val (.int (1 : Int32)), .val (.int (1 : Int32)), .val (.int (0 : Int32)), .val (.int (2 : Int32)), .val (.ref b83), .unset, .unset, .unset, .unset, .unset, .unset, .unset] [(.int (1 : Int32)), (.int (2 : Int32))]))
    refine own_FinV.step (fun _ => XS.icmpYes X83.here hx rfl (pc0 := 198) (pc' := 218) rfl (hb hby at_198) rfl (XT.ii_ne_t (by decide : ¬ ((2 : Int32) = (1 : Int32)))) (by decide) (by decide)) ?_
    show own_FinV p e below s _ _ _ (T83.setTop (mkF m 218 #[.val (.int p1), .val (.int p2), .val (.int p3), .val (.int (p2 &&& (3 : Int32))), .val (.int (198 : Int32)), .val (.ref b81), .val (.int (1 : Int32)), .val (.int (6 : Int32)), .val (.int (1 : Int32)), .val (.int (1 : Int32)), .val (.int (0 : Int32)), .val (.int (2 : Int32)), .val (.ref b83), .unset, .unset, .unset, .unset, .unset, .unset, .unset] []))
    refine own_FinV.step (fun _ => XS.iload X83.here hx rfl (hb hby at_218) rfl) ?_
    show own_FinV p e below s _ _ _ (T83.setTop (mkF m 220 #[.val (.int p1), .val (.int p2), .val (.int p3), .val (.int (p2 &&& (3 : Int32))), .val (.int (198 : Int32)), .val (.ref b81), .val (.int (1 : Int32)), .val (.int (6 : Int32)), .val (.int (1 : Int32)), .val (.int (1 : Int32)), .val (.int (0 : Int32)), .val (.int (2 : Int32)), .val (.ref b83), .unset, .unset, .unset, .unset, .unset, .unset, .unset] [(.int (2 : Int32))]))
    refine own_FinV.step (fun _ => XS.iconst X83.here hx rfl (hb hby at_220)) ?_
    show own_FinV p e below s _ _ _ (T83.setTop (mkF m 221 #[.val (.int p1), .val (.int p2), .val (.int p3), .val (.int (p2 &&& (3 : Int32))), .val (.int (198 : Int32)), .val (.ref b81), .val (.int (1 : Int32)), .val (.int (6 : Int32)), .val (.int (1 : Int32)), .val (.int (1 : Int32)), .val (.int (0 : Int32)), .val (.int (2 : Int32)), .val (.ref b83), .unset, .unset, .unset, .unset, .unset, .unset, .unset] [(.int (2 : Int32)), (.int (2 : Int32))]))
    refine own_FinV.step (fun _ => XS.icmpNo X83.here hx rfl (hb hby at_221) rfl (XT.ii_ne_f (by decide : (2 : Int32) = (2 : Int32)))) ?_
    show own_FinV p e below s _ _ _ (T83.setTop (mkF m 224 #[.val (.int p1), .val (.int p2), .val (.int p3), .val (.int (p2 &&& (3 : Int32))), .val (.int (198 : Int32)), .val (.ref b81), .val (.int (1 : Int32)), .val (.int (6 : Int32)), .val (.int (1 : Int32)), .val (.int (1 : Int32)), .val (.int (0 : Int32)), .val (.int (2 : Int32)), .val (.ref b83), .unset, .unset, .unset, .unset, .unset, .unset, .unset] []))
    obtain ⟨b86, T86, h86, k86, X86, e86, E86, hS86, hk86, hZ86, hown86, St86, C86, st86⟩ := own_ldcV (s := s) (vm0 := T83.vm) X83 hx hZ hown (own_w hw 51 rfl) own_wS e83 hS hk hEL (List.mem_of_getElem? (i := 18) rfl) C83 (by decide) (g := (mkF m 224 #[.val (.int p1), .val (.int p2), .val (.int p3), .val (.int (p2 &&& (3 : Int32))), .val (.int (198 : Int32)), .val (.ref b81), .val (.int (1 : Int32)), .val (.int (6 : Int32)), .val (.int (1 : Int32)), .val (.int (1 : Int32)), .val (.int (0 : Int32)), .val (.int (2 : Int32)), .val (.ref b83), .unset, .unset, .unset, .unset, .unset, .unset, .unset] [])) rfl (hb hby at_224) (n := 44) (by decide) (by decide) (by decide) (by decide)
    have hS := hS86
    have hk := hk86
    have hZ := hZ86
    have hown := hown86
    have f87 := f84.ext E86
    have f88 := f85.ext E86
    have f89 := St83.ext E86
    have Z86 : n0 ≤ h86.size := Nat.le_trans Z83 E86.1
    refine own_FinV.step st86 ?_
    show own_FinV p e below s _ _ _ (T86.setTop (mkF m 226 #[.val (.int p1), .val (.int p2), .val (.int p3), .val (.int (p2 &&& (3 : Int32))), .val (.int (198 : Int32)), .val (.ref b81), .val (.int (1 : Int32)), .val (.int (6 : Int32)), .val (.int (1 : Int32)), .val (.int (1 : Int32)), .val (.int (0 : Int32)), .val (.int (2 : Int32)), .val (.ref b83), .unset, .unset, .unset, .unset, .unset, .unset, .unset] [(.ref b86)]))
    refine own_FinV.step (fun _ => XS.astore X86.here hx rfl (hb hby at_226) rfl rfl (l' := #[.val (.int p1), .val (.int p2), .val (.int p3), .val (.int (p2 &&& (3 : Int32))), .val (.int (198 : Int32)), .val (.ref b81), .val (.int (1 : Int32)), .val (.int (6 : Int32)), .val (.int (1 : Int32)), .val (.int (1 : Int32)), .val (.int (0 : Int32)), .val (.int (2 : Int32)), .val (.ref b83), .val (.ref b86), .unset, .unset, .unset, .unset, .unset, .unset]) rfl) ?_
    show own_FinV p e below s _ _ _ (T86.setTop (mkF m 228 #[.val (.int p1), .val (.int p2), .val (.int p3), .val (.int (p2 &&& (3 : Int32))), .val (.int (198 : Int32)), .val (.ref b81), .val (.int (1 : Int32)), .val (.int (6 : Int32)), .val (.int (1 : Int32)), .val (.int (1 : Int32)), .val (.int (0 : Int32)), .val (.int (2 : Int32)), .val (.ref b83), .val (.ref b86), .unset, .unset, .unset, .unset, .unset, .unset] []))
    refine own_FinV.step (fun _ => XS.goto X86.here hx rfl (pc0 := 228) (pc' := 235) rfl (hb hby at_228) (by decide) (by decide)) ?_
    show own_FinV p e below s _ _ _ (T86.setTop (mkF m 235 #[.val (.int p1), .val (.int p2), .val (.int p3), .val (.int (p2 &&& (3 : Int32))), .val (.int (198 : Int32)), .val (.ref b81), .val (.int (1 : Int32)), .val (.int (6 : Int32)), .val (.int (1 : Int32)), .val (.int (1 : Int32)), .val (.int (0 : Int32)), .val (.int (2 : Int32)), .val (.ref b83), .val (.ref b86), .unset, .unset, .unset, .unset, .unset, .unset] []))
    refine own_FinV.step (fun _ => XS.iload X86.here hx rfl (hb hby at_235) rfl) ?_
    show own_FinV p e below s _ _ _ (T86.setTop (mkF m 237 #[.val (.int p1), .val (.int p2), .val (.int p3), .val (.int (p2 &&& (3 : Int32))), .val (.int (198 : Int32)), .val (.ref b81), .val (.int (1 : Int32)), .val (.int (6 : Int32)), .val (.int (1 : Int32)), .val (.int (1 : Int32)), .val (.int (0 : Int32)), .val (.int (2 : Int32)), .val (.ref b83), .val (.ref b86), .unset, .unset, .unset, .unset, .unset, .unset] [(.int (0 : Int32))]))
    refine own_FinV.step (fun _ => XS.ifYes X86.here hx rfl (pc0 := 237) (pc' := 245) rfl (hb hby at_237) rfl (XT.i0_eq_t (by decide : (0 : Int32) = (0 : Int32))) (by decide) (by decide)) ?_
    show own_FinV p e below s _ _ _ (T86.setTop (mkF m 245 #[.val (.int p1), .val (.int p2), .val (.int p3), .val (.int (p2 &&& (3 : Int32))), .val (.int (198 : Int32)), .val (.ref b81), .val (.int (1 : Int32)), .val (.int (6 : Int32)), .val (.int (1 : Int32)), .val (.int (1 : Int32)), .val (.int (0 : Int32)), .val (.int (2 : Int32)), .val (.ref b83), .val (.ref b86), .unset, .unset, .unset, .unset, .unset, .unset] []))
    obtain ⟨b90, T90, h90, k90, X90, e90, E90, hS90, hk90, hZ90, hown90, St90, C90, st90⟩ := own_ldcV (s := s) (vm0 := T86.vm) X86 hx hZ hown (own_w hw 12 rfl) own_wS e86 hS hk hEL (List.mem_of_getElem? (i := 14) rfl) C86 (by decide) (g := (mkF m 245 #[.val (.int p1), .val (.int p2), .val (.int p3), .val (.int (p2 &&& (3 : Int32))), .val (.int (198 : Int32)), .val (.ref b81), .val (.int (1 : Int32)), .val (.int (6 : Int32)), .val (.int (1 : Int32)), .val (.int (1 : Int32)), .val (.int (0 : Int32)), .val (.int (2 : Int32)), .val (.ref b83), .val (.ref b86), .unset, .unset, .unset, .unset, .unset, .unset] [])) rfl (hb hby at_245) (n := 0) (by decide) (by decide) (by decide) (by decide)
    have hS := hS90
    have hk := hk90
    have hZ := hZ90
    have hown := hown90
    have f91 := f87.ext E90
    have f92 := f88.ext E90
    have f93 := f89.ext E90
    have f94 := St86.ext E90
    have Z90 : n0 ≤ h90.size := Nat.le_trans Z86 E90.1
    refine own_FinV.step st90 ?_
    show own_FinV p e below s _ _ _ (T90.setTop (mkF m 247 #[.val (.int p1), .val (.int p2), .val (.int p3), .val (.int (p2 &&& (3 : Int32))), .val (.int (198 : Int32)), .val (.ref b81), .val (.int (1 : Int32)), .val (.int (6 : Int32)), .val (.int (1 : Int32)), .val (.int (1 : Int32)), .val (.int (0 : Int32)), .val (.int (2 : Int32)), .val (.ref b83), .val (.ref b86), .unset, .unset, .unset, .unset, .unset, .unset] [(.ref b90)]))
    refine own_FinV.step (fun _ => XS.astore X90.here hx rfl (hb hby at_247) rfl rfl (l' := #[.val (.int p1), .val (.int p2), .val (.int p3), .val (.int (p2 &&& (3 : Int32))), .val (.int (198 : Int32)), .val (.ref b81), .val (.int (1 : Int32)), .val (.int (6 : Int32)), .val (.int (1 : Int32)), .val (.int (1 : Int32)), .val (.int (0 : Int32)), .val (.int (2 : Int32)), .val (.ref b83), .val (.ref b86), .val (.ref b90), .unset, .unset, .unset, .unset, .unset]) rfl) ?_
    have hcat : own_bs "differential progressive" = own_bs "differential " ++ own_bs "progressive" ++ own_bs "" := by decide +kernel
    rw [hcat] at f92
    exact own_tail hw X90 hx hby hml hown hret hlk hZ Z90 N81 e90 hS hk C90 hcs rv f91 f92 f93 f94 St90 (by decide) (by decide) (by decide) (by decide) (by decide) (by decide)
  ·
    show own_FinV p e below s _ _ _ (s₁.setTop (mkF m 42 #[.val (.int p1), .val (.int p2), .val (.int p3), .val (.int (p2 &&& (3 : Int32))), .val (.int (199 : Int32)), .unset, .unset, .unset, .unset, .unset, .unset, .unset, .unset, .unset, .unset, .unset, .unset, .unset, .unset, .unset] []))
    refine own_FinV.step (fun _ => XS.iload X0.here hx rfl (hb hby at_42) rfl) ?_
    show own_FinV p e below s _ _ _ (s₁.setTop (mkF m 44 #[.val (.int p1), .val (.int p2), .val (.int p3), .val (.int (p2 &&& (3 : Int32))), .val (.int (199 : Int32)), .unset, .unset, .unset, .unset, .unset, .unset, .unset, .unset, .unset, .unset, .unset, .unset, .unset, .unset, .unset] [(.int (199 : Int32))]))
    obtain ⟨_, T95, L95, k95, X95, ⟨b95, rfl, N95q, E95, St95⟩, hS95, hk95, hZ95, hown95, C95, st95⟩ := own_callSV (s := s) (vm0 := s.vm) X0 hx hZ hown (own_w hw 0 rfl) (own_w hw 1 rfl) (own_w hw 2 rfl) (own_w hw 3 rfl) (by decide) (rm8_199 l Z a0 hw  h0 n0 Z0 ) (by decide) (by decide) hS hk hEL C0 e0 (W := 0) (g := (mkF m 44 #[.val (.int p1), .val (.int p2), .val (.int p3), .val (.int (p2 &&& (3 : Int32))), .val (.int (199 : Int32)), .unset, .unset, .unset, .unset, .unset, .unset, .unset, .unset, .unset, .unset, .unset, .unset, .unset, .unset, .unset] [(.int (199 : Int32))])) rfl (by rw [hml]; rfl) (argsL := [(.int (199 : Int32))]) (rest := []) (lenOf pd_7 rfl) rfl rfl (by show 2 * 0 + _ ≤ _; exact Nat.le_of_eq rfl) (hb hby at_44) (by decide) (by decide)
    have hS := hS95
    have hk := hk95
    have hZ := hZ95
    have hown := hown95
    have N95 := Fr.app N0 N95q
    have Z95 : n0 ≤ T95.heap.size := Nat.le_trans Z0 E95.1
    have f96 := SS.ext E95
    refine own_FinV.step st95 ?_
    show own_FinV p e below s _ _ _ (T95.setTop (mkF m 47 #[.val (.int p1), .val (.int p2), .val (.int p3), .val (.int (p2 &&& (3 : Int32))), .val (.int (199 : Int32)), .unset, .unset, .unset, .unset, .unset, .unset, .unset, .unset, .unset, .unset, .unset, .unset, .unset, .unset, .unset] [(.ref b95)]))
    refine own_FinV.step (fun _ => XS.astore X95.here hx rfl (hb hby at_47) rfl rfl (l' := #[.val (.int p1), .val (.int p2), .val (.int p3), .val (.int (p2 &&& (3 : Int32))), .val (.int (199 : Int32)), .val (.ref b95), .unset, .unset, .unset, .unset, .unset, .unset, .unset, .unset, .unset, .unset, .unset, .unset, .unset, .unset]) rfl) ?_
    show own_FinV p e below s _ _ _ (T95.setTop (mkF m 49 #[.val (.int p1), .val (.int p2), .val (.int p3), .val (.int (p2 &&& (3 : Int32))), .val (.int (199 : Int32)), .val (.ref b95), .unset, .unset, .unset, .unset, .unset, .unset, .unset, .unset, .unset, .unset, .unset, .unset, .unset, .unset] []))
    refine own_FinV.step (fun _ => XS.iload X95.here hx rfl (hb hby at_49) rfl) ?_
    show own_FinV p e below s _ _ _ (T95.setTop (mkF m 51 #[.val (.int p1), .val (.int p2), .val (.int p3), .val (.int (p2 &&& (3 : Int32))), .val (.int (199 : Int32)), .val (.ref b95), .unset, .unset, .unset, .unset, .unset, .unset, .unset, .unset, .unset, .unset, .unset, .unset, .unset, .unset] [(.int (199 : Int32))]))
    refine own_FinV.step (fun _ => XS.sipush X95.here hx rfl (hb hby at_51)) ?_
    show own_FinV p e below s _ _ _ (T95.setTop (mkF m 54 #[.val (.int p1), .val (.int p2), .val (.int p3), .val (.int (p2 &&& (3 : Int32))), .val (.int (199 : Int32)), .val (.ref b95), .unset, .unset, .unset, .unset, .unset, .unset, .unset, .unset, .unset, .unset, .unset, .unset, .unset, .unset] [(.int (192 : Int32)), (.int (199 : Int32))]))
    refine own_FinV.step (fun _ => XS.icmpNo X95.here hx rfl (hb hby at_54) rfl (XT.ii_lt_f (by decide : ¬ ((199 : Int32) < (192 : Int32))))) ?_
    show own_FinV p e below s _ _ _ (T95.setTop (mkF m 57 #[.val (.int p1), .val (.int p2), .val (.int p3), .val (.int (p2 &&& (3 : Int32))), .val (.int (199 : Int32)), .val (.ref b95), .unset, .unset, .unset, .unset, .unset, .unset, .unset, .unset, .unset, .unset, .unset, .unset, .unset, .unset] []))
    refine own_FinV.step (fun _ => XS.iload X95.here hx rfl (hb hby at_57) rfl) ?_
    show own_FinV p e below s _ _ _ (T95.setTop (mkF m 59 #[.val (.int p1), .val (.int p2), .val (.int p3), .val (.int (p2 &&& (3 : Int32))), .val (.int (199 : Int32)), .val (.ref b95), .unset, .unset, .unset, .unset, .unset, .unset, .unset, .unset, .unset, .unset, .unset, .unset, .unset, .unset] [(.int (199 : Int32))]))
    refine own_FinV.step (fun _ => XS.sipush X95.here hx rfl (hb hby at_59)) ?_
    show own_FinV p e below s _ _ _ (T95.setTop (mkF m 62 #[.val (.int p1), .val (.int p2), .val (.int p3), .val (.int (p2 &&& (3 : Int32))), .val (.int (199 : Int32)), .val (.ref b95), .unset, .unset, .unset, .unset, .unset, .unset, .unset, .unset, .unset, .unset, .unset, .unset, .unset, .unset] [(.int (207 : Int32)), (.int (199 : Int32))]))
    refine own_FinV.step (fun _ => XS.icmpNo X95.here hx rfl (hb hby at_62) rfl (XT.ii_gt_f (by decide : ¬ ((207 : Int32) < (199 : Int32))))) ?_
    show own_FinV p e below s _ _ _ (T95.setTop (mkF m 65 #[.val (.int p1), .val (.int p2), .val (.int p3), .val (.int (p2 &&& (3 : Int32))), .val (.int (199 : Int32)), .val (.ref b95), .unset, .unset, .unset, .unset, .unset, .unset, .unset, .unset, .unset, .unset, .unset, .unset, .unset, .unset] []))
    refine own_FinV.step (fun _ => XS.iconst X95.here hx rfl (hb hby at_65)) ?_
    show own_FinV p e below s _ _ _ (T95.setTop (mkF m 66 #[.val (.int p1), .val (.int p2), .val (.int p3), .val (.int (p2 &&& (3 : Int32))), .val (.int (199 : Int32)), .val (.ref b95), .unset, .unset, .unset, .unset, .unset, .unset, .unset, .unset, .unset, .unset, .unset, .unset, .unset, .unset] [(.int (1 : Int32))]))
    refine own_FinV.step (fun _ => XS.goto X95.here hx rfl (pc0 := 66) (pc' := 70) rfl (hb hby at_66) (by decide) (by decide)) ?_
    show own_FinV p e below s _ _ _ (T95.setTop (mkF m 70 #[.val (.int p1), .val (.int p2), .val (.int p3), .val (.int (p2 &&& (3 : Int32))), .val (.int (199 : Int32)), .val (.ref b95), .unset, .unset, .unset, .unset, .unset, .unset, .unset, .unset, .unset, .unset, .unset, .unset, .unset, .unset] [(.int (1 : Int32))]))
    refine own_FinV.step (fun _ => XS.istore X95.here hx rfl (hb hby at_70) rfl (l' := #[.val (.int p1), .val (.int p2), .val (.int p3), .val (.int (p2 &&& (3 : Int32))), .val (.int (199 : Int32)), .val (.ref b95), .val (.int (1 : Int32)), .unset, .unset, .unset, .unset, .unset, .unset, .unset, .unset, .unset, .unset, .unset, .unset, .unset]) rfl) ?_
    show own_FinV p e below s _ _ _ (T95.setTop (mkF m 72 #[.val (.int p1), .val (.int p2), .val (.int p3), .val (.int (p2 &&& (3 : Int32))), .val (.int (199 : Int32)), .val (.ref b95), .val (.int (1 : Int32)), .unset, .unset, .unset, .unset, .unset, .unset, .unset, .unset, .unset, .unset, .unset, .unset, .unset] []))
    refine own_FinV.step (fun _ => XS.iload X95.here hx rfl (hb hby at_72) rfl) ?_
    show own_FinV p e below s _ _ _ (T95.setTop (mkF m 74 #[.val (.int p1), .val (.int p2), .val (.int p3), .val (.int (p2 &&& (3 : Int32))), .val (.int (199 : Int32)), .val (.ref b95), .val (.int (1 : Int32)), .unset, .unset, .unset, .unset, .unset, .unset, .unset, .unset, .unset, .unset, .unset, .unset, .unset] [(.int (199 : Int32))]))
    refine own_FinV.step (fun _ => XS.bipush X95.here hx rfl (hb hby at_74)) ?_
    show own_FinV p e below s _ _ _ (T95.setTop (mkF m 76 #[.val (.int p1), .val (.int p2), .val (.int p3), .val (.int (p2 &&& (3 : Int32))), .val (.int (199 : Int32)), .val (.ref b95), .val (.int (1 : Int32)), .unset, .unset, .unset, .unset, .unset, .unset, .unset, .unset, .unset, .unset, .unset, .unset, .unset] [(.int (15 : Int32)), (.int (199 : Int32))]))
    refine own_FinV.step (fun _ => XS.iand X95.here hx rfl (hb hby at_76) rfl) ?_
    show own_FinV p e below s _ _ _ (T95.setTop (mkF m 77 #[.val (.int p1), .val (.int p2), .val (.int p3), .val (.int (p2 &&& (3 : Int32))), .val (.int (199 : Int32)), .val (.ref b95), .val (.int (1 : Int32)), .unset, .unset, .unset, .unset, .unset, .unset, .unset, .unset, .unset, .unset, .unset, .unset, .unset] [(.int (7 : Int32))]))
    refine own_FinV.step (fun _ => XS.istore X95.here hx rfl (hb hby at_77) rfl (l' := #[.val (.int p1), .val (.int p2), .val (.int p3), .val (.int (p2 &&& (3 : Int32))), .val (.int (199 : Int32)), .val (.ref b95), .val (.int (1 : Int32)), .val (.int (7 : Int32)), .unset, .unset, .unset, .unset, .unset, .unset, .unset, .unset, .unset, .unset, .unset, .unset]) rfl) ?_
    show own_FinV p e below s _ _ _ (T95.setTop (mkF m 79 #[.val (.int p1), .val (.int p2), .val (.int p3), .val (.int (p2 &&& (3 : Int32))), .val (.int (199 : Int32)), .val (.ref b95), .val (.int (1 : Int32)), .val (.int (7 : Int32)), .unset, .unset, .unset, .unset, .unset, .unset, .unset, .unset, .unset, .unset, .unset, .unset] []))
    refine own_FinV.step (fun _ => XS.iload X95.here hx rfl (hb hby at_79) rfl) ?_
    show own_FinV p e below s _ _ _ (T95.setTop (mkF m 81 #[.val (.int p1), .val (.int p2), .val (.int p3), .val (.int (p2 &&& (3 : Int32))), .val (.int (199 : Int32)), .val (.ref b95), .val (.int (1 : Int32)), .val (.int (7 : Int32)), .unset, .unset, .unset, .unset, .unset, .unset, .unset, .unset, .unset, .unset, .unset, .unset] [(.int (1 : Int32))]))
    refine own_FinV.step (fun _ => XS.ifNo X95.here hx rfl (hb hby at_81) rfl (XT.i0_eq_f (by decide : ¬ ((1 : Int32) = (0 : Int32))))) ?_
    show own_FinV p e below s _ _ _ (T95.setTop (mkF m 84 #[.val (.int p1), .val (.int p2), .val (.int p3), .val (.int (p2 &&& (3 : Int32))), .val (.int (199 : Int32)), .val (.ref b95), .val (.int (1 : Int32)), .val (.int (7 : Int32)), .unset, .unset, .unset, .unset, .unset, .unset, .unset, .unset, .unset, .unset, .unset, .unset] []))
    refine own_FinV.step (fun _ => XS.iload X95.here hx rfl (hb hby at_84) rfl) ?_
    show own_FinV p e below s _ _ _ (T95.setTop (mkF m 86 #[.val (.int p1), .val (.int p2), .val (.int p3), .val (.int (p2 &&& (3 : Int32))), .val (.int (199 : Int32)), .val (.ref b95), .val (.int (1 : Int32)), .val (.int (7 : Int32)), .unset, .unset, .unset, .unset, .unset, .unset, .unset, .unset, .unset, .unset, .unset, .unset] [(.int (7 : Int32))]))
    refine own_FinV.step (fun _ => XS.iconst X95.here hx rfl (hb hby at_86)) ?_
    show own_FinV p e below s _ _ _ (T95.setTop (mkF m 87 #[.val (.int p1), .val (.int p2), .val (.int p3), .val (.int (p2 &&& (3 : Int32))), .val (.int (199 : Int32)), .val (.ref b95), .val (.int (1 : Int32)), .val (.int (7 : Int32)), .unset, .unset, .unset, .unset, .unset, .unset, .unset, .unset, .unset, .unset, .unset, .unset] [(.int (4 : Int32)), (.int (7 : Int32))]))
    refine own_FinV.step (fun _ => XS.icmpNo X95.here hx rfl (hb hby at_87) rfl (XT.ii_eq_f (by decide : ¬ ((7 : Int32) = (4 : Int32))))) ?_
    show own_FinV p e below s _ _ _ (T95.setTop (mkF m 90 #[.val (.int p1), .val (.int p2), .val (.int p3), .val (.int (p2 &&& (3 : Int32))), .val (.int (199 : Int32)), .val (.ref b95), .val (.int (1 : Int32)), .val (.int (7 : Int32)), .unset, .unset, .unset, .unset, .unset, .unset, .unset, .unset, .unset, .unset, .unset, .unset] []))
    refine own_FinV.step (fun _ => XS.iload X95.here hx rfl (hb hby at_90) rfl) ?_
    show own_FinV p e below s _ _ _ (T95.setTop (mkF m 92 #[.val (.int p1), .val (.int p2), .val (.int p3), .val (.int (p2 &&& (3 : Int32))), .val (.int (199 : Int32)), .val (.ref b95), .val (.int (1 : Int32)), .val (.int (7 : Int32)), .unset, .unset, .unset, .unset, .unset, .unset, .unset, .unset, .unset, .unset, .unset, .unset] [(.int (7 : Int32))]))
    refine own_FinV.step (fun _ => XS.bipush X95.here hx rfl (hb hby at_92)) ?_
    show own_FinV p e below s _ _ _ (T95.setTop (mkF m 94 #[.val (.int p1), .val (.int p2), .val (.int p3), .val (.int (p2 &&& (3 : Int32))), .val (.int (199 : Int32)), .val (.ref b95), .val (.int (1 : Int32)), .val (.int (7 : Int32)), .unset, .unset, .unset, .unset, .unset, .unset, .unset, .unset, .unset, .unset, .unset, .unset] [(.int (8 : Int32)), (.int (7 : Int32))]))
    refine own_FinV.step (fun _ => XS.icmpNo X95.here hx rfl (hb hby at_94) rfl (XT.ii_eq_f (by decide : ¬ ((7 : Int32) = (8 : Int32))))) ?_
    show own_FinV p e below s _ _ _ (T95.setTop (mkF m 97 #[.val (.int p1), .val (.int p2), .val (.int p3), .val (.int (p2 &&& (3 : Int32))), .val (.int (199 : Int32)), .val (.ref b95), .val (.int (1 : Int32)), .val (.int (7 : Int32)), .unset, .unset, .unset, .unset, .unset, .unset, .unset, .unset, .unset, .unset, .unset, .unset] []))
    refine own_FinV.step (fun _ => XS.iload X95.here hx rfl (hb hby at_97) rfl) ?_
    show own_FinV p e below s _ _ _ (T95.setTop (mkF m 99 #[.val (.int p1), .val (.int p2), .val (.int p3), .val (.int (p2 &&& (3 : Int32))), .val (.int (199 : Int32)), .val (.ref b95), .val (.int (1 : Int32)), .val (.int (7 : Int32)), .unset, .unset, .unset, .unset, .unset, .unset, .unset, .unset, .unset, .unset, .unset, .unset] [(.int (7 : Int32))]))
    refine own_FinV.step (fun _ => XS.bipush X95.here hx rfl (hb hby at_99)) ?_
    show own_FinV p e below s _ _ _ (T95.setTop (mkF m 101 #[.val (.int p1), .val (.int p2), .val (.int p3), .val (.int (p2 &&& (3 : Int32))), .val (.int (199 : Int32)), .val (.ref b95), .val (.int (1 : Int32)), .val (.int (7 : Int32)), .unset, .unset, .unset, .unset, .unset, .unset, .unset, .unset, .unset, .unset, .unset, .unset] [(.int (12 : Int32)), (.int (7 : Int32))]))
    refine own_FinV.step (fun _ => XS.icmpNo X95.here hx rfl (hb hby at_101) rfl (XT.ii_eq_f (by decide : ¬ ((7 : Int32) = (12 : Int32))))) ?_
    show own_FinV p e below s _ _ _ (T95.setTop (mkF m 104 #[.val (.int p1), .val (.int p2), .val (.int p3), .val (.int (p2 &&& (3 : Int32))), .val (.int (199 : Int32)), .val (.ref b95), .val (.int (1 : Int32)), .val (.int (7 : Int32)), .unset, .unset, .unset, .unset, .unset, .unset, .unset, .unset, .unset, .unset, .unset, .unset] []))
    refine own_FinV.step (fun _ => XS.iconst X95.here hx rfl (hb hby at_104)) ?_
    show own_FinV p e below s _ _ _ (T95.setTop (mkF m 105 #[.val (.int p1), .val (.int p2), .val (.int p3), .val (.int (p2 &&& (3 : Int32))), .val (.int (199 : Int32)), .val (.ref b95), .val (.int (1 : Int32)), .val (.int (7 : Int32)), .unset, .unset, .unset, .unset, .unset, .unset, .unset, .unset, .unset, .unset, .unset, .unset] [(.int (1 : Int32))]))
    refine own_FinV.step (fun _ => XS.goto X95.here hx rfl (pc0 := 105) (pc' := 109) rfl (hb hby at_105) (by decide) (by decide)) ?_
    show own_FinV p e below s _ _ _ (T95.setTop (mkF m 109 #[.val (.int p1), .val (.int p2), .val (.int p3), .val (.int (p2 &&& (3 : Int32))), .val (.int (199 : Int32)), .val (.ref b95), .val (.int (1 : Int32)), .val (.int (7 : Int32)), .unset, .unset, .unset, .unset, .unset, .unset, .unset, .unset, .unset, .unset, .unset, .unset] [(.int (1 : Int32))]))
    refine own_FinV.step (fun _ => XS.istore X95.here hx rfl (hb hby at_109) rfl (l' := #[.val (.int p1), .val (.int p2), .val (.int p3), .val (.int (p2 &&& (3 : Int32))), .val (.int (199 : Int32)), .val (.ref b95), .val (.int (1 : Int32)), .val (.int (7 : Int32)), .val (.int (1 : Int32)), .unset, .unset, .unset, .unset, .unset, .unset, .unset, .unset, .unset, .unset, .unset]) rfl) ?_
    show own_FinV p e below s _ _ _ (T95.setTop (mkF m 111 #[.val (.int p1), .val (.int p2), .val (.int p3), .val (.int (p2 &&& (3 : Int32))), .val (.int (199 : Int32)), .val (.ref b95), .val (.int (1 : Int32)), .val (.int (7 : Int32)), .val (.int (1 : Int32)), .unset, .unset, .unset, .unset, .unset, .unset, .unset, .unset, .unset, .unset, .unset] []))
    refine own_FinV.step (fun _ => XS.iload X95.here hx rfl (hb hby at_111) rfl) ?_
    show own_FinV p e below s _ _ _ (T95.setTop (mkF m 113 #[.val (.int p1), .val (.int p2), .val (.int p3), .val (.int (p2 &&& (3 : Int32))), .val (.int (199 : Int32)), .val (.ref b95), .val (.int (1 : Int32)), .val (.int (7 : Int32)), .val (.int (1 : Int32)), .unset, .unset, .unset, .unset, .unset, .unset, .unset, .unset, .unset, .unset, .unset] [(.int (1 : Int32))]))
    refine own_FinV.step (fun _ => XS.ifYes X95.here hx rfl (pc0 := 113) (pc' := 127) rfl (hb hby at_113) rfl (XT.i0_ne_t (by decide : ¬ ((1 : Int32) = (0 : Int32)))) (by decide) (by decide)) ?_
    show own_FinV p e below s _ _ _ (T95.setTop (mkF m 127 #[.val (.int p1), .val (.int p2), .val (.int p3), .val (.int (p2 &&& (3 : Int32))), .val (.int (199 : Int32)), .val (.ref b95), .val (.int (1 : Int32)), .val (.int (7 : Int32)), .val (.int (1 : Int32)), .unset, .unset, .unset, .unset, .unset, .unset, .unset, .unset, .unset, .unset, .unset] []))
    refine own_FinV.step (fun _ => XS.aload X95.here hx rfl (hb hby at_127) rfl rfl) ?_
    show own_FinV p e below s _ _ _ (T95.setTop (mkF m 129 #[.val (.int p1), .val (.int p2), .val (.int p3), .val (.int (p2 &&& (3 : Int32))), .val (.int (199 : Int32)), .val (.ref b95), .val (.int (1 : Int32)), .val (.int (7 : Int32)), .val (.int (1 : Int32)), .unset, .unset, .unset, .unset, .unset, .unset, .unset, .unset, .unset, .unset, .unset] [(.ref b95)]))
    refine own_FinV.step (fun _ => XS.ifnonnullYes X95.here hx rfl (pc0 := 129) (pc' := 134) rfl (hb hby at_129) rfl (by decide) (by decide)) ?_
    show own_FinV p e below s _ _ _ (T95.setTop (mkF m 134 #[.val (.int p1), .val (.int p2), .val (.int p3), .val (.int (p2 &&& (3 : Int32))), .val (.int (199 : Int32)), .val (.ref b95), .val (.int (1 : Int32)), .val (.int (7 : Int32)), .val (.int (1 : Int32)), .unset, .unset, .unset, .unset, .unset, .unset, .unset, .unset, .unset, .unset, .unset] []))
    refine own_FinV.step (fun _ => XS.iload X95.here hx rfl (hb hby at_134) rfl) ?_
    show own_FinV p e below s _ _ _ (T95.setTop (mkF m 136 #[.val (.int p1), .val (.int p2), .val (.int p3), .val (.int (p2 &&& (3 : Int32))), .val (.int (199 : Int32)), .val (.ref b95), .val (.int (1 : Int32)), .val (.int (7 : Int32)), .val (.int (1 : Int32)), .unset, .unset, .unset, .unset, .unset, .unset, .unset, .unset, .unset, .unset, .unset] [(.int (7 : Int32))]))
    refine own_FinV.step (fun _ => XS.iconst X95.here hx rfl (hb hby at_136)) ?_
    show own_FinV p e below s _ _ _ (T95.setTop (mkF m 137 #[.val (.int p1), .val (.int p2), .val (.int p3), .val (.int (p2 &&& (3 : Int32))), .val (.int (199 : Int32)), .val (.ref b95), .val (.int (1 : Int32)), .val (.int (7 : Int32)), .val (.int (1 : Int32)), .unset, .unset, .unset, .unset, .unset, .unset, .unset, .unset, .unset, .unset, .unset] [(.int (4 : Int32)), (.int (7 : Int32))]))
    refine own_FinV.step (fun _ => XS.iand X95.here hx rfl (hb hby at_137) rfl) ?_
    show own_FinV p e below s _ _ _ (T95.setTop (mkF m 138 #[.val (.int p1), .val (.int p2), .val (.int p3), .val (.int (p2 &&& (3 : Int32))), .val (.int (199 : Int32)), .val (.ref b95), .val (.int (1 : Int32)), .val (.int (7 : Int32)), .val (.int (1 : Int32)), .unset, .unset, .unset, .unset, .unset, .unset, .unset, .unset, .unset, .unset, .unset] [(.int (4 : Int32))]))
    refine own_FinV.step (fun _ => XS.ifNo X95.here hx rfl (hb hby at_138) rfl (XT.i0_eq_f (by decide : ¬ ((4 : Int32) = (0 : Int32))))) ?_
    show own_FinV p e below s _ _ _ (T95.setTop (mkF m 141 #[.val (.int p1), .val (.int p2), .val (.int p3), .val (.int (p2 &&& (3 : Int32))), .val (.int (199 : Int32)), .val (.ref b95), .val (.int (1 : Int32)), .val (.int (7 : Int32)), .val (.int (1 : Int32)), .unset, .unset, .unset, .unset, .unset, .unset, .unset, .unset, .unset, .unset, .unset] []))
    refine own_FinV.step (fun _ => XS.iconst X95.here hx rfl (hb hby at_141)) ?_
    show own_FinV p e below s _ _ _ (T95.setTop (mkF m 142 #[.val (.int p1), .val (.int p2), .val (.int p3), .val (.int (p2 &&& (3 : Int32))), .val (.int (199 : Int32)), .val (.ref b95), .val (.int (1 : Int32)), .val (.int (7 : Int32)), .val (.int (1 : Int32)), .unset, .unset, .unset, .unset, .unset, .unset, .unset, .unset, .unset, .unset, .unset] [(.int (1 : Int32))]))
    refine own_FinV.step (fun _ => XS.goto X95.here hx rfl (pc0 := 142) (pc' := 146) rfl (hb hby at_142) (by decide) (by decide)) ?_
    show own_FinV p e below s _ _ _ (T95.setTop (mkF m 146 #[.val (.int p1), .val (.int p2), .val (.int p3), .val (.int (p2 &&& (3 : Int32))), .val (.int (199 : Int32)), .val (.ref b95), .val (.int (1 : Int32)), .val (.int (7 : Int32)), .val (.int (1 : Int32)), .unset, .unset, .unset, .unset, .unset, .unset, .unset, .unset, .unset, .unset, .unset] [(.int (1 : Int32))]))
    refine own_FinV.step (fun _ => XS.istore X95.here hx rfl (hb hby at_146) rfl (l' := #[.val (.int p1), .val (.int p2), .val (.int p3), .val (.int (p2 &&& (3 : Int32))), .val (.int (199 : Int32)), .val (.ref b95), .val (.int (1 : Int32)), .val (.int (7 : Int32)), .val (.int (1 : Int32)), .val (.int (1 : Int32)), .unset, .unset, .unset, .unset, .unset, .unset, .unset, .unset, .unset, .unset]) rfl) ?_
    show own_FinV p e below s _ _ _ (T95.setTop (mkF m 148 #[.val (.int p1), .val (.int p2), .val (.int p3), .val (.int (p2 &&& (3 : Int32))), .val (.int (199 : Int32)), .val (.ref b95), .val (.int (1 : Int32)), .val (.int (7 : Int32)), .val (.int (1 : Int32)), .val (.int (1 : Int32)), .unset, .unset, .unset, .unset, .unset, .unset, .unset, .unset, .unset, .unset] []))
    refine own_FinV.step (fun _ => XS.iload X95.here hx rfl (hb hby at_148) rfl) ?_
    show own_FinV p e below s _ _ _ (T95.setTop (mkF m 150 #[.val (.int p1), .val (.int p2), .val (.int p3), .val (.int (p2 &&& (3 : Int32))), .val (.int (199 : Int32)), .val (.ref b95), .val (.int (1 : Int32)), .val (.int (7 : Int32)), .val (.int (1 : Int32)), .val (.int (1 : Int32)), .unset, .unset, .unset, .unset, .unset, .unset, .unset, .unset, .unset, .unset] [(.int (7 : Int32))]))
    refine own_FinV.step (fun _ => XS.bipush X95.here hx rfl (hb hby at_150)) ?_
    show own_FinV p e below s _ _ _ (T95.setTop (mkF m 152 #[.val (.int p1), .val (.int p2), .val (.int p3), .val (.int (p2 &&& (3 : Int32))), .val (.int (199 : Int32)), .val (.ref b95), .val (.int (1 : Int32)), .val (.int (7 : Int32)), .val (.int (1 : Int32)), .val (.int (1 : Int32)), .unset, .unset, .unset, .unset, .unset, .unset, .unset, .unset, .unset, .unset] [(.int (8 : Int32)), (.int (7 : Int32))]))
    refine own_FinV.step (fun _ => XS.iand X95.here hx rfl (hb hby at_152) rfl) ?_
    show own_FinV p e below s _ _ _ (T95.setTop (mkF m 153 #[.val (.int p1), .val (.int p2), .val (.int p3), .val (.int (p2 &&& (3 : Int32))), .val (.int (199 : Int32)), .val (.ref b95), .val (.int (1 : Int32)), .val (.int (7 : Int32)), .val (.int (1 : Int32)), .val (.int (1 : Int32)), .unset, .unset, .unset, .unset, .unset, .unset, .unset, .unset, .unset, .unset] [(.int (0 : Int32))]))
    refine own_FinV.step (fun _ => XS.ifYes X95.here hx rfl (pc0 := 153) (pc' := 160) rfl (hb hby at_153) rfl (XT.i0_eq_t (by decide : (0 : Int32) = (0 : Int32))) (by decide) (by decide)) ?_
    show own_FinV p e below s _ _ _ (T95.setTop (mkF m 160 #[.val (.int p1), .val (.int p2), .val (.int p3), .val (.int (p2 &&& (3 : Int32))), .val (.int (199 : Int32)), .val (.ref b95), .val (.int (1 : Int32)), .val (.int (7 : Int32)), .val (.int (1 : Int32)), .val (.int (1 : Int32)), .unset, .unset, .unset, .unset, .unset, .unset, .unset, .unset, .unset, .unset] []))
    refine own_FinV.step (fun _ => XS.iconst X95.here hx rfl (hb hby at_160)) ?_
    show own_FinV p e below s _ _ _ (T95.setTop (mkF m 161 #[.val (.int p1), .val (.int p2), .val (.int p3), .val (.int (p2 &&& (3 : Int32))), .val (.int (199 : Int32)), .val (.ref b95), .val (.int (1 : Int32)), .val (.int (7 : Int32)), .val (.int (1 : Int32)), .val (.int (1 : Int32)), .unset, .unset, .unset, .unset, .unset, .unset, .unset, .unset, .unset, .unset] [(.int (0 : Int32))]))
    refine own_FinV.step (fun _ => XS.istore X95.here hx rfl (hb hby at_161) rfl (l' := #[.val (.int p1), .val (.int p2), .val (.int p3), .val (.int (p2 &&& (3 : Int32))), .val (.int (199 : Int32)), .val (.ref b95), .val (.int (1 : Int32)), .val (.int (7 : Int32)), .val (.int (1 : Int32)), .val (.int (1 : Int32)), .val (.int (0 : Int32)), .unset, .unset, .unset, .unset, .unset, .unset, .unset, .unset, .unset]) rfl) ?_
    show own_FinV p e below s _ _ _ (T95.setTop (mkF m 163 #[.val (.int p1), .val (.int p2), .val (.int p3), .val (.int (p2 &&& (3 : Int32))), .val (.int (199 : Int32)), .val (.ref b95), .val (.int (1 : Int32)), .val (.int (7 : Int32)), .val (.int (1 : Int32)), .val (.int (1 : Int32)), .val (.int (0 : Int32)), .unset, .unset, .unset, .unset, .unset, .unset, .unset, .unset, .unset] []))
    refine own_FinV.step (fun _ => XS.iload X95.here hx rfl (hb hby at_163) rfl) ?_
    show own_FinV p e below s _ _ _ (T95.setTop (mkF m 165 #[.val (.int p1), .val (.int p2), .val (.int p3), .val (.int (p2 &&& (3 : Int32))), .val (.int (199 : Int32)), .val (.ref b95), .val (.int (1 : Int32)), .val (.int (7 : Int32)), .val (.int (1 : Int32)), .val (.int (1 : Int32)), .val (.int (0 : Int32)), .unset, .unset, .unset, .unset, .unset, .unset, .unset, .unset, .unset] [(.int (7 : Int32))]))
    refine own_FinV.step (fun _ => XS.iconst X95.here hx rfl (hb hby at_165)) ?_
    show own_FinV p e below s _ _ _ (T95.setTop (mkF m 166 #[.val (.int p1), .val (.int p2), .val (.int p3), .val (.int (p2 &&& (3 : Int32))), .val (.int (199 : Int32)), .val (.ref b95), .val (.int (1 : Int32)), .val (.int (7 : Int32)), .val (.int (1 : Int32)), .val (.int (1 : Int32)), .val (.int (0 : Int32)), .unset, .unset, .unset, .unset, .unset, .unset, .unset, .unset, .unset] [(.int (3 : Int32)), (.int (7 : Int32))]))
    refine own_FinV.step (fun _ => XS.iand X95.here hx rfl (hb hby at_166) rfl) ?_
    show own_FinV p e below s _ _ _ (T95.setTop (mkF m 167 #[.val (.int p1), .val (.int p2), .val (.int p3), .val (.int (p2 &&& (3 : Int32))), .val (.int (199 : Int32)), .val (.ref b95), .val (.int (1 : Int32)), .val (.int (7 : Int32)), .val (.int (1 : Int32)), .val (.int (1 : Int32)), .val (.int (0 : Int32)), .unset, .unset, .unset, .unset, .unset, .unset, .unset, .unset, .unset] [(.int (3 : Int32))]))
    refine own_FinV.step (fun _ => XS.istore X95.here hx rfl (hb hby at_167) rfl (l' := #[.val (.int p1), .val (.int p2), .val (.int p3), .val (.int (p2 &&& (3 : Int32))), .val (.int (199 : Int32)), .val (.ref b95), .val (.int (1 : Int32)), .val (.int (7 : Int32)), .val (.int (1 : Int32)), .val (.int (1 : Int32)), .val (.int (0 : Int32)), .val (.int (3 : Int32)), .unset, .unset, .unset, .unset, .unset, .unset, .unset, .unset]) rfl) ?_
    show own_FinV p e below s _ _ _ (T95.setTop (mkF m 169 #[.val (.int p1), .val (.int p2), .val (.int p3), .val (.int (p2 &&& (3 : Int32))), .val (.int (199 : Int32)), .val (.ref b95), .val (.int (1 : Int32)), .val (.int (7 : Int32)), .val (.int (1 : Int32)), .val (.int (1 : Int32)), .val (.int (0 : Int32)), .val (.int (3 : Int32)), .unset, .unset, .unset, .unset, .unset, .unset, .unset, .unset] []))
    refine own_FinV.step (fun _ => XS.iload X95.here hx rfl (hb hby at_169) rfl) ?_
    show own_FinV p e below s _ _ _ (T95.setTop (mkF m 171 #[.val (.int p1), .val (.int p2), .val (.int p3), .val (.int (p2 &&& (3 : Int32))), .val (.int (199 : Int32)), .val (.ref b95), .val (.int (1 : Int32)), .val (.int (7 : Int32)), .val (.int (1 : Int32)), .val (.int (1 : Int32)), .val (.int (0 : Int32)), .val (.int (3 : Int32)), .unset, .unset, .unset, .unset, .unset, .unset, .unset, .unset] [(.int (1 : Int32))]))
    refine own_FinV.step (fun _ => XS.ifNo X95.here hx rfl (hb hby at_171) rfl (XT.i0_eq_f (by decide : ¬ ((1 : Int32) = (0 : Int32))))) ?_
    show own_FinV p e below s _ _ _ (T95.setTop (mkF m 174 #[.val (.int p1), .val (.int p2), .val (.int p3), .val (.int (p2 &&& (3 : Int32))), .val (.int (199 : Int32)), .val (.ref b95), .val (.int (1 : Int32)), .val (.int (7 : Int32)), .val (.int (1 : Int32)), .val (.int (1 : Int32)), .val (.int (0 : Int32)), .val (.int (3 : Int32)), .unset, .unset, .unset, .unset, .unset, .unset, .unset, .unset] []))
    obtain ⟨b97, T97, h97, k97, X97, e97, E97, hS97, hk97, hZ97, hown97, St97, C97, st97⟩ := own_ldcV (s := s) (vm0 := T95.vm) X95 hx hZ hown (own_w hw 59 rfl) own_wS rfl hS hk hEL (List.mem_of_getElem? (i := 13) rfl) C95 (by decide) (g := (mkF m 174 #[.val (.int p1), .val (.int p2), .val (.int p3), .val (.int (p2 &&& (3 : Int32))), .val (.int (199 : Int32)), .val (.ref b95), .val (.int (1 : Int32)), .val (.int (7 : Int32)), .val (.int (1 : Int32)), .val (.int (1 : Int32)), .val (.int (0 : Int32)), .val (.int (3 : Int32)), .unset, .unset, .unset, .unset, .unset, .unset, .unset, .unset] [])) rfl (hb hby at_174) (n := 52) (by decide) (by decide) (by decide) (by decide)
    have hS := hS97
    have hk := hk97
    have hZ := hZ97
    have hown := hown97
    have f98 := f96.ext E97
    have f99 := St95.ext E97
    have Z97 : n0 ≤ h97.size := Nat.le_trans Z95 E97.1
    refine own_FinV.step st97 ?_
    show own_FinV p e below s _ _ _ (T97.setTop (mkF m 176 #[.val (.int p1), .val (.int p2), .val (.int p3), .val (.int (p2 &&& (3 : Int32))), .val (.int (199 : Int32)), .val (.ref b95), .val (.int (1 : Int32)), .val (.int (7 : Int32)), .val (.int (1 : Int32)), .val (.int (1 : Int32)), .val (.int (0 : Int32)), .val (.int (3 : Int32)), .unset, .unset, .unset, .unset, .unset, .unset, .unset, .unset] [(.ref b97)]))
    refine own_FinV.step (fun _ => XS.goto X97.here hx rfl (pc0 := 176) (pc' := 181) rfl (hb hby at_176) (by decide) (by decide)) ?_
    show own_FinV p e below s _ _ _ (T97.setTop (mkF m 181 #[.val (.int p1), .val (.int p2), .val (.int p3), .val (.int (p2 &&& (3 : Int32))), .val (.int (199 : Int32)), .val (.ref b95), .val (.int (1 : Int32)), .val (.int (7 : Int32)), .val (.int (1 : Int32)), .val (.int (1 : Int32)), .val (.int (0 : Int32)), .val (.int (3 : Int32)), .unset, .unset, .unset, .unset, .unset, .unset, .unset, .unset] [(.ref b97)]))
    refine own_FinV.step (fun _ => XS.astore X97.here hx rfl (hb hby at_181) rfl rfl (l' := #[.val (.int p1), .val (.int p2), .val (.int p3), .val (.int (p2 &&& (3 : Int32))), .val (.int (199 : Int32)), .val (.ref b95), .val (.int (1 : Int32)), .val (.int (7 : Int32)), .val (.int (1 : Int32)), .val (.int (1 : Int32)), .val (.int (0 : Int32)), .val (.int (3 : Int32)), .val (.ref b97), .unset, .unset, .unset, .unset, .unset, .unset, .unset]) rfl) ?_
    show own_FinV p e below s _ _ _ (T97.setTop (mkF m 183 #[.val (.int p1), .val (.int p2), .val (.int p3), .val (.int (p2 &&& (3 : Int32))), .val (.int (199 : Int32)), .val (.ref b95), .val (.int (1 : Int32)), .val (.int (7 : Int32)), .val (.int (1 : Int32)), .val (.int (1 : Int32)), .val (.int (0 : Int32)), .val (.int (3 : Int32)), .val (.ref b97), .unset, .unset, .unset, .unset, .unset, .unset, .unset] []))
    refine own_FinV.step (fun _ => XS.iload X97.here hx rfl (hb hby at_183) rfl) ?_
    show own_FinV p e below s _ _ _ (T97.setTop (mkF m 185 #[.val (.int p1), .val (.int p2), .val (.int p3), .val (.int (p2 &&& (3 : Int32))), .val (.int (199 : Int32)), .val (.ref b95), .val (.int (1 : Int32)), .val (.int (7 : Int32)), .val (.int (1 : Int32)), .val (.int (1 : Int32)), .val (.int (0 : Int32)), .val (.int (3 : Int32)), .val (.ref b97), .unset, .unset, .unset, .unset, .unset, .unset, .unset] [(.int (3 : Int32))]))
    refine own_FinV.step (fun _ => XS.ifYes X97.here hx rfl (pc0 := 185) (pc' := 195) rfl (hb hby at_185) rfl (XT.i0_ne_t (by decide : ¬ ((3 : Int32) = (0 : Int32)))) (by decide) (by decide)) ?_
    show own_FinV p e below s _ _ _ (T97.setTop (mkF m 195 #[.val (.int p1), .val (.int p2), .val (.int p3), .val (.int (p2 &&& (3 : Int32))), .val (.int (199 : Int32)), .val (.ref b95), .val (.int (1 : Int32)), .val (.int (7 : Int32)), .val (.int (1 : Int32)), .val (.int (1 : Int32)), .val (.int (0 : Int32)), .val (.int (3 : Int32)), .val (.ref b97), .unset, .unset, .unset, .unset, .unset, .unset, .unset] []))
    refine own_FinV.step (fun _ => XS.iload X97.here hx rfl (hb hby at_195) rfl) ?_
    show own_FinV p e below s _ _ _ (T97.setTop (mkF m 197 #[.val (.int p1), .val (.int p2), .val (.int p3), .val (.int (p2 &&& (3 : Int32))), .val (.int (199 : Int32)), .val (.ref b95), .val (.int (1 : Int32)), .val (.int (7 : Int32)), .val (.int (1 : Int32)), .val (.int (1 : Int32)), .val (.int (0 : Int32)), .val (.int (3 : Int32)), .val (.ref b97), .unset, .unset, .unset, .unset, .unset, .unset, .unset] [(.int (3 : Int32))]))
    refine own_FinV.step (fun _ => XS.iconst X97.here hx rfl (hb hby at_197)) ?_
    show own_FinV p e below s _ _ _ (T97.setTop (mkF m 198 #[.val (.int p1), .val (.int p2), .val (.int p3), .val (.int (p2 &&& (3 : Int32))), .val (.int (199 : Int32)), .val (.ref b95), .val (.int (1 : Int32)), .val (.int (7 : Int32)), .val (.int (1 : Int32)), .val (.int (1 : Int32)), .val (.int (0 : Int32)), .val (.int (3 : Int32)), .val (.ref b97), .unset, .unset, .unset, .unset, .unset, .unset, .unset] [(.int (1 : Int32)), (.int (3 : Int32))]))
    refine own_FinV.step (fun _ => XS.icmpYes X97.here hx rfl (pc0 := 198) (pc' := 218) rfl (hb hby at_198) rfl (XT.ii_ne_t (by decide : ¬ ((3 : Int32) = (1 : Int32)))) (by decide) (by decide)) ?_
    show own_FinV p e below s _ _ _ (T97.setTop (mkF m 218 #[.val (.int p1), .val (.int p2), .val (.int p3), .val (.int (p2 &&& (3 : Int32))), .val (.int (199 : Int32)), .val (.ref b95), .val (.int (1 : Int32)), .val (.int (7 : Int32)), .val (.int (1 : Int32)), .val (.int (1 : Int32)), .val (.int (0 : Int32)), .val (.int (3 : Int32)), .val (.ref b97), .unset, .unset, .unset, .unset, .unset, .unset, .unset] []))
    refine own_FinV.step (fun _ => XS.iload X97.here hx rfl (hb hby at_218) rfl) ?_
    show own_FinV p e below s _ _ _ (T97.setTop (mkF m 220 #[.val (.int p1), .val (.int p2), .val (.int p3), .val (.int (p2 &&& (3 : Int32))), .val (.int (199 : Int32)), .val (.ref b95), .val (.int (1 : Int32)), .val (.int (7 : Int32)), .val (.int (1 : Int32)), .val (.int (1 : Int32)), .val (.int (0 : Int32)), .val (.int (3 : Int32)), .val (.ref b97), .unset, .unset, .unset, .unset, .unset, .unset, .unset] [(.int (3 : Int32))]))
    refine own_FinV.step (fun _ => XS.iconst X97.here hx rfl (hb hby at_220)) ?_
    show own_FinV p e below s _ _ _ (T97.setTop (mkF m 221 #[.val (.int p1), .val (.int p2), .val (.int p3), .val (.int (p2 &&& (3 : Int32))), .val (.int (199 : Int32)), .val (.ref b95), .val (.int (1 : Int32)), .val (.int (7 : Int32)), .val (.int (1 : Int32)), .val (.int (1 : Int32)), .val (.int (0 : Int32)), .val (.int (3 : Int32)), .val (.ref b97), .unset, .unset, .unset, .unset, .unset, .unset, .unset] [(.int (2 : Int32)), (.int (3 : Int32))]))
    refine own_FinV.step (fun _ => XS.icmpYes X97.here hx rfl (pc0 := 221) (pc' := 231) rfl (hb hby at_221) rfl (XT.ii_ne_t (by decide : ¬ ((3 : Int32) = (2 : Int32)))) (by decide) (by decide)) ?_
    show own_FinV p e below s _ _ _ (T97.setTop (mkF m 231 #[.val (.int p1), .val (.int p2), .val (.int p3), .val (.int (p2 &&& (3 : Int32))), .val (.int (199 : Int32)), .val (.ref b95), .val (.int (1 : Int32)), .val (.int (7 : Int32)), .val (.int (1 : Int32)), .val (.int (1 : Int32)), .val (.int (0 : Int32)), .val (.int (3 : Int32)), .val (.ref b97), .unset, .unset, .unset, .unset, .unset, .unset, .unset] []))
    obtain ⟨b100, T100, h100, k100, X100, e100, E100, hS100, hk100, hZ100, hown100, St100, C100, st100⟩ := own_ldcV (s := s) (vm0 := T97.vm) X97 hx hZ hown (own_w hw 53 rfl) own_wS e97 hS hk hEL (List.mem_of_getElem? (i := 19) rfl) C97 (by decide) (g := (mkF m 231 #[.val (.int p1), .val (.int p2), .val (.int p3), .val (.int (p2 &&& (3 : Int32))), .val (.int (199 : Int32)), .val (.ref b95), .val (.int (1 : Int32)), .val (.int (7 : Int32)), .val (.int (1 : Int32)), .val (.int (1 : Int32)), .val (.int (0 : Int32)), .val (.int (3 : Int32)), .val (.ref b97), .unset, .unset, .unset, .unset, .unset, .unset, .unset] [])) rfl (hb hby at_231) (n := 32) (by decide) (by decide) (by decide) (by decide)
    have hS := hS100
    have hk := hk100
    have hZ := hZ100
    have hown := hown100
    have f101 := f98.ext E100
    have f102 := f99.ext E100
    have f103 := St97.ext E100
    have Z100 : n0 ≤ h100.size := Nat.le_trans Z97 E100.1
    refine own_FinV.step st100 ?_
    show own_FinV p e below s _ _ _ (T100.setTop (mkF m 233 #[.val (.int p1), .val (.int p2), .val (.int p3), .val (.int (p2 &&& (3 : Int32))), .val (.int (199 : Int32)), .val (.ref b95), .val (.int (1 : Int32)), .val (.int (7 : Int32)), .val (.int (1 : Int32)), .val (.int (1 : Int32)), .val (.int (0 : Int32)), .val (.int (3 : Int32)), .val (.ref b97), .unset, .unset, .unset, .unset, .unset, .unset, .unset] [(.ref b100)]))
    refine own_FinV.step (fun _ => XS.astore X100.here hx rfl (hb hby at_233) rfl rfl (l' := #[.val (.int p1), .val (.int p2), .val (.int p3), .val (.int (p2 &&& (3 : Int32))), .val (.int (199 : Int32)), .val (.ref b95), .val (.int (1 : Int32)), .val (.int (7 : Int32)), .val (.int (1 : Int32)), .val (.int (1 : Int32)), .val (.int (0 : Int32)), .val (.int (3 : Int32)), .val (.ref b97), .val (.ref b100), .unset, .unset, .unset, .unset, .unset, .unset]) rfl) ?_
    show own_FinV p e below s _ _ _ (T100.setTop (mkF m 235 #[.val (.int p1), .val (.int p2), .val (.int p3), .val (.int (p2 &&& (3 : Int32))), .val (.int (199 : Int32)), .val (.ref b95), .val (.int (1 : Int32)), .val (.int (7 : Int32)), .val (.int (1 : Int32)), .val (.int (1 : Int32)), .val (.int (0 : Int32)), .val (.int (3 : Int32)), .val (.ref b97), .val (.ref b100), .unset, .unset, .unset, .unset, .unset, .unset] []))
    refine own_FinV.step (fun _ => XS.iload X100.here hx rfl (hb hby at_235) rfl) ?_
    show own_FinV p e below s _ _ _ (T100.setTop (mkF m 237 #[.val (.int p1), .val (.int p2), .val (.int p3), .val (.int (p2 &&& (3 : Int32))), .val (.int (199 : Int32)), .val (.ref b95), .val (.int (1 : Int32)), .val (.int (7 : Int32)), .val (.int (1 : Int32)), .val (.int (1 : Int32)), .val (.int (0 : Int32)), .val (.int (3 : Int32)), .val (.ref b97), .val (.ref b100), .unset, .unset, .unset, .unset, .unset, .unset] [(.int (0 : Int32))]))
    refine own_FinV.step (fun _ => XS.ifYes X100.here hx rfl (pc0 := 237) (pc' := 245) rfl (hb hby at_237) rfl (XT.i0_eq_t (by decide : (0 : Int32) = (0 : Int32))) (by decide) (by decide)) ?_
    show own_FinV p e below s _ _ _ (T100.setTop (mkF m 245 #[.val (.int p1), .val (.int p2), .val (.int p3), .val (.int (p2 &&& (3 : Int32))), .val (.int (199 : Int32)), .val (.ref b95), .val (.int (1 : Int32)), .val (.int (7 : Int32)), .val (.int (1 : Int32)), .val (.int (1 : Int32)), .val (.int (0 : Int32)), .val (.int (3 : Int32)), .val (.ref b97), .val (.ref b100), .unset, .unset, .unset, .unset, .unset, .unset] []))
    obtain ⟨b104, T104, h104, k104, X104, e104, E104, hS104, hk104, hZ104, hown104, St104, C104, st104⟩ := own_ldcV (s := s) (vm0 := T100.vm) X100 hx hZ hown (own_w hw 12 rfl) own_wS e100 hS hk hEL (List.mem_of_getElem? (i := 14) rfl) C100 (by decide) (g := (mkF m 245 #[.val (.int p1), .val (.int p2), .val (.int p3), .val (.int (p2 &&& (3 : Int32))), .val (.int (199 : Int32)), .val (.ref b95), .val (.int (1 : Int32)), .val (.int (7 : Int32)), .val (.int (1 : Int32)), .val (.int (1 : Int32)), .val (.int (0 : Int32)), .val (.int (3 : Int32)), .val (.ref b97), .val (.ref b100), .unset, .unset, .unset, .unset, .unset, .unset] [])) rfl (hb hby at_245) (n := 0) (by decide) (by decide) (by decide) (by decide)
    have hS := hS104
    have hk := hk104
    have hZ := hZ104
    have hown := hown104
    have f105 := f101.ext E104
    have f106 := f102.ext E104
    have f107 := f103.ext E104
    have f108 := St100.ext E104
    have Z104 : n0 ≤ h104.size := Nat.le_trans Z100 E104.1
    refine own_FinV.step st104 ?_
    show own_FinV p e below s _ _ _ (T104.setTop (mkF m 247 #[.val (.int p1), .val (.int p2), .val (.int p3), .val (.int (p2 &&& (3 : Int32))), .val (.int (199 : Int32)), .val (.ref b95), .val (.int (1 : Int32)), .val (.int (7 : Int32)), .val (.int (1 : Int32)), .val (.int (1 : Int32)), .val (.int (0 : Int32)), .val (.int (3 : Int32)), .val (.ref b97), .val (.ref b100), .unset, .unset, .unset, .unset, .unset, .unset] [(.ref b104)]))
    refine own_FinV.step (fun _ => XS.astore X104.here hx rfl (hb hby at_247) rfl rfl (l' := #[.val (.int p1), .val (.int p2), .val (.int p3), .val (.int (p2 &&& (3 : Int32))), .val (.int (199 : Int32)), .val (.ref b95), .val (.int (1 : Int32)), .val (.int (7 : Int32)), .val (.int (1 : Int32)), .val (.int (1 : Int32)), .val (.int (0 : Int32)), .val (.int (3 : Int32)), .val (.ref b97), .val (.ref b100), .val (.ref b104), .unset, .unset, .unset, .unset, .unset]) rfl) ?_
    have hcat : own_bs "differential lossless" = own_bs "differential " ++ own_bs "lossless" ++ own_bs "" := by decide +kernel
    rw [hcat] at f106
    exact own_tail hw X104 hx hby hml hown hret hlk hZ Z104 N95 e104 hS hk C104 hcs rv f105 f106 f107 f108 St104 (by decide) (by decide) (by decide) (by decide) (by decide) (by decide)
  ·
    show own_FinV p e below s _ _ _ (s₁.setTop (mkF m 42 #[.val (.int p1), .val (.int p2), .val (.int p3), .val (.int (p2 &&& (3 : Int32))), .val (.int (200 : Int32)), .unset, .unset, .unset, .unset, .unset, .unset, .unset, .unset, .unset, .unset, .unset, .unset, .unset, .unset, .unset] []))
    refine own_FinV.step (fun _ => XS.iload X0.here hx rfl (hb hby at_42) rfl) ?_
    show own_FinV p e below s _ _ _ (s₁.setTop (mkF m 44 #[.val (.int p1), .val (.int p2), .val (.int p3), .val (.int (p2 &&& (3 : Int32))), .val (.int (200 : Int32)), .unset, .unset, .unset, .unset, .unset, .unset, .unset, .unset, .unset, .unset, .unset, .unset, .unset, .unset, .unset] [(.int (200 : Int32))]))
    obtain ⟨_, T109, L109, k109, X109, ⟨rfl, N109q, E109⟩, hS109, hk109, hZ109, hown109, C109, st109⟩ := own_callSV (s := s) (vm0 := s.vm) X0 hx hZ hown (own_w hw 0 rfl) (own_w hw 1 rfl) (own_w hw 2 rfl) (own_w hw 3 rfl) (by decide) (rm8_200 l Z a0 hw  h0 n0 Z0 ) (by decide) (by decide) hS hk hEL C0 e0 (W := 0) (g := (mkF m 44 #[.val (.int p1), .val (.int p2), .val (.int p3), .val (.int (p2 &&& (3 : Int32))), .val (.int (200 : Int32)), .unset, .unset, .unset, .unset, .unset, .unset, .unset, .unset, .unset, .unset, .unset, .unset, .unset, .unset, .unset] [(.int (200 : Int32))])) rfl (by rw [hml]; rfl) (argsL := [(.int (200 : Int32))]) (rest := []) (lenOf pd_7 rfl) rfl rfl (by show 2 * 0 + _ ≤ _; exact Nat.le_of_eq rfl) (hb hby at_44) (by decide) (by decide)
    have hS := hS109
    have hk := hk109
    have hZ := hZ109
    have hown := hown109
    have N109 := Fr.app N0 N109q
    have Z109 : n0 ≤ T109.heap.size := Nat.le_trans Z0 E109.1
    have f110 := SS.ext E109
    refine own_FinV.step st109 ?_
    show own_FinV p e below s _ _ _ (T109.setTop (mkF m 47 #[.val (.int p1), .val (.int p2), .val (.int p3), .val (.int (p2 &&& (3 : Int32))), .val (.int (200 : Int32)), .unset, .unset, .unset, .unset, .unset, .unset, .unset, .unset, .unset, .unset, .unset, .unset, .unset, .unset, .unset] [.null]))
    refine own_FinV.step (fun _ => XS.astore X109.here hx rfl (hb hby at_47) rfl rfl (l' := #[.val (.int p1), .val (.int p2), .val (.int p3), .val (.int (p2 &&& (3 : Int32))), .val (.int (200 : Int32)), .val .null, .unset, .unset, .unset, .unset, .unset, .unset, .unset, .unset, .unset, .unset, .unset, .unset, .unset, .unset]) rfl) ?_
    show own_FinV p e below s _ _ _ (T109.setTop (mkF m 49 #[.val (.int p1), .val (.int p2), .val (.int p3), .val (.int (p2 &&& (3 : Int32))), .val (.int (200 : Int32)), .val .null, .unset, .unset, .unset, .unset, .unset, .unset, .unset, .unset, .unset, .unset, .unset, .unset, .unset, .unset] []))
    refine own_FinV.step (fun _ => XS.iload X109.here hx rfl (hb hby at_49) rfl) ?_
    show own_FinV p e below s _ _ _ (T109.setTop (mkF m 51 #[.val (.int p1), .val (.int p2), .val (.int p3), .val (.int (p2 &&& (3 : Int32))), .val (.int (200 : Int32)), .val .null, .unset, .unset, .unset, .unset, .unset, .unset, .unset, .unset, .unset, .unset, .unset, .unset, .unset, .unset] [(.int (200 : Int32))]))
    refine own_FinV.step (fun _ => XS.sipush X109.here hx rfl (hb hby at_51)) ?_
    show own_FinV p e below s _ _ _ (T109.setTop (mkF m 54 #[.val (.int p1), .val (.int p2), .val (.int p3), .val (.int (p2 &&& (3 : Int32))), .val (.int (200 : Int32)), .val .null, .unset, .unset, .unset, .unset, .unset, .unset, .unset, .unset, .unset, .unset, .unset, .unset, .unset, .unset] [(.int (192 : Int32)), (.int (200 : Int32))]))
    refine own_FinV.step (fun _ => XS.icmpNo X109.here hx rfl (hb hby at_54) rfl (XT.ii_lt_f (by decide : ¬ ((200 : Int32) < (192 : Int32))))) ?_
    show own_FinV p e below s _ _ _ (T109.setTop (mkF m 57 #[.val (.int p1), .val (.int p2), .val (.int p3), .val (.int (p2 &&& (3 : Int32))), .val (.int (200 : Int32)), .val .null, .unset, .unset, .unset, .unset, .unset, .unset, .unset, .unset, .unset, .unset, .unset, .unset, .unset, .unset] []))
    refine own_FinV.step (fun _ => XS.iload X109.here hx rfl (hb hby at_57) rfl) ?_
    show own_FinV p e below s _ _ _ (T109.setTop (mkF m 59 #[.val (.int p1), .val (.int p2), .val (.int p3), .val (.int (p2 &&& (3 : Int32))), .val (.int (200 : Int32)), .val .null, .unset, .unset, .unset, .unset, .unset, .unset, .unset, .unset, .unset, .unset, .unset, .unset, .unset, .unset] [(.int (200 : Int32))]))
    refine own_FinV.step (fun _ => XS.sipush X109.here hx rfl (hb hby at_59)) ?_
    show own_FinV p e below s _ _ _ (T109.setTop (mkF m 62 #[.val (.int p1), .val (.int p2), .val (.int p3), .val (.int (p2 &&& (3 : Int32))), .val (.int (200 : Int32)), .val .null, .unset, .unset, .unset, .unset, .unset, .unset, .unset, .unset, .unset, .unset, .unset, .unset, .unset, .unset] [(.int (207 : Int32)), (.int (200 : Int32))]))
    refine own_FinV.step (fun _ => XS.icmpNo X109.here hx rfl (hb hby at_62) rfl (XT.ii_gt_f (by decide : ¬ ((207 : Int32) < (200 : Int32))))) ?_
    show own_FinV p e below s _ _ _ (T109.setTop (mkF m 65 #[.val (.int p1), .val (.int p2), .val (.int p3), .val (.int (p2 &&& (3 : Int32))), .val (.int (200 : Int32)), .val .null, .unset, .unset, .unset, .unset, .unset, .unset, .unset, .unset, .unset, .unset, .unset, .unset, .unset, .unset] []))
    refine own_FinV.step (fun _ => XS.iconst X109.here hx rfl (hb hby at_65)) ?_
    show own_FinV p e below s _ _ _ (T109.setTop (mkF m 66 #[.val (.int p1), .val (.int p2), .val (.int p3), .val (.int (p2 &&& (3 : Int32))), .val (.int (200 : Int32)), .val .null, .unset, .unset, .unset, .unset, .unset, .unset, .unset, .unset, .unset, .unset, .unset, .unset, .unset, .unset] [(.int (1 : Int32))]))
    refine own_FinV.step (fun _ => XS.goto X109.here hx rfl (pc0 := 66) (pc' := 70) rfl (hb hby at_66) (by decide) (by decide)) ?_
    show own_FinV p e below s _ _ _ (T109.setTop (mkF m 70 #[.val (.int p1), .val (.int p2), .val (.int p3), .val (.int (p2 &&& (3 : Int32))), .val (.int (200 : Int32)), .val .null, .unset, .unset, .unset, .unset, .unset, .unset, .unset, .unset, .unset, .unset, .unset, .unset, .unset, .unset] [(.int (1 : Int32))]))
    refine own_FinV.step (fun _ => XS.istore X109.here hx rfl (hb hby at_70) rfl (l' := #[.val (.int p1), .val (.int p2), .val (.int p3), .val (.int (p2 &&& (3 : Int32))), .val (.int (200 : Int32)), .val .null, .val (.int (1 : Int32)), .unset, .unset, .unset, .unset, .unset, .unset, .unset, .unset, .unset, .unset, .unset, .unset, .unset]) rfl) ?_
    show own_FinV p e below s _ _ _ (T109.setTop (mkF m 72 #[.val (.int p1), .val (.int p2), .val (.int p3), .val (.int (p2 &&& (3 : Int32))), .val (.int (200 : Int32)), .val .null, .val (.int (1 : Int32)), .unset, .unset, .unset, .unset, .unset, .unset, .unset, .unset, .unset, .unset, .unset, .unset, .unset] []))
    refine own_FinV.step (fun _ => XS.iload X109.here hx rfl (hb hby at_72) rfl) ?_
    show own_FinV p e below s _ _ _ (T109.setTop (mkF m 74 #[.val (.int p1), .val (.int p2), .val (.int p3), .val (.int (p2 &&& (3 : Int32))), .val (.int (200 : Int32)), .val .null, .val (.int (1 : Int32)), .unset, .unset, .unset, .unset, .unset, .unset, .unset, .unset, .unset, .unset, .unset, .unset, .unset] [(.int (200 : Int32))]))
    refine own_FinV.step (fun _ => XS.bipush X109.here hx rfl (hb hby at_74)) ?_
    show own_FinV p e below s _ _ _ (T109.setTop (mkF m 76 #[.val (.int p1), .val (.int p2), .val (.int p3), .val (.int (p2 &&& (3 : Int32))), .val (.int (200 : Int32)), .val .null, .val (.int (1 : Int32)), .unset, .unset, .unset, .unset, .unset, .unset, .unset, .unset, .unset, .unset, .unset, .unset, .unset] [(.int (15 : Int32)), (.int (200 : Int32))]))
    refine own_FinV.step (fun _ => XS.iand X109.here hx rfl (hb hby at_76) rfl) ?_
    show own_FinV p e below s _ _ _ (T109.setTop (mkF m 77 #[.val (.int p1), .val (.int p2), .val (.int p3), .val (.int (p2 &&& (3 : Int32))), .val (.int (200 : Int32)), .val .null, .val (.int (1 : Int32)), .unset, .unset, .unset, .unset, .unset, .unset, .unset, .unset, .unset, .unset, .unset, .unset, .unset] [(.int (8 : Int32))]))
    refine own_FinV.step (fun _ => XS.istore X109.here hx rfl (hb hby at_77) rfl (l' := #[.val (.int p1), .val (.int p2), .val (.int p3), .val (.int (p2 &&& (3 : Int32))), .val (.int (200 : Int32)), .val .null, .val (.int (1 : Int32)), .val (.int (8 : Int32)), .unset, .unset, .unset, .unset, .unset, .unset, .unset, .unset, .unset, .unset, .unset, .unset]) rfl) ?_
    show own_FinV p e below s _ _ _ (T109.setTop (mkF m 79 #[.val (.int p1), .val (.int p2), .val (.int p3), .val (.int (p2 &&& (3 : Int32))), .val (.int (200 : Int32)), .val .null, .val (.int (1 : Int32)), .val (.int (8 : Int32)), .unset, .unset, .unset, .unset, .unset, .unset, .unset, .unset, .unset, .unset, .unset, .unset] []))
    refine own_FinV.step (fun _ => XS.iload X109.here hx rfl (hb hby at_79) rfl) ?_
    show own_FinV p e below s _ _ _ (T109.setTop (mkF m 81 #[.val (.int p1), .val (.int p2), .val (.int p3), .val (.int (p2 &&& (3 : Int32))), .val (.int (200 : Int32)), .val .null, .val (.int (1 : Int32)), .val (.int (8 : Int32)), .unset, .unset, .unset, .unset, .unset, .unset, .unset, .unset, .unset, .unset, .unset, .unset] [(.int (1 : Int32))]))
    refine own_FinV.step (fun _ => XS.ifNo X109.here hx rfl (hb hby at_81) rfl (XT.i0_eq_f (by decide : ¬ ((1 : Int32) = (0 : Int32))))) ?_
    show own_FinV p e below s _ _ _ (T109.setTop (mkF m 84 #[.val (.int p1), .val (.int p2), .val (.int p3), .val (.int (p2 &&& (3 : Int32))), .val (.int (200 : Int32)), .val .null, .val (.int (1 : Int32)), .val (.int (8 : Int32)), .unset, .unset, .unset, .unset, .unset, .unset, .unset, .unset, .unset, .unset, .unset, .unset] []))
    refine own_FinV.step (fun _ => XS.iload X109.here hx rfl (hb hby at_84) rfl) ?_
    show own_FinV p e below s _ _ _ (T109.setTop (mkF m 86 #[.val (.int p1), .val (.int p2), .val (.int p3), .val (.int (p2 &&& (3 : Int32))), .val (.int (200 : Int32)), .val .null, .val (.int (1 : Int32)), .val (.int (8 : Int32)), .unset, .unset, .unset, .unset, .unset, .unset, .unset, .unset, .unset, .unset, .unset, .unset] [(.int (8 : Int32))]))
    refine own_FinV.step (fun _ => XS.iconst X109.here hx rfl (hb hby at_86)) ?_
    show own_FinV p e below s _ _ _ (T109.setTop (mkF m 87 #[.val (.int p1), .val (.int p2), .val (.int p3), .val (.int (p2 &&& (3 : Int32))), .val (.int (200 : Int32)), .val .null, .val (.int (1 : Int32)), .val (.int (8 : Int32)), .unset, .unset, .unset, .unset, .unset, .unset, .unset, .unset, .unset, .unset, .unset, .unset] [(.int (4 : Int32)), (.int (8 : Int32))]))
    refine own_FinV.step (fun _ => XS.icmpNo X109.here hx rfl (hb hby at_87) rfl (XT.ii_eq_f (by decide : ¬ ((8 : Int32) = (4 : Int32))))) ?_
    show own_FinV p e below s _ _ _ (T109.setTop (mkF m 90 #[.val (.int p1), .val (.int p2), .val (.int p3), .val (.int (p2 &&& (3 : Int32))), .val (.int (200 : Int32)), .val .null, .val (.int (1 : Int32)), .val (.int (8 : Int32)), .unset, .unset, .unset, .unset, .unset, .unset, .unset, .unset, .unset, .unset, .unset, .unset] []))
    refine own_FinV.step (fun _ => XS.iload X109.here hx rfl (hb hby at_90) rfl) ?_
    show own_FinV p e below s _ _ _ (T109.setTop (mkF m 92 #[.val (.int p1), .val (.int p2), .val (.int p3), .val (.int (p2 &&& (3 : Int32))), .val (.int (200 : Int32)), .val .null, .val (.int (1 : Int32)), .val (.int (8 : Int32)), .unset, .unset, .unset, .unset, .unset, .unset, .unset, .unset, .unset, .unset, .unset, .unset] [(.int (8 : Int32))]))
    refine own_FinV.step (fun _ => XS.bipush X109.here hx rfl (hb hby at_92)) ?_
    show own_FinV p e below s _ _ _ (T109.setTop (mkF m 94 #[.val (.int p1), .val (.int p2), .val (.int p3), .val (.int (p2 &&& (3 : Int32))), .val (.int (200 : Int32)), .val .null, .val (.int (1 : Int32)), .val (.int (8 : Int32)), .unset, .unset, .unset, .unset, .unset, .unset, .unset, .unset, .unset, .unset, .unset, .unset] [(.int (8 : Int32)), (.int (8 : Int32))]))
    refine own_FinV.step (fun _ => XS.icmpYes X109.here hx rfl (pc0 := 94) (pc' := 108) rfl (hb hby at_94) rfl (XT.ii_eq_t (by decide : (8 : Int32) = (8 : Int32))) (by decide) (by decide)) ?_
    show own_FinV p e below s _ _ _ (T109.setTop (mkF m 108 #[.val (.int p1), .val (.int p2), .val (.int p3), .val (.int (p2 &&& (3 : Int32))), .val (.int (200 : Int32)), .val .null, .val (.int (1 : Int32)), .val (.int (8 : Int32)), .unset, .unset, .unset, .unset, .unset, .unset, .unset, .unset, .unset, .unset, .unset, .unset] []))
    refine own_FinV.step (fun _ => XS.iconst X109.here hx rfl (hb hby at_108)) ?_
    show own_FinV p e below s _ _ _ (T109.setTop (mkF m 109 #[.val (.int p1), .val (.int p2), .val (.int p3), .val (.int (p2 &&& (3 : Int32))), .val (.int (200 : Int32)), .val .null, .val (.int (1 : Int32)), .val (.int (8 : Int32)), .unset, .unset, .unset, .unset, .unset, .unset, .unset, .unset, .unset, .unset, .unset, .unset] [(.int (0 : Int32))]))
    refine own_FinV.step (fun _ => XS.istore X109.here hx rfl (hb hby at_109) rfl (l' := #[.val (.int p1), .val (.int p2), .val (.int p3), .val (.int (p2 &&& (3 : Int32))), .val (.int (200 : Int32)), .val .null, .val (.int (1 : Int32)), .val (.int (8 : Int32)), .val (.int (0 : Int32)), .unset, .unset, .unset, .unset, .unset, .unset, .unset, .unset, .unset, .unset, .unset]) rfl) ?_
    show own_FinV p e below s _ _ _ (T109.setTop (mkF m 111 #[.val (.int p1), .val (.int p2), .val (.int p3), .val (.int (p2 &&& (3 : Int32))), .val (.int (200 : Int32)), .val .null, .val (.int (1 : Int32)), .val (.int (8 : Int32)), .val (.int (0 : Int32)), .unset, .unset, .unset, .unset, .unset, .unset, .unset, .unset, .unset, .unset, .unset] []))
    refine own_FinV.step (fun _ => XS.iload X109.here hx rfl (hb hby at_111) rfl) ?_
    show own_FinV p e below s _ _ _ (T109.setTop (mkF m 113 #[.val (.int p1), .val (.int p2), .val (.int p3), .val (.int (p2 &&& (3 : Int32))), .val (.int (200 : Int32)), .val .null, .val (.int (1 : Int32)), .val (.int (8 : Int32)), .val (.int (0 : Int32)), .unset, .unset, .unset, .unset, .unset, .unset, .unset, .unset, .unset, .unset, .unset] [(.int (0 : Int32))]))
    refine own_FinV.step (fun _ => XS.ifNo X109.here hx rfl (hb hby at_113) rfl (XT.i0_ne_f (by decide : (0 : Int32) = (0 : Int32)))) ?_
    show own_FinV p e below s _ _ _ (T109.setTop (mkF m 116 #[.val (.int p1), .val (.int p2), .val (.int p3), .val (.int (p2 &&& (3 : Int32))), .val (.int (200 : Int32)), .val .null, .val (.int (1 : Int32)), .val (.int (8 : Int32)), .val (.int (0 : Int32)), .unset, .unset, .unset, .unset, .unset, .unset, .unset, .unset, .unset, .unset, .unset] []))
    refine own_FinV.step (fun _ => XS.aload X109.here hx rfl (hb hby at_116) rfl rfl) ?_
    show own_FinV p e below s _ _ _ (T109.setTop (mkF m 118 #[.val (.int p1), .val (.int p2), .val (.int p3), .val (.int (p2 &&& (3 : Int32))), .val (.int (200 : Int32)), .val .null, .val (.int (1 : Int32)), .val (.int (8 : Int32)), .val (.int (0 : Int32)), .unset, .unset, .unset, .unset, .unset, .unset, .unset, .unset, .unset, .unset, .unset] [.null]))
    refine own_FinV.step (fun _ => XS.ifnonnullNo X109.here hx rfl (hb hby at_118) rfl) ?_
    show own_FinV p e below s _ _ _ (T109.setTop (mkF m 121 #[.val (.int p1), .val (.int p2), .val (.int p3), .val (.int (p2 &&& (3 : Int32))), .val (.int (200 : Int32)), .val .null, .val (.int (1 : Int32)), .val (.int (8 : Int32)), .val (.int (0 : Int32)), .unset, .unset, .unset, .unset, .unset, .unset, .unset, .unset, .unset, .unset, .unset] []))
    refine own_FinV.step (fun _ => XS.iconst X109.here hx rfl (hb hby at_121)) ?_
    show own_FinV p e below s _ _ _ (T109.setTop (mkF m 122 #[.val (.int p1), .val (.int p2), .val (.int p3), .val (.int (p2 &&& (3 : Int32))), .val (.int (200 : Int32)), .val .null, .val (.int (1 : Int32)), .val (.int (8 : Int32)), .val (.int (0 : Int32)), .unset, .unset, .unset, .unset, .unset, .unset, .unset, .unset, .unset, .unset, .unset] [(.int (1 : Int32))]))
    refine own_FinV.step (fun _ => XS.goto X109.here hx rfl (pc0 := 122) (pc' := 126) rfl (hb hby at_122) (by decide) (by decide)) ?_
    show own_FinV p e below s _ _ _ (T109.setTop (mkF m 126 #[.val (.int p1), .val (.int p2), .val (.int p3), .val (.int (p2 &&& (3 : Int32))), .val (.int (200 : Int32)), .val .null, .val (.int (1 : Int32)), .val (.int (8 : Int32)), .val (.int (0 : Int32)), .unset, .unset, .unset, .unset, .unset, .unset, .unset, .unset, .unset, .unset, .unset] [(.int (1 : Int32))]))
    exact own_retNV X109 hS hk rfl hZ hEL C109 hx hlk (t := .boolean) hret (by simp) (hb hby at_126) ⟨rfl, N109⟩ (by decide) (by decide)
  ·
    show own_FinV p e below s _ _ _ (s₁.setTop (mkF m 42 #[.val (.int p1), .val (.int p2), .val (.int p3), .val (.int (p2 &&& (3 : Int32))), .val (.int (201 : Int32)), .unset, .unset, .unset, .unset, .unset, .unset, .unset, .unset, .unset, .unset, .unset, .unset, .unset, .unset, .unset] []))
    refine own_FinV.step (fun _ => XS.iload X0.here hx rfl (hb hby at_42) rfl) ?_
    show own_FinV p e below s _ _ _ (s₁.setTop (mkF m 44 #[.val (.int p1), .val (.int p2), .val (.int p3), .val (.int (p2 &&& (3 : Int32))), .val (.int (201 : Int32)), .unset, .unset, .unset, .unset, .unset, .unset, .unset, .unset, .unset, .unset, .unset, .unset, .unset, .unset, .unset] [(.int (201 : Int32))]))
    obtain ⟨_, T111, L111, k111, X111, ⟨b111, rfl, N111q, E111, St111⟩, hS111, hk111, hZ111, hown111, C111, st111⟩ := own_callSV (s := s) (vm0 := s.vm) X0 hx hZ hown (own_w hw 0 rfl) (own_w hw 1 rfl) (own_w hw 2 rfl) (own_w hw 3 rfl) (by decide) (rm8_201 l Z a0 hw  h0 n0 Z0 ) (by decide) (by decide) hS hk hEL C0 e0 (W := 0) (g := (mkF m 44 #[.val (.int p1), .val (.int p2), .val (.int p3), .val (.int (p2 &&& (3 : Int32))), .val (.int (201 : Int32)), .unset, .unset, .unset, .unset, .unset, .unset, .unset, .unset, .unset, .unset, .unset, .unset, .unset, .unset, .unset] [(.int (201 : Int32))])) rfl (by rw [hml]; rfl) (argsL := [(.int (201 : Int32))]) (rest := []) (lenOf pd_7 rfl) rfl rfl (by show 2 * 0 + _ ≤ _; exact Nat.le_of_eq rfl) (hb hby at_44) (by decide) (by decide)
    have hS := hS111
    have hk := hk111
    have hZ := hZ111
    have hown := hown111
    have N111 := Fr.app N0 N111q
    have Z111 : n0 ≤ T111.heap.size := Nat.le_trans Z0 E111.1
    have f112 := SS.ext E111
    refine own_FinV.step st111 ?_
    show own_FinV p e below s _ _ _ (T111.setTop (mkF m 47 #[.val (.int p1), .val (.int p2), .val (.int p3), .val (.int (p2 &&& (3 : Int32))), .val (.int (201 : Int32)), .unset, .unset, .unset, .unset, .unset, .unset, .unset, .unset, .unset, .unset, .unset, .unset, .unset, .unset, .unset] [(.ref b111)]))
    refine own_FinV.step (fun _ => XS.astore X111.here hx rfl (hb hby at_47) rfl rfl (l' := #[.val (.int p1), .val (.int p2), .val (.int p3), .val (.int (p2 &&& (3 : Int32))), .val (.int (201 : Int32)), .val (.ref b111), .unset, .unset, .unset, .unset, .unset, .unset, .unset, .unset, .unset, .unset, .unset, .unset, .unset, .unset]) rfl) ?_
    show own_FinV p e below s _ _ _ (T111.setTop (mkF m 49 #[.val (.int p1), .val (.int p2), .val (.int p3), .val (.int (p2 &&& (3 : Int32))), .val (.int (201 : Int32)), .val (.ref b111), .unset, .unset, .unset, .unset, .unset, .unset, .unset, .unset, .unset, .unset, .unset, .unset, .unset, .unset] []))
    refine own_FinV.step (fun _ => XS.iload X111.here hx rfl (hb hby at_49) rfl) ?_
    show own_FinV p e below s _ _ _ (T111.setTop (mkF m 51 #[.val (.int p1), .val (.int p2), .val (.int p3), .val (.int (p2 &&& (3 : Int32))), .val (.int (201 : Int32)), .val (.ref b111), .unset, .unset, .unset, .unset, .unset, .unset, .unset, .unset, .unset, .unset, .unset, .unset, .unset, .unset] [(.int (201 : Int32))]))
    refine own_FinV.step (fun _ => XS.sipush X111.here hx rfl (hb hby at_51)) ?_
    show own_FinV p e below s _ _ _ (T111.setTop (mkF m 54 #[.val (.int p1), .val (.int p2), .val (.int p3), .val (.int (p2 &&& (3 : Int32))), .val (.int (201 : Int32)), .val (.ref b111), .unset, .unset, .unset, .unset, .unset, .unset, .unset, .unset, .unset, .unset, .unset, .unset, .unset, .unset] [(.int (192 : Int32)), (.int (201 : Int32))]))
    refine own_FinV.step (fun _ => XS.icmpNo X111.here hx rfl (hb hby at_54) rfl (XT.ii_lt_f (by decide : ¬ ((201 : Int32) < (192 : Int32))))) ?_
    show own_FinV p e below s _ _ _ (T111.setTop (mkF m 57 #[.val (.int p1), .val (.int p2), .val (.int p3), .val (.int (p2 &&& (3 : Int32))), .val (.int (201 : Int32)), .val (.ref b111), .unset, .unset, .unset, .unset, .unset, .unset, .unset, .unset, .unset, .unset, .unset, .unset, .unset, .unset] []))
    refine own_FinV.step (fun _ => XS.iload X111.here hx rfl (hb hby at_57) rfl) ?_
    show own_FinV p e below s _ _ _ (T111.setTop (mkF m 59 #[.val (.int p1), .val (.int p2), .val (.int p3), .val (.int (p2 &&& (3 : Int32))), .val (.int (201 : Int32)), .val (.ref b111), .unset, .unset, .unset, .unset, .unset, .unset, .unset, .unset, .unset, .unset, .unset, .unset, .unset, .unset] [(.int (201 : Int32))]))
    refine own_FinV.step (fun _ => XS.sipush X111.here hx rfl (hb hby at_59)) ?_
    show own_FinV p e below s _ _ _ (T111.setTop (mkF m 62 #[.val (.int p1), .val (.int p2), .val (.int p3), .val (.int (p2 &&& (3 : Int32))), .val (.int (201 : Int32)), .val (.ref b111), .unset, .unset, .unset, .unset, .unset, .unset, .unset, .unset, .unset, .unset, .unset, .unset, .unset, .unset] [(.int (207 : Int32)), (.int (201 : Int32))]))
    refine own_FinV.step (fun _ => XS.icmpNo X111.here hx rfl (hb hby at_62) rfl (XT.ii_gt_f (by decide : ¬ ((207 : Int32) < (201 : Int32))))) ?_
    show own_FinV p e below s _ _ _ (T111.setTop (mkF m 65 #[.val (.int p1), .val (.int p2), .val (.int p3), .val (.int (p2 &&& (3 : Int32))), .val (.int (201 : Int32)), .val (.ref b111), .unset, .unset, .unset, .unset, .unset, .unset, .unset, .unset, .unset, .unset, .unset, .unset, .unset, .unset] []))
    refine own_FinV.step (fun _ => XS.iconst X111.here hx rfl (hb hby at_65)) ?_
    show own_FinV p e below s _ _ _ (T111.setTop (mkF m 66 #[.val (.int p1), .val (.int p2), .val (.int p3), .val (.int (p2 &&& (3 : Int32))), .val (.int (201 : Int32)), .val (.ref b111), .unset, .unset, .unset, .unset, .unset, .unset, .unset, .unset, .unset, .unset, .unset, .unset, .unset, .unset] [(.int (1 : Int32))]))
    refine own_FinV.step (fun _ => XS.goto X111.here hx rfl (pc0 := 66) (pc' := 70) rfl (hb hby at_66) (by decide) (by decide)) ?_
    show own_FinV p e below s _ _ _ (T111.setTop (mkF m 70 #[.val (.int p1), .val (.int p2), .val (.int p3), .val (.int (p2 &&& (3 : Int32))), .val (.int (201 : Int32)), .val (.ref b111), .unset, .unset, .unset, .unset, .unset, .unset, .unset, .unset, .unset, .unset, .unset, .unset, .unset, .unset] [(.int (1 : Int32))]))
    refine own_FinV.step (fun _ => XS.istore X111.here hx rfl (hb hby at_70) rfl (l' := #[.val (.int p1), .val (.int p2), .val (.int p3), .val (.int (p2 &&& (3 : Int32))), .val (.int (201 : Int32)), .val (.ref b111), .val (.int (1 : Int32)), .unset, .unset, .unset, .unset, .unset, .unset, .unset, .unset, .unset, .unset, .unset, .unset, .unset]) rfl) ?_
    show own_FinV p e below s _ _ _ (T111.setTop (mkF m 72 #[.val (.int p1), .val (.int p2), .val (.int p3), .val (.int (p2 &&& (3 : Int32))), .val (.int (201 : Int32)), .val (.ref b111), .val (.int (1 : Int32)), .unset, .unset, .unset, .unset, .unset, .unset, .unset, .unset, .unset, .unset, .unset, .unset, .unset] []))
    refine own_FinV.step (fun _ => XS.iload X111.here hx rfl (hb hby at_72) rfl) ?_
    show own_FinV p e below s _ _ _ (T111.setTop (mkF m 74 #[.val (.int p1), .val (.int p2), .val (.int p3), .val (.int (p2 &&& (3 : Int32))), .val (.int (201 : Int32)), .val (.ref b111), .val (.int (1 : Int32)), .unset, .unset, .unset, .unset, .unset, .unset, .unset, .unset, .unset, .unset, .unset, .unset, .unset] [(.int (201 : Int32))]))
    refine own_FinV.step (fun _ => XS.bipush X111.here hx rfl (hb hby at_74)) ?_
    show own_FinV p e below s _ _ _ (T111.setTop (mkF m 76 #[.val (.int p1), .val (.int p2), .val (.int p3), .val (.int (p2 &&& (3 : Int32))), .val (.int (201 : Int32)), .val (.ref b111), .val (.int (1 : Int32)), .unset, .unset, .unset, .unset, .unset, .unset, .unset, .unset, .unset, .unset, .unset, .unset, .unset] [(.int (15 : Int32)), (.int (201 : Int32))]))
    refine own_FinV.step (fun _ => XS.iand X111.here hx rfl (hb hby at_76) rfl) ?_
    show own_FinV p e below s _ _ _ (T111.setTop (mkF m 77 #[.val (.int p1), .val (.int p2), .val (.int p3), .val (.int (p2 &&& (3 : Int32))), .val (.int (201 : Int32)), .val (.ref b111), .val (.int (1 : Int32)), .unset, .unset, .unset, .unset, .unset, .unset, .unset, .unset, .unset, .unset, .unset, .unset, .unset] [(.int (9 : Int32))]))
    refine own_FinV.step (fun _ => XS.istore X111.here hx rfl (hb hby at_77) rfl (l' := #[.val (.int p1), .val (.int p2), .val (.int p3), .val (.int (p2 &&& (3 : Int32))), .val (.int (201 : Int32)), .val (.ref b111), .val (.int (1 : Int32)), .val (.int (9 : Int32)), .unset, .unset, .unset, .unset, .unset, .unset, .unset, .unset, .unset, .unset, .unset, .unset]) rfl) ?_
    show own_FinV p e below s _ _ _ (T111.setTop (mkF m 79 #[.val (.int p1), .val (.int p2), .val (.int p3), .val (.int (p2 &&& (3 : Int32))), .val (.int (201 : Int32)), .val (.ref b111), .val (.int (1 : Int32)), .val (.int (9 : Int32)), .unset, .unset, .unset, .unset, .unset, .unset, .unset, .unset, .unset, .unset, .unset, .unset] []))
    refine own_FinV.step (fun _ => XS.iload X111.here hx rfl (hb hby at_79) rfl) ?_
    show own_FinV p e below s _ _ _ (T111.setTop (mkF m 81 #[.val (.int p1), .val (.int p2), .val (.int p3), .val (.int (p2 &&& (3 : Int32))), .val (.int (201 : Int32)), .val (.ref b111), .val (.int (1 : Int32)), .val (.int (9 : Int32)), .unset, .unset, .unset, .unset, .unset, .unset, .unset, .unset, .unset, .unset, .unset, .unset] [(.int (1 : Int32))]))
    refine own_FinV.step (fun _ => XS.ifNo X111.here hx rfl (hb hby at_81) rfl (XT.i0_eq_f (by decide : ¬ ((1 : Int32) = (0 : Int32))))) ?_
    show own_FinV p e below s _ _ _ (T111.setTop (mkF m 84 #[.val (.int p1), .val (.int p2), .val (.int p3), .val (.int (p2 &&& (3 : Int32))), .val (.int (201 : Int32)), .val (.ref b111), .val (.int (1 : Int32)), .val (.int (9 : Int32)), .unset, .unset, .unset, .unset, .unset, .unset, .unset, .unset, .unset, .unset, .unset, .unset] []))
    refine own_FinV.step (fun _ => XS.iload X111.here hx rfl (hb hby at_84) rfl) ?_
    show own_FinV p e below s _ _ _ (T111.setTop (mkF m 86 #[.val (.int p1), .val (.int p2), .val (.int p3), .val (.int (p2 &&& (3 : Int32))), .val (.int (201 : Int32)), .val (.ref b111), .val (.int (1 : Int32)), .val (.int (9 : Int32)), .unset, .unset, .unset, .unset, .unset, .unset, .unset, .unset, .unset, .unset, .unset, .unset] [(.int (9 : Int32))]))
    refine own_FinV.step (fun _ => XS.iconst X111.here hx rfl (hb hby at_86)) ?_
    show own_FinV p e below s _ _ _ (T111.setTop (mkF m 87 #[.val (.int p1), .val (.int p2), .val (.int p3), .val (.int (p2 &&& (3 : Int32))), .val (.int (201 : Int32)), .val (.ref b111), .val (.int (1 : Int32)), .val (.int (9 : Int32)), .unset, .unset, .unset, .unset, .unset, .unset, .unset, .unset, .unset, .unset, .unset, .unset] [(.int (4 : Int32)), (.int (9 : Int32))]))
    refine own_FinV.step (fun _ => XS.icmpNo X111.here hx rfl (hb hby at_87) rfl (XT.ii_eq_f (by decide : ¬ ((9 : Int32) = (4 : Int32))))) ?_
    show own_FinV p e below s _ _ _ (T111.setTop (mkF m 90 #[.val (.int p1), .val (.int p2), .val (.int p3), .val (.int (p2 &&& (3 : Int32))), .val (.int (201 : Int32)), .val (.ref b111), .val (.int (1 : Int32)), .val (.int (9 : Int32)), .unset, .unset, .unset, .unset, .unset, .unset, .unset, .unset, .unset, .unset, .unset, .unset] []))
    refine own_FinV.step (fun _ => XS.iload X111.here hx rfl (hb hby at_90) rfl) ?_
    show own_FinV p e below s _ _ _ (T111.setTop (mkF m 92 #[.val (.int p1), .val (.int p2), .val (.int p3), .val (.int (p2 &&& (3 : Int32))), .val (.int (201 : Int32)), .val (.ref b111), .val (.int (1 : Int32)), .val (.int (9 : Int32)), .unset, .unset, .unset, .unset, .unset, .unset, .unset, .unset, .unset, .unset, .unset, .unset] [(.int (9 : Int32))]))
    refine own_FinV.step (fun _ => XS.bipush X111.here hx rfl (hb hby at_92)) ?_
    show own_FinV p e below s _ _ _ (T111.setTop (mkF m 94 #[.val (.int p1), .val (.int p2), .val (.int p3), .val (.int (p2 &&& (3 : Int32))), .val (.int (201 : Int32)), .val (.ref b111), .val (.int (1 : Int32)), .val (.int (9 : Int32)), .unset, .unset, .unset, .unset, .unset, .unset, .unset, .unset, .unset, .unset, .unset, .unset] [(.int (8 : Int32)), (.int (9 : Int32))]))
    refine own_FinV.step (fun _ => XS.icmpNo X111.here hx rfl (hb hby at_94) rfl (XT.ii_eq_f (by decide : ¬ ((9 : Int32) = (8 : Int32))))) ?_
    show own_FinV p e below s _ _ _ (T111.setTop (mkF m 97 #[.val (.int p1), .val (.int p2), .val (.int p3), .val (.int (p2 &&& (3 : Int32))), .val (.int (201 : Int32)), .val (.ref b111), .val (.int (1 : Int32)), .val (.int (9 : Int32)), .unset, .unset, .unset, .unset, .unset, .unset, .unset, .unset, .unset, .unset, .unset, .unset] []))
    refine own_FinV.step (fun _ => XS.iload X111.here hx rfl (hb hby at_97) rfl) ?_
    show own_FinV p e below s _ _ _ (T111.setTop (mkF m 99 #[.val (.int p1), .val (.int p2), .val (.int p3), .val (.int (p2 &&& (3 : Int32))), .val (.int (201 : Int32)), .val (.ref b111), .val (.int (1 : Int32)), .val (.int (9 : Int32)), .unset, .unset, .unset, .unset, .unset, .unset, .unset, .unset, .unset, .unset, .unset, .unset] [(.int (9 : Int32))]))
    refine own_FinV.step (fun _ => XS.bipush X111.here hx rfl (hb hby at_99)) ?_
    show own_FinV p e below s _ _ _ (T111.setTop (mkF m 101 #[.val (.int p1), .val (.int p2), .val (.int p3), .val (.int (p2 &&& (3 : Int32))), .val (.int (201 : Int32)), .val (.ref b111), .val (.int (1 : Int32)), .val (.int (9 : Int32)), .unset, .unset, .unset, .unset, .unset, .unset, .unset, .unset, .unset, .unset, .unset, .unset] [(.int (12 : Int32)), (.int (9 : Int32))]))
    refine own_FinV.step (fun _ => XS.icmpNo X111.here hx rfl (hb hby at_101) rfl (XT.ii_eq_f (by decide : ¬ ((9 : Int32) = (12 : Int32))))) ?_
    show own_FinV p e below s _ _ _ (T111.setTop (mkF m 104 #[.val (.int p1), .val (.int p2), .val (.int p3), .val (.int (p2 &&& (3 : Int32))), .val (.int (201 : Int32)), .val (.ref b111), .val (.int (1 : Int32)), .val (.int (9 : Int32)), .unset, .unset, .unset, .unset, .unset, .unset, .unset, .unset, .unset, .unset, .unset, .unset] []))
    refine own_FinV.step (fun _ => XS.iconst X111.here hx rfl (hb hby at_104)) ?_
    show own_FinV p e below s _ _ _ (T111.setTop (mkF m 105 #[.val (.int p1), .val (.int p2), .val (.int p3), .val (.int (p2 &&& (3 : Int32))), .val (.int (201 : Int32)), .val (.ref b111), .val (.int (1 : Int32)), .val (.int (9 : Int32)), .unset, .unset, .unset, .unset, .unset, .unset, .unset, .unset, .unset, .unset, .unset, .unset] [(.int (1 : Int32))]))
    refine own_FinV.step (fun _ => XS.goto X111.here hx rfl (pc0 := 105) (pc' := 109) rfl (hb hby at_105) (by decide) (by decide)) ?_
    show own_FinV p e below s _ _ _ (T111.setTop (mkF m 109 #[.val (.int p1), .val (.int p2), .val (.int p3), .val (.int (p2 &&& (3 : Int32))), .val (.int (201 : Int32)), .val (.ref b111), .val (.int (1 : Int32)), .val (.int (9 : Int32)), .unset, .unset, .unset, .unset, .unset, .unset, .unset, .unset, .unset, .unset, .unset, .unset] [(.int (1 : Int32))]))
    refine own_FinV.step (fun _ => XS.istore X111.here hx rfl (hb hby at_109) rfl (l' := #[.val (.int p1), .val (.int p2), .val (.int p3), .val (.int (p2 &&& (3 : Int32))), .val (.int (201 : Int32)), .val (.ref b111), .val (.int (1 : Int32)), .val (.int (9 : Int32)), .val (.int (1 : Int32)), .unset, .unset, .unset, .unset, .unset, .unset, .unset, .unset, .unset, .unset, .unset]) rfl) ?_
    show own_FinV p e below s _ _ _ (T111.setTop (mkF m 111 #[.val (.int p1), .val (.int p2), .val (.int p3), .val (.int (p2 &&& (3 : Int32))), .val (.int (201 : Int32)), .val (.ref b111), .val (.int (1 : Int32)), .val (.int (9 : Int32)), .val (.int (1 : Int32)), .unset, .unset, .unset, .unset, .unset, .unset, .unset, .unset, .unset, .unset, .unset] []))
    refine own_FinV.step (fun _ => XS.iload X111.here hx rfl (hb hby at_111) rfl) ?_
    show own_FinV p e below s _ _ _ (T111.setTop (mkF m 113 #[.val (.int p1), .val (.int p2), .val (.int p3), .val (.int (p2 &&& (3 : Int32))), .val (.int (201 : Int32)), .val (.ref b111), .val (.int (1 : Int32)), .val (.int (9 : Int32)), .val (.int (1 : Int32)), .unset, .unset, .unset, .unset, .unset, .unset, .unset, .unset, .unset, .unset, .unset] [(.int (1 : Int32))]))
    refine own_FinV.step (fun _ => XS.ifYes X111.here hx rfl (pc0 := 113) (pc' := 127) rfl (hb hby at_113) rfl (XT.i0_ne_t (by decide : ¬ ((1 : Int32) = (0 : Int32)))) (by decide) (by decide)) ?_
    show own_FinV p e below s _ _ _ (T111.setTop (mkF m 127 #[.val (.int p1), .val (.int p2), .val (.int p3), .val (.int (p2 &&& (3 : Int32))), .val (.int (201 : Int32)), .val (.ref b111), .val (.int (1 : Int32)), .val (.int (9 : Int32)), .val (.int (1 : Int32)), .unset, .unset, .unset, .unset, .unset, .unset, .unset, .unset, .unset, .unset, .unset] []))
    refine own_FinV.step (fun _ => XS.aload X111.here hx rfl (hb hby at_127) rfl rfl) ?_
    show own_FinV p e below s _ _ _ (T111.setTop (mkF m 129 #[.val (.int p1), .val (.int p2), .val (.int p3), .val (.int (p2 &&& (3 : Int32))), .val (.int (201 : Int32)), .val (.ref b111), .val (.int (1 : Int32)), .val (.int (9 : Int32)), .val (.int (1 : Int32)), .unset, .unset, .unset, .unset, .unset, .unset, .unset, .unset, .unset, .unset, .unset] [(.ref b111)]))
    refine own_FinV.step (fun _ => XS.ifnonnullYes X111.here hx rfl (pc0 := 129) (pc' := 134) rfl (hb hby at_129) rfl (by decide) (by decide)) ?_
    show own_FinV p e below s _ _ _ (T111.setTop (mkF m 134 #[.val (.int p1), .val (.int p2), .val (.int p3), .val (.int (p2 &&& (3 : Int32))), .val (.int (201 : Int32)), .val (.ref b111), .val (.int (1 : Int32)), .val (.int (9 : Int32)), .val (.int (1 : Int32)), .unset, .unset, .unset, .unset, .unset, .unset, .unset, .unset, .unset, .unset, .unset] []))
    refine own_FinV.step (fun _ => XS.iload X111.here hx rfl (hb hby at_134) rfl) ?_
    show own_FinV p e below s _ _ _ (T111.setTop (mkF m 136 #[.val (.int p1), .val (.int p2), .val (.int p3), .val (.int (p2 &&& (3 : Int32))), .val (.int (201 : Int32)), .val (.ref b111), .val (.int (1 : Int32)), .val (.int (9 : Int32)), .val (.int (1 : Int32)), .unset, .unset, .unset, .unset, .unset, .unset, .unset, .unset, .unset, .unset, .unset] [(.int (9 : Int32))]))
    refine own_FinV.step (fun _ => XS.iconst X111.here hx rfl (hb hby at_136)) ?_
    show own_FinV p e below s _ _ _ (T111.setTop (mkF m 137 #[.val (.int p1), .val (.int p2), .val (.int p3), .val (.int (p2 &&& (3 : Int32))), .val (.int (201 : Int32)), .val (.ref b111), .val (.int (1 : Int32)), .val (.int (9 : Int32)), .val (.int (1 : Int32)), .unset, .unset, .unset, .unset, .unset, .unset, .unset, .unset, .unset, .unset, .unset] [(.int (4 : Int32)), (.int (9 : Int32))]))
    refine own_FinV.step (fun _ => XS.iand X111.here hx rfl (hb hby at_137) rfl) ?_
    show own_FinV p e below s _ _ _ (T111.setTop (mkF m 138 #[.val (.int p1), .val (.int p2), .val (.int p3), .val (.int (p2 &&& (3 : Int32))), .val (.int (201 : Int32)), .val (.ref b111), .val (.int (1 : Int32)), .val (.int (9 : Int32)), .val (.int (1 : Int32)), .unset, .unset, .unset, .unset, .unset, .unset, .unset, .unset, .unset, .unset, .unset] [(.int (0 : Int32))]))
    refine own_FinV.step (fun _ => XS.ifYes X111.here hx rfl (pc0 := 138) (pc' := 145) rfl (hb hby at_138) rfl (XT.i0_eq_t (by decide : (0 : Int32) = (0 : Int32))) (by decide) (by decide)) ?_
    show own_FinV p e below s _ _ _ (T111.setTop (mkF m 145 #[.val (.int p1), .val (.int p2), .val (.int p3), .val (.int (p2 &&& (3 : Int32))), .val (.int (201 : Int32)), .val (.ref b111), .val (.int (1 : Int32)), .val (.int (9 : Int32)), .val (.int (1 : Int32)), .unset, .unset, .unset, .unset, .unset, .unset, .unset, .unset, .unset, .unset, .unset] []))
    refine own_FinV.step (fun _ => XS.iconst X111.here hx rfl (hb hby at_145)) ?_
    show own_FinV p e below s _ _ _ (T111.setTop (mkF m 146 #[.val (.int p1), .val (.int p2), .val (.int p3), .val (.int (p2 &&& (3 : Int32))), .val (.int (201 : Int32)), .val (.ref b111), .val (.int (1 : Int32)), .val (.int (9 : Int32)), .val (.int (1 : Int32)), .unset, .unset, .unset, .unset, .unset, .unset, .unset, .unset, .unset, .unset, .unset] [(.int (0 : Int32))]))
    refine own_FinV.step (fun _ => XS.istore X111.here hx rfl (hb hby at_146) rfl (l' := #[.val (.int p1), .val (.int p2), .val (.int p3), .val (.int (p2 &&& (3 : Int32))), .val (.int (201 : Int32)), .val (.ref b111), .val (.int (1 : Int32)), .val (.int (9 : Int32)), .val (.int (1 : Int32)), .val (.int (0 : Int32)), .unset, .unset, .unset, .unset, .unset, .unset, .unset, .unset, .unset, .unset]) rfl) ?_
    show own_FinV p e below s _ _ _ (T111.setTop (mkF m 148 #[.val (.int p1), .val (.int p2), .val (.int p3), .val (.int (p2 &&& (3 : Int32))), .val (.int (201 : Int32)), .val (.ref b111), .val (.int (1 : Int32)), .val (.int (9 : Int32)), .val (.int (1 : Int32)), .val (.int (0 : Int32)), .unset, .unset, .unset, .unset, .unset, .unset, .unset, .unset, .unset, .unset] []))
    refine own_FinV.step (fun _ => XS.iload X111.here hx rfl (hb hby at_148) rfl) ?_
    show own_FinV p e below s _ _ _ (T111.setTop (mkF m 150 #[.val (.int p1), .val (.int p2), .val (.int p3), .val (.int (p2 &&& (3 : Int32))), .val (.int (201 : Int32)), .val (.ref b111), .val (.int (1 : Int32)), .val (.int (9 : Int32)), .val (.int (1 : Int32)), .val (.int (0 : Int32)), .unset, .unset, .unset, .unset, .unset, .unset, .unset, .unset, .unset, .unset] [(.int (9 : Int32))]))
    refine own_FinV.step (fun _ => XS.bipush X111.here hx rfl (hb hby at_150)) ?_
    show own_FinV p e below s _ _ _ (T111.setTop (mkF m 152 #[.val (.int p1), .val (.int p2), .val (.int p3), .val (.int (p2 &&& (3 : Int32))), .val (.int (201 : Int32)), .val (.ref b111), .val (.int (1 : Int32)), .val (.int (9 : Int32)), .val (.int (1 : Int32)), .val (.int (0 : Int32)), .unset, .unset, .unset, .unset, .unset, .unset, .unset, .unset, .unset, .unset] [(.int (8 : Int32)), (.int (9 : Int32))]))
    refine own_FinV.step (fun _ => XS.iand X111.here hx rfl (hb hby at_152) rfl) ?_
    show own_FinV p e below s _ _ _ (T111.setTop (mkF m 153 #[.val (.int p1), .val (.int p2), .val (.int p3), .val (.int (p2 &&& (3 : Int32))), .val (.int (201 : Int32)), .val (.ref b111), .val (.int (1 : Int32)), .val (.int (9 : Int32)), .val (.int (1 : Int32)), .val (.int (0 : Int32)), .unset, .unset, .unset, .unset, .unset, .unset, .unset, .unset, .unset, .unset] [(.int (8 : Int32))]))
    refine own_FinV.step (fun _ => XS.ifNo X111.here hx rfl (hb hby at_153) rfl (XT.i0_eq_f (by decide : ¬ ((8 : Int32) = (0 : Int32))))) ?_
    show own_FinV p e below s _ _ _ (T111.setTop (mkF m 156 #[.val (.int p1), .val (.int p2), .val (.int p3), .val (.int (p2 &&& (3 : Int32))), .val (.int (201 : Int32)), .val (.ref b111), .val (.int (1 : Int32)), .val (.int (9 : Int32)), .val (.int (1 : Int32)), .val (.int (0 : Int32)), .unset, .unset, .unset, .unset, .unset, .unset, .unset, .unset, .unset, .unset] []))
    refine own_FinV.step (fun _ => XS.iconst X111.here hx rfl (hb hby at_156)) ?_
    show own_FinV p e below s _ _ _ (T111.setTop (mkF m 157 #[.val (.int p1), .val (.int p2), .val (.int p3), .val (.int (p2 &&& (3 : Int32))), .val (.int (201 : Int32)), .val (.ref b111), .val (.int (1 : Int32)), .val (.int (9 : Int32)), .val (.int (1 : Int32)), .val (.int (0 : Int32)), .unset, .unset, .unset, .unset, .unset, .unset, .unset, .unset, .unset, .unset] [(.int (1 : Int32))]))
    refine own_FinV.step (fun _ => XS.goto X111.here hx rfl (pc0 := 157) (pc' := 161) rfl (hb hby at_157) (by decide) (by decide)) ?_
    show own_FinV p e below s _ _ _ (T111.setTop (mkF m 161 #[.val (.int p1), .val (.int p2), .val (.int p3), .val (.int (p2 &&& (3 : Int32))), .val (.int (201 : Int32)), .val (.ref b111), .val (.int (1 : Int32)), .val (.int (9 : Int32)), .val (.int (1 : Int32)), .val (.int (0 : Int32)), .unset, .unset, .unset, .unset, .unset, .unset, .unset, .unset, .unset, .unset] [(.int (1 : Int32))]))
    refine own_FinV.step (fun _ => XS.istore X111.here hx rfl (hb hby at_161) rfl (l' := #[.val (.int p1), .val (.int p2), .val (.int p3), .val (.int (p2 &&& (3 : Int32))), .val (.int (201 : Int32)), .val (.ref b111), .val (.int (1 : Int32)), .val (.int (9 : Int32)), .val (.int (1 : Int32)), .val (.int (0 : Int32)), .val (.int (1 : Int32)), .unset, .unset, .unset, .unset, .unset, .unset, .unset, .unset, .unset]) rfl) ?_
    show own_FinV p e below s _ _ _ (T111.setTop (mkF m 163 #[.val (.int p1), .val (.int p2), .val (.int p3), .val (.int (p2 &&& (3 : Int32))), .val (.int (201 : Int32)), .val (.ref b111), .val (.int (1 : Int32)), .val (.int (9 : Int32)), .val (.int (1 : Int32)), .val (.int (0 : Int32)), .val (.int (1 : Int32)), .unset, .unset, .unset, .unset, .unset, .unset, .unset, .unset, .unset] []))
    refine own_FinV.step (fun _ => XS.iload X111.here hx rfl (hb hby at_163) rfl) ?_
    show own_FinV p e below s _ _ _ (T111.setTop (mkF m 165 #[.val (.int p1), .val (.int p2), .val (.int p3), .val (.int (p2 &&& (3 : Int32))), .val (.int (201 : Int32)), .val (.ref b111), .val (.int (1 : Int32)), .val (.int (9 : Int32)), .val (.int (1 : Int32)), .val (.int (0 : Int32)), .val (.int (1 : Int32)), .unset, .unset, .unset, .unset, .unset, .unset, .unset, .unset, .unset] [(.int (9 : Int32))]))
    refine own_FinV.step (fun _ => XS.iconst X111.here hx rfl (hb hby at_165)) ?_
    show own_FinV p e below s _ _ _ (T111.setTop (mkF m 166 #[.val (.int p1), .val (.int p2), .val (.int p3), .val (.int (p2 &&& (3 : Int32))), .val (.int (201 : Int32)), .val (.ref b111), .val (.int (1 : Int32)), .val (.int (9 : Int32)), .val (.int (1 : Int32)), .val (.int (0 : Int32)), .val (.int (1 : Int32)), .unset, .unset, .unset, .unset, .unset, .unset, .unset, .unset, .unset] [(.int (3 : Int32)), (.int (9 : Int32))]))
    refine own_FinV.step (fun _ => XS.iand X111.here hx rfl (hb hby at_166) rfl) ?_
    show own_FinV p e below s _ _ _ (T111.setTop (mkF m 167 #[.val (.int p1), .val (.int p2), .val (.int p3), .val (.int (p2 &&& (3 : Int32))), .val (.int (201 : Int32)), .val (.ref b111), .val (.int (1 : Int32)), .val (.int (9 : Int32)), .val (.int (1 : Int32)), .val (.int (0 : Int32)), .val (.int (1 : Int32)), .unset, .unset, .unset, .unset, .unset, .unset, .unset, .unset, .unset] [(.int (1 : Int32))]))
    refine own_FinV.step (fun _ => XS.istore X111.here hx rfl (hb hby at_167) rfl (l' := #[.val (.int p1), .val (.int p2), .val (.int p3), .val (.int (p2 &&& (3 : Int32))), .val (.int (201 : Int32)), .val (.ref b111), .val (.int (1 : Int32)), .val (.int (9 : Int32)), .val (.int (1 : Int32)), .val (.int (0 : Int32)), .val (.int (1 : Int32)), .val (.int (1 : Int32)), .unset, .unset, .unset, .unset, .unset, .unset, .unset, .unset]) rfl) ?_
    show own_FinV p e below s _ _ _ (T111.setTop (mkF m 169 #[.val (.int p1), .val (.int p2), .val (.int p3), .val (.int (p2 &&& (3 : Int32))), .val (.int (201 : Int32)), .val (.ref b111), .val (.int (1 : Int32)), .val (.int (9 : Int32)), .val (.int (1 : Int32)), .val (.int (0 : Int32)), .val (.int (1 : Int32)), .val (.int (1 : Int32)), .unset, .unset, .unset, .unset, .unset, .unset, .unset, .unset] []))
    refine own_FinV.step (fun _ => XS.iload X111.here hx rfl (hb hby at_169) rfl) ?_
    show own_FinV p e below s _ _ _ (T111.setTop (mkF m 171 #[.val (.int p1), .val (.int p2), .val (.int p3), .val (.int (p2 &&& (3 : Int32))), .val (.int (201 : Int32)), .val (.ref b111), .val (.int (1 : Int32)), .val (.int (9 : Int32)), .val (.int (1 : Int32)), .val (.int (0 : Int32)), .val (.int (1 : Int32)), .val (.int (1 : Int32)), .unset, .unset, .unset, .unset, .unset, .unset, .unset, .unset] [(.int (0 : Int32))]))
    refine own_FinV.step (fun _ => XS.ifYes X111.here hx rfl (pc0 := 171) (pc' := 179) rfl (hb hby at_171) rfl (XT.i0_eq_t (by decide : (0 : Int32) = (0 : Int32))) (by decide) (by decide)) ?_
    show own_FinV p e below s _ _ _ (T111.setTop (mkF m 179 #[.val (.int p1), .val (.int p2), .val (.int p3), .val (.int (p2 &&& (3 : Int32))), .val (.int (201 : Int32)), .val (.ref b111), .val (.int (1 : Int32)), .val (.int (9 : Int32)), .val (.int (1 : Int32)), .val (.int (0 : Int32)), .val (.int (1 : Int32)), .val (.int (1 : Int32)), .unset, .unset, .unset, .unset, .unset, .unset, .unset, .unset] []))
    obtain ⟨b113, T113, h113, k113, X113, e113, E113, hS113, hk113, hZ113, hown113, St113, C113, st113⟩ := own_ldcV (s := s) (vm0 := T111.vm) X111 hx hZ hown (own_w hw 12 rfl) own_wS rfl hS hk hEL (List.mem_of_getElem? (i := 14) rfl) C111 (by decide) (g := (mkF m 179 #[.val (.int p1), .val (.int p2), .val (.int p3), .val (.int (p2 &&& (3 : Int32))), .val (.int (201 : Int32)), .val (.ref b111), .val (.int (1 : Int32)), .val (.int (9 : Int32)), .val (.int (1 : Int32)), .val (.int (0 : Int32)), .val (.int (1 : Int32)), .val (.int (1 : Int32)), .unset, .unset, .unset, .unset, .unset, .unset, .unset, .unset] [])) rfl (hb hby at_179) (n := 0) (by decide) (by decide) (by decide) (by decide)
    have hS := hS113
    have hk := hk113
    have hZ := hZ113
    have hown := hown113
    have f114 := f112.ext E113
    have f115 := St111.ext E113
    have Z113 : n0 ≤ h113.size := Nat.le_trans Z111 E113.1
    refine own_FinV.step st113 ?_
    show own_FinV p e below s _ _ _ (T113.setTop (mkF m 181 #[.val (.int p1), .val (.int p2), .val (.int p3), .val (.int (p2 &&& (3 : Int32))), .val (.int (201 : Int32)), .val (.ref b111), .val (.int (1 : Int32)), .val (.int (9 : Int32)), .val (.int (1 : Int32)), .val (.int (0 : Int32)), .val (.int (1 : Int32)), .val (.int (1 : Int32)), .unset, .unset, .unset, .unset, .unset, .unset, .unset, .unset] [(.ref b113)]))
    refine own_FinV.step (fun _ => XS.astore X113.here hx rfl (hb hby at_181) rfl rfl (l' := #[.val (.int p1), .val (.int p2), .val (.int p3), .val (.int (p2 &&& (3 : Int32))), .val (.int (201 : Int32)), .val (.ref b111), .val (.int (1 : Int32)), .val (.int (9 : Int32)), .val (.int (1 : Int32)), .val (.int (0 : Int32)), .val (.int (1 : Int32)), .val (.int (1 : Int32)), .val (.ref b113), .unset, .unset, .unset, .unset, .unset, .unset, .unset]) rfl) ?_
    show own_FinV p e below s _ _ _ (T113.setTop (mkF m 183 #[.val (.int p1), .val (.int p2), .val (.int p3), .val (.int (p2 &&& (3 : Int32))), .val (.int (201 : Int32)), .val (.ref b111), .val (.int (1 : Int32)), .val (.int (9 : Int32)), .val (.int (1 : Int32)), .val (.int (0 : Int32)), .val (.int (1 : Int32)), .val (.int (1 : Int32)), .val (.ref b113), .unset, .unset, .unset, .unset, .unset, .unset, .unset] []))
    refine own_FinV.step (fun _ => XS.iload X113.here hx rfl (hb hby at_183) rfl) ?_
    show own_FinV p e below s _ _ _ (T113.setTop (mkF m 185 #[.val (.int p1), .val (.int p2), .val (.int p3), .val (.int (p2 &&& (3 : Int32))), .val (.int (201 : Int32)), .val (.ref b111), .val (.int (1 : Int32)), .val (.int (9 : Int32)), .val (.int (1 : Int32)), .val (.int (0 : Int32)), .val (.int (1 : Int32)), .val (.int (1 : Int32)), .val (.ref b113), .unset, .unset, .unset, .unset, .unset, .unset, .unset] [(.int (1 : Int32))]))
    refine own_FinV.step (fun _ => XS.ifYes X113.here hx rfl (pc0 := 185) (pc' := 195) rfl (hb hby at_185) rfl (XT.i0_ne_t (by decide : ¬ ((1 : Int32) = (0 : Int32)))) (by decide) (by decide)) ?_
    show own_FinV p e below s _ _ _ (T113.setTop (mkF m 195 #[.val (.int p1), .val (.int p2), .val (.int p3), .val (.int (p2 &&& (3 : Int32))), .val (.int (201 : Int32)), .val (.ref b111), .val (.int (1 : Int32)), .val (.int (9 : Int32)), .val (.int (1 : Int32)), .val (.int (0 : Int32)), .val (.int (1 : Int32)), .val (.int (1 : Int32)), .val (.ref b113), .unset, .unset, .unset, .unset, .unset, .unset, .unset] []))
    refine own_FinV.step (fun _ => XS.iload X113.here hx rfl (hb hby at_195) rfl) ?_
    show own_FinV p e below s _ _ _ (T113.setTop (mkF m 197 #[.val (.int p1), .val (.int p2), .val (.int p3), .val (.int (p2 &&& (3 : Int32))), .val (.int (201 : Int32)), .val (.ref b111), .val (.int (1 : Int32)), .val (.int (9 : Int32)), .val (.int (1 : Int32)), .val (.int (0 : Int32)), .val (.int (1 : Int32)), .val (.int (1 : Int32)), .val (.ref b113), .unset, .unset, .unset, .unset, .unset, .unset, .unset] [(.int (1 : Int32))]))
    refine own_FinV.step (fun _ => XS.iconst X113.here hx rfl (hb hby at_197)) ?_
    show own_FinV p e below s _ _ _ (T113.setTop (mkF m 198 #[.val (.int p1), .val (.int p2), .val (.int p3), .val (.int (p2 &&& (3 : Int32))), .val (.int (201 : Int32)), .val (.ref b111), .val (.int (1 : Int32)), .val (.int (9 : Int32)), .val (.int (1 : Int32)), .val (.int (0 : Int32)), .val (.int (1 : Int32)), .val (.int (1 : Int32)), .val (.ref b113), .unset, .unset, .unset, .unset, .unset, .unset, .unset] [(.int (1 : Int32)), (.int (1 : Int32))]))
    refine own_FinV.step (fun _ => XS.icmpNo X113.here hx rfl (hb hby at_198) rfl (XT.ii_ne_f (by decide : (1 : Int32) = (1 : Int32)))) ?_
    show own_FinV p e below s _ _ _ (T113.setTop (mkF m 201 #[.val (.int p1), .val (.int p2), .val (.int p3), .val (.int (p2 &&& (3 : Int32))), .val (.int (201 : Int32)), .val (.ref b111), .val (.int (1 : Int32)), .val (.int (9 : Int32)), .val (.int (1 : Int32)), .val (.int (0 : Int32)), .val (.int (1 : Int32)), .val (.int (1 : Int32)), .val (.ref b113), .unset, .unset, .unset, .unset, .unset, .unset, .unset] []))
    refine own_FinV.step (fun _ => XS.iload X113.here hx rfl (hb hby at_201) rfl) ?_
    show own_FinV p e below s _ _ _ (T113.setTop (mkF m 203 #[.val (.int p1), .val (.int p2), .val (.int p3), .val (.int (p2 &&& (3 : Int32))), .val (.int (201 : Int32)), .val (.ref b111), .val (.int (1 : Int32)), .val (.int (9 : Int32)), .val (.int (1 : Int32)), .val (.int (0 : Int32)), .val (.int (1 : Int32)), .val (.int (1 : Int32)), .val (.ref b113), .unset, .unset, .unset, .unset, .unset, .unset, .unset] [(.int (0 : Int32))]))
    refine own_FinV.step (fun _ => XS.ifYes X113.here hx rfl (pc0 := 203) (pc' := 211) rfl (hb hby at_203) rfl (XT.i0_eq_t (by decide : (0 : Int32) = (0 : Int32))) (by decide) (by decide)) ?_
    show own_FinV p e below s _ _ _ (T113.setTop (mkF m 211 #[.val (.int p1), .val (.int p2), .val (.int p3), .val (.int (p2 &&& (3 : Int32))), .val (.int (201 : Int32)), .val (.ref b111), .val (.int (1 : Int32)), .val (.int (9 : Int32)), .val (.int (1 : Int32)), .val (.int (0 : Int32)), .val (.int (1 : Int32)), .val (.int (1 : Int32)), .val (.ref b113), .unset, .unset, .unset, .unset, .unset, .unset, .unset] []))
    obtain ⟨b116, T116, h116, k116, X116, e116, E116, hS116, hk116, hZ116, hown116, St116, C116, st116⟩ := own_ldcV (s := s) (vm0 := T113.vm) X113 hx hZ hown (own_w hw 57 rfl) own_wS e113 hS hk hEL (List.mem_of_getElem? (i := 17) rfl) C113 (by decide) (g := (mkF m 211 #[.val (.int p1), .val (.int p2), .val (.int p3), .val (.int (p2 &&& (3 : Int32))), .val (.int (201 : Int32)), .val (.ref b111), .val (.int (1 : Int32)), .val (.int (9 : Int32)), .val (.int (1 : Int32)), .val (.int (0 : Int32)), .val (.int (1 : Int32)), .val (.int (1 : Int32)), .val (.ref b113), .unset, .unset, .unset, .unset, .unset, .unset, .unset] [])) rfl (hb hby at_211) (n := 76) (by decide) (by decide) (by decide) (by decide)
    have hS := hS116
    have hk := hk116
    have hZ := hZ116
    have hown := hown116
    have f117 := f114.ext E116
    have f118 := f115.ext E116
    have f119 := St113.ext E116
    have Z116 : n0 ≤ h116.size := Nat.le_trans Z113 E116.1
    refine own_FinV.step st116 ?_
    show own_FinV p e below s _ _ _ (T116.setTop (mkF m 213 #[.val (.int p1), .val (.int p2), .val (.int p3), .val (.int (p2 &&& (3 : Int32))), .val (.int (201 : Int32)), .val (.ref b111), .val (.int (1 : Int32)), .val (.int (9 : Int32)), .val (.int (1 : Int32)), .val (.int (0 : Int32)), .val (.int (1 : Int32)), .val (.int (1 : Int32)), .val (.ref b113), .unset, .unset, .unset, .unset, .unset, .unset, .unset] [(.ref b116)]))
    refine own_FinV.step (fun _ => XS.astore X116.here hx rfl (hb hby at_213) rfl rfl (l' := #[.val (.int p1), .val (.int p2), .val (.int p3), .val (.int (p2 &&& (3 : Int32))), .val (.int (201 : Int32)), .val (.ref b111), .val (.int (1 : Int32)), .val (.int (9 : Int32)), .val (.int (1 : Int32)), .val (.int (0 : Int32)), .val (.int (1 : Int32)), .val (.int (1 : Int32)), .val (.ref b113), .val (.ref b116), .unset, .unset, .unset, .unset, .unset, .unset]) rfl) ?_
    show own_FinV p e below s _ _ _ (T116.setTop (mkF m 215 #[.val (.int p1), .val (.int p2), .val (.int p3), .val (.int (p2 &&& (3 : Int32))), .val (.int (201 : Int32)), .val (.ref b111), .val (.int (1 : Int32)), .val (.int (9 : Int32)), .val (.int (1 : Int32)), .val (.int (0 : Int32)), .val (.int (1 : Int32)), .val (.int (1 : Int32)), .val (.ref b113), .val (.ref b116), .unset, .unset, .unset, .unset, .unset, .unset] []))
    refine own_FinV.step (fun _ => XS.goto X116.here hx rfl (pc0 := 215) (pc' := 235) rfl (hb hby at_215) (by decide) (by decide)) ?_
    show own_FinV p e below s _ _ _ (T116.setTop (mkF m 235 #[.val (.int p1), .val (.int p2), .val (.int p3), .val (.int (p2 &&& (3 : Int32))), .val (.int (201 : Int32)), .val (.ref b111), .val (.int (1 : Int32)), .val (.int (9 : Int32)), .val (.int (1 : Int32)), .val (.int (0 : Int32)), .val (.int (1 : Int32)), .val (.int (1 : Int32)), .val (.ref b113), .val (.ref b116), .unset, .unset, .unset, .unset, .unset, .unset] []))
    refine own_FinV.step (fun _ => XS.iload X116.here hx rfl (hb hby at_235) rfl) ?_
    show own_FinV p e below s _ _ _ (T116.setTop (mkF m 237 #[.val (.int p1), .val (.int p2), .val (.int p3), .val (.int (p2 &&& (3 : Int32))), .val (.int (201 : Int32)), .val (.ref b111), .val (.int (1 : Int32)), .val (.int (9 : Int32)), .val (.int (1 : Int32)), .val (.int (0 : Int32)), .val (.int (1 : Int32)), .val (.int (1 : Int32)), .val (.ref b113), .val (.ref b116), .unset, .unset, .unset, .unset, .unset, .unset] [(.int (1 : Int32))]))
    refine own_FinV.step (fun _ => XS.ifNo X116.here hx rfl (hb hby at_237) rfl (XT.i0_eq_f (by decide : ¬ ((1 : Int32) = (0 : Int32))))) ?_
    show own_FinV p e below s _ _ _ (T116.setTop (mkF m 240 #[.val (.int p1), .val (.int p2), .val (.int p3), .val (.int (p2 &&& (3 : Int32))), .val (.int (201 : Int32)), .val (.ref b111), .val (.int (1 : Int32)), .val (.int (9 : Int32)), .val (.int (1 : Int32)), .val (.int (0 : Int32)), .val (.int (1 : Int32)), .val (.int (1 : Int32)), .val (.ref b113), .val (.ref b116), .unset, .unset, .unset, .unset, .unset, .unset] []))
    obtain ⟨b120, T120, h120, k120, X120, e120, E120, hS120, hk120, hZ120, hown120, St120, C120, st120⟩ := own_ldcV (s := s) (vm0 := T116.vm) X116 hx hZ hown (own_w hw 55 rfl) own_wS e116 hS hk hEL (List.mem_of_getElem? (i := 20) rfl) C116 (by decide) (g := (mkF m 240 #[.val (.int p1), .val (.int p2), .val (.int p3), .val (.int (p2 &&& (3 : Int32))), .val (.int (201 : Int32)), .val (.ref b111), .val (.int (1 : Int32)), .val (.int (9 : Int32)), .val (.int (1 : Int32)), .val (.int (0 : Int32)), .val (.int (1 : Int32)), .val (.int (1 : Int32)), .val (.ref b113), .val (.ref b116), .unset, .unset, .unset, .unset, .unset, .unset] [])) rfl (hb hby at_240) (n := 72) (by decide) (by decide) (by decide) (by decide)
    have hS := hS120
    have hk := hk120
    have hZ := hZ120
    have hown := hown120
    have f121 := f117.ext E120
    have f122 := f118.ext E120
    have f123 := f119.ext E120
    have f124 := St116.ext E120
    have Z120 : n0 ≤ h120.size := Nat.le_trans Z116 E120.1
    refine own_FinV.step st120 ?_
    show own_FinV p e below s _ _ _ (T120.setTop (mkF m 242 #[.val (.int p1), .val (.int p2), .val (.int p3), .val (.int (p2 &&& (3 : Int32))), .val (.int (201 : Int32)), .val (.ref b111), .val (.int (1 : Int32)), .val (.int (9 : Int32)), .val (.int (1 : Int32)), .val (.int (0 : Int32)), .val (.int (1 : Int32)), .val (.int (1 : Int32)), .val (.ref b113), .val (.ref b116), .unset, .unset, .unset, .unset, .unset, .unset] [(.ref b120)]))
    refine own_FinV.step (fun _ => XS.goto X120.here hx rfl (pc0 := 242) (pc' := 247) rfl (hb hby at_242) (by decide) (by decide)) ?_
    show own_FinV p e below s _ _ _ (T120.setTop (mkF m 247 #[.val (.int p1), .val (.int p2), .val (.int p3), .val (.int (p2 &&& (3 : Int32))), .val (.int (201 : Int32)), .val (.ref b111), .val (.int (1 : Int32)), .val (.int (9 : Int32)), .val (.int (1 : Int32)), .val (.int (0 : Int32)), .val (.int (1 : Int32)), .val (.int (1 : Int32)), .val (.ref b113), .val (.ref b116), .unset, .unset, .unset, .unset, .unset, .unset] [(.ref b120)]))
    refine own_FinV.step (fun _ => XS.astore X120.here hx rfl (hb hby at_247) rfl rfl (l' := #[.val (.int p1), .val (.int p2), .val (.int p3), .val (.int (p2 &&& (3 : Int32))), .val (.int (201 : Int32)), .val (.ref b111), .val (.int (1 : Int32)), .val (.int (9 : Int32)), .val (.int (1 : Int32)), .val (.int (0 : Int32)), .val (.int (1 : Int32)), .val (.int (1 : Int32)), .val (.ref b113), .val (.ref b116), .val (.ref b120), .unset, .unset, .unset, .unset, .unset]) rfl) ?_
    have hcat : own_bs "extended sequential, arithmetic-coded" = own_bs "" ++ own_bs "extended sequential" ++ own_bs ", arithmetic-coded" := by decide +kernel
    rw [hcat] at f122
    exact own_tail hw X120 hx hby hml hown hret hlk hZ Z120 N111 e120 hS hk C120 hcs rv f121 f122 f123 f124 St120 (by decide) (by decide) (by decide) (by decide) (by decide) (by decide)
  ·
    show own_FinV p e below s _ _ _ (s₁.setTop (mkF m 42 #[.val (.int p1), .val (.int p2), .val (.int p3), .val (.int (p2 &&& (3 : Int32))), .val (.int (202 : Int32)), .unset, .unset, .unset, .unset, .unset, .unset, .unset, .unset, .unset, .unset, .unset, .unset, .unset, .unset, .unset] []))
    refine own_FinV.step (fun _ => XS.iload X0.here hx rfl (hb hby at_42) rfl) ?_
    show own_FinV p e below s _ _ _ (s₁.setTop (mkF m 44 #[.val (.int p1), .val (.int p2), .val (.int p3), .val (.int (p2 &&& (3 : Int32))), .val (.int (202 : Int32)), .unset, .unset, .unset, .unset, .unset, .unset, .unset, .unset, .unset, .unset, .unset, .unset, .unset, .unset, .unset] [(.int (202 : Int32))]))
    obtain ⟨_, T125, L125, k125, X125, ⟨b125, rfl, N125q, E125, St125⟩, hS125, hk125, hZ125, hown125, C125, st125⟩ := own_callSV (s := s) (vm0 := s.vm) X0 hx hZ hown (own_w hw 0 rfl) (own_w hw 1 rfl) (own_w hw 2 rfl) (own_w hw 3 rfl) (by decide) (rm8_202 l Z a0 hw  h0 n0 Z0 ) (by decide) (by decide) hS hk hEL C0 e0 (W := 0) (g := (mkF m 44 #[.val (.int p1), .val (.int p2), .val (.int p3), .val (.int (p2 &&& (3 : Int32))), .val (.int (202 : Int32)), .unset, .unset, .unset, .unset, .unset, .unset, .unset, .unset, .unset, .unset, .unset, .unset, .unset, .unset, .unset] [(.int (202 : Int32))])) rfl (by rw [hml]; rfl) (argsL := [(.int (202 : Int32))]) (rest := []) (lenOf pd_7 rfl) rfl rfl (by show 2 * 0 + _ ≤ _; exact Nat.le_of_eq rfl) (hb hby at_44) (by decide) (by decide)
    have hS := hS125
    have hk := hk125
    have hZ := hZ125
    have hown := hown125
    have N125 := Fr.app N0 N125q
    have Z125 : n0 ≤ T125.heap.size := Nat.le_trans Z0 E125.1
    have f126 := SS.ext E125
    refine own_FinV.step st125 ?_
    show own_FinV p e below s _ _ _ (T125.setTop (mkF m 47 #[.val (.int p1), .val (.int p2), .val (.int p3), .val (.int (p2 &&& (3 : Int32))), .val (.int (202 : Int32)), .unset, .unset, .unset, .unset, .unset, .unset, .unset, .unset, .unset, .unset, .unset, .unset, .unset, .unset, .unset] [(.ref b125)]))
    refine own_FinV.step (fun _ => XS.astore X125.here hx rfl (hb hby at_47) rfl rfl (l' := #[.val (.int p1), .val (.int p2), .val (.int p3), .val (.int (p2 &&& (3 : Int32))), .val (.int (202 : Int32)), .val (.ref b125), .unset, .unset, .unset, .unset, .unset, .unset, .unset, .unset, .unset, .unset, .unset, .unset, .unset, .unset]) rfl) ?_
    show own_FinV p e below s _ _ _ (T125.setTop (mkF m 49 #[.val (.int p1), .val (.int p2), .val (.int p3), .val (.int (p2 &&& (3 : Int32))), .val (.int (202 : Int32)), .val (.ref b125), .unset, .unset, .unset, .unset, .unset, .unset, .unset, .unset, .unset, .unset, .unset, .unset, .unset, .unset] []))
    refine own_FinV.step (fun _ => XS.iload X125.here hx rfl (hb hby at_49) rfl) ?_
    show own_FinV p e below s _ _ _ (T125.setTop (mkF m 51 #[.val (.int p1), .val (.int p2), .val (.int p3), .val (.int (p2 &&& (3 : Int32))), .val (.int (202 : Int32)), .val (.ref b125), .unset, .unset, .unset, .unset, .unset, .unset, .unset, .unset, .unset, .unset, .unset, .unset, .unset, .unset] [(.int (202 : Int32))]))
    refine own_FinV.step (fun _ => XS.sipush X125.here hx rfl (hb hby at_51)) ?_
    show own_FinV p e below s _ _ _ (T125.setTop (mkF m 54 #[.val (.int p1), .val (.int p2), .val (.int p3), .val (.int (p2 &&& (3 : Int32))), .val (.int (202 : Int32)), .val (.ref b125), .unset, .unset, .unset, .unset, .unset, .unset, .unset, .unset, .unset, .unset, .unset, .unset, .unset, .unset] [(.int (192 : Int32)), (.int (202 : Int32))]))
    refine own_FinV.step (fun _ => XS.icmpNo X125.here hx rfl (hb hby at_54) rfl (XT.ii_lt_f (by decide : ¬ ((202 : Int32) < (192 : Int32))))) ?_
    show own_FinV p e below s _ _ _ (T125.setTop (mkF m 57 #[.val (.int p1), .val (.int p2), .val (.int p3), .val (.int (p2 &&& (3 : Int32))), .val (.int (202 : Int32)), .val (.ref b125), .unset, .unset, .unset, .unset, .unset, .unset, .unset, .unset, .unset, .unset, .unset, .unset, .unset, .unset] []))
    refine own_FinV.step (fun _ => XS.iload X125.here hx rfl (hb hby at_57) rfl) ?_
    show own_FinV p e below s _ _ _ (T125.setTop (mkF m 59 #[.val (.int p1), .val (.int p2), .val (.int p3), .val (.int (p2 &&& (3 : Int32))), .val (.int (202 : Int32)), .val (.ref b125), .unset, .unset, .unset, .unset, .unset, .unset, .unset, .unset, .unset, .unset, .unset, .unset, .unset, .unset] [(.int (202 : Int32))]))
    refine own_FinV.step (fun _ => XS.sipush X125.here hx rfl (hb hby at_59)) ?_
    show own_FinV p e below s _ _ _ (T125.setTop (mkF m 62 #[.val (.int p1), .val (.int p2), .val (.int p3), .val (.int (p2 &&& (3 : Int32))), .val (.int (202 : Int32)), .val (.ref b125), .unset, .unset, .unset, .unset, .unset, .unset, .unset, .unset, .unset, .unset, .unset, .unset, .unset, .unset] [(.int (207 : Int32)), (.int (202 : Int32))]))
    refine own_FinV.step (fun _ => XS.icmpNo X125.here hx rfl (hb hby at_62) rfl (XT.ii_gt_f (by decide : ¬ ((207 : Int32) < (202 : Int32))))) ?_
    show own_FinV p e below s _ _ _ (T125.setTop (mkF m 65 #[.val (.int p1), .val (.int p2), .val (.int p3), .val (.int (p2 &&& (3 : Int32))), .val (.int (202 : Int32)), .val (.ref b125), .unset, .unset, .unset, .unset, .unset, .unset, .unset, .unset, .unset, .unset, .unset, .unset, .unset, .unset] []))
    refine own_FinV.step (fun _ => XS.iconst X125.here hx rfl (hb hby at_65)) ?_
    show own_FinV p e below s _ _ _ (T125.setTop (mkF m 66 #[.val (.int p1), .val (.int p2), .val (.int p3), .val (.int (p2 &&& (3 : Int32))), .val (.int (202 : Int32)), .val (.ref b125), .unset, .unset, .unset, .unset, .unset, .unset, .unset, .unset, .unset, .unset, .unset, .unset, .unset, .unset] [(.int (1 : Int32))]))
    refine own_FinV.step (fun _ => XS.goto X125.here hx rfl (pc0 := 66) (pc' := 70) rfl (hb hby at_66) (by decide) (by decide)) ?_
    show own_FinV p e below s _ _ _ (T125.setTop (mkF m 70 #[.val (.int p1), .val (.int p2), .val (.int p3), .val (.int (p2 &&& (3 : Int32))), .val (.int (202 : Int32)), .val (.ref b125), .unset, .unset, .unset, .unset, .unset, .unset, .unset, .unset, .unset, .unset, .unset, .unset, .unset, .unset] [(.int (1 : Int32))]))
    refine own_FinV.step (fun _ => XS.istore X125.here hx rfl (hb hby at_70) rfl (l' := #[.val (.int p1), .val (.int p2), .val (.int p3), .val (.int (p2 &&& (3 : Int32))), .val (.int (202 : Int32)), .val (.ref b125), .val (.int (1 : Int32)), .unset, .unset, .unset, .unset, .unset, .unset, .unset, .unset, .unset, .unset, .unset, .unset, .unset]) rfl) ?_
    show own_FinV p e below s _ _ _ (T125.setTop (mkF m 72 #[.val (.int p1), .val (.int p2), .val (.int p3), .val (.int (p2 &&& (3 : Int32))), .val (.int (202 : Int32)), .val (.ref b125), .val (.int (1 : Int32)), .unset, .unset, .unset, .unset, .unset, .unset, .unset, .unset, .unset, .unset, .unset, .unset, .unset] []))
    refine own_FinV.step (fun _ => XS.iload X125.here hx rfl (hb hby at_72) rfl) ?_
    show own_FinV p e below s _ _ _ (T125.setTop (mkF m 74 #[.val (.int p1), .val (.int p2), .val (.int p3), .val (.int (p2 &&& (3 : Int32))), .val (.int (202 : Int32)), .val (.ref b125), .val (.int (1 : Int32)), .unset, .unset, .unset, .unset, .unset, .unset, .unset, .unset, .unset, .unset, .unset, .unset, .unset] [(.int (202 : Int32))]))
    refine own_FinV.step (fun _ => XS.bipush X125.here hx rfl (hb hby at_74)) ?_
    show own_FinV p e below s _ _ _ (T125.setTop (mkF m 76 #[.val (.int p1), .val (.int p2), .val (.int p3), .val (.int (p2 &&& (3 : Int32))), .val (.int (202 : Int32)), .val (.ref b125), .val (.int (1 : Int32)), .unset, .unset, .unset, .unset, .unset, .unset, .unset, .unset, .unset, .unset, .unset, .unset, .unset] [(.int (15 : Int32)), (.int (202 : Int32))]))
    refine own_FinV.step (fun _ => XS.iand X125.here hx rfl (hb hby at_76) rfl) ?_
    show own_FinV p e below s _ _ _ (T125.setTop (mkF m 77 #[.val (.int p1), .val (.int p2), .val (.int p3), .val (.int (p2 &&& (3 : Int32))), .val (.int (202 : Int32)), .val (.ref b125), .val (.int (1 : Int32)), .unset, .unset, .unset, .unset, .unset, .unset, .unset, .unset, .unset, .unset, .unset, .unset, .unset] [(.int (10 : Int32))]))
    refine own_FinV.step (fun _ => XS.istore X125.here hx rfl (hb hby at_77) rfl (l' := #[.val (.int p1), .val (.int p2), .val (.int p3), .val (.int (p2 &&& (3 : Int32))), .val (.int (202 : Int32)), .val (.ref b125), .val (.int (1 : Int32)), .val (.int (10 : Int32)), .unset, .unset, .unset, .unset, .unset, .unset, .unset, .unset, .unset, .unset, .unset, .unset]) rfl) ?_
    show own_FinV p e below s _ _ _ (T125.setTop (mkF m 79 #[.val (.int p1), .val (.int p2), .val (.int p3), .val (.int (p2 &&& (3 : Int32))), .val (.int (202 : Int32)), .val (.ref b125), .val (.int (1 : Int32)), .val (.int (10 : Int32)), .unset, .unset, .unset, .unset, .unset, .unset, .unset, .unset, .unset, .unset, .unset, .unset] []))
    refine own_FinV.step (fun _ => XS.iload X125.here hx rfl (hb hby at_79) rfl) ?_
    show own_FinV p e below s _ _ _ (T125.setTop (mkF m 81 #[.val (.int p1), .val (.int p2), .val (.int p3), .val (.int (p2 &&& (3 : Int32))), .val (.int (202 : Int32)), .val (.ref b125), .val (.int (1 : Int32)), .val (.int (10 : Int32)), .unset, .unset, .unset, .unset, .unset, .unset, .unset, .unset, .unset, .unset, .unset, .unset] [(.int (1 : Int32))]))
    refine own_FinV.step (fun _ => XS.ifNo X125.here hx rfl (hb hby at_81) rfl (XT.i0_eq_f (by decide : ¬ ((1 : Int32) = (0 : Int32))))) ?_
    show own_FinV p e below s _ _ _ (T125.setTop (mkF m 84 #[.val (.int p1), .val (.int p2), .val (.int p3), .val (.int (p2 &&& (3 : Int32))), .val (.int (202 : Int32)), .val (.ref b125), .val (.int (1 : Int32)), .val (.int (10 : Int32)), .unset, .unset, .unset, .unset, .unset, .unset, .unset, .unset, .unset, .unset, .unset, .unset] []))
    refine own_FinV.step (fun _ => XS.iload X125.here hx rfl (hb hby at_84) rfl) ?_
    show own_FinV p e below s _ _ _ (T125.setTop (mkF m 86 #[.val (.int p1), .val (.int p2), .val (.int p3), .val (.int (p2 &&& (3 : Int32))), .val (.int (202 : Int32)), .val (.ref b125), .val (.int (1 : Int32)), .val (.int (10 : Int32)), .unset, .unset, .unset, .unset, .unset, .unset, .unset, .unset, .unset, .unset, .unset, .unset] [(.int (10 : Int32))]))
    refine own_FinV.step (fun _ => XS.iconst X125.here hx rfl (hb hby at_86)) ?_
    show own_FinV p e below s _ _ _ (T125.setTop (mkF m 87 #[.val (.int p1), .val (.int p2), .val (.int p3), .val (.int (p2 &&& (3 : Int32))), .val (.int (202 : Int32)), .val (.ref b125), .val (.int (1 : Int32)), .val (.int (10 : Int32)), .unset, .unset, .unset, .unset, .unset, .unset, .unset, .unset, .unset, .unset, .unset, .unset] [(.int (4 : Int32)), (.int (10 : Int32))]))
    refine own_FinV.step (fun _ => XS.icmpNo X125.here hx rfl (hb hby at_87) rfl (XT.ii_eq_f (by decide : ¬ ((10 : Int32) = (4 : Int32))))) ?_
    show own_FinV p e below s _ _ _ (T125.setTop (mkF m 90 #[.val (.int p1), .val (.int p2), .val (.int p3), .val (.int (p2 &&& (3 : Int32))), .val (.int (202 : Int32)), .val (.ref b125), .val (.int (1 : Int32)), .val (.int (10 : Int32)), .unset, .unset, .unset, .unset, .unset, .unset, .unset, .unset, .unset, .unset, .unset, .unset] []))
    refine own_FinV.step (fun _ => XS.iload X125.here hx rfl (hb hby at_90) rfl) ?_
    show own_FinV p e below s _ _ _ (T125.setTop (mkF m 92 #[.val (.int p1), .val (.int p2), .val (.int p3), .val (.int (p2 &&& (3 : Int32))), .val (.int (202 : Int32)), .val (.ref b125), .val (.int (1 : Int32)), .val (.int (10 : Int32)), .unset, .unset, .unset, .unset, .unset, .unset, .unset, .unset, .unset, .unset, .unset, .unset] [(.int (10 : Int32))]))
    refine own_FinV.step (fun _ => XS.bipush X125.here hx rfl (hb hby at_92)) ?_
    show own_FinV p e below s _ _ _ (T125.setTop (mkF m 94 #[.val (.int p1), .val (.int p2), .val (.int p3), .val (.int (p2 &&& (3 : Int32))), .val (.int (202 : Int32)), .val (.ref b125), .val (.int (1 : Int32)), .val (.int (10 : Int32)), .unset, .unset, .unset, .unset, .unset, .unset, .unset, .unset, .unset, .unset, .unset, .unset] [(.int (8 : Int32)), (.int (10 : Int32))]))
    refine own_FinV.step (fun _ => XS.icmpNo X125.here hx rfl (hb hby at_94) rfl (XT.ii_eq_f (by decide : ¬ ((10 : Int32) = (8 : Int32))))) ?_
    show own_FinV p e below s _ _ _ (T125.setTop (mkF m 97 #[.val (.int p1), .val (.int p2), .val (.int p3), .val (.int (p2 &&& (3 : Int32))), .val (.int (202 : Int32)), .val (.ref b125), .val (.int (1 : Int32)), .val (.int (10 : Int32)), .unset, .unset, .unset, .unset, .unset, .unset, .unset, .unset, .unset, .unset, .unset, .unset] []))
    refine own_FinV.step (fun _ => XS.iload X125.here hx rfl (hb hby at_97) rfl) ?_
    show own_FinV p e below s _ _ _ (T125.setTop (mkF m 99 #[.val (.int p1), .val (.int p2), .val (.int p3), .val (.int (p2 &&& (3 : Int32))), .val (.int (202 : Int32)), .val (.ref b125), .val (.int (1 : Int32)), .val (.int (10 : Int32)), .unset, .unset, .unset, .unset, .unset, .unset, .unset, .unset, .unset, .unset, .unset, .unset] [(.int (10 : Int32))]))
    refine own_FinV.step (fun _ => XS.bipush X125.here hx rfl (hb hby at_99)) ?_
    show own_FinV p e below s _ _ _ (T125.setTop (mkF m 101 #[.val (.int p1), .val (.int p2), .val (.int p3), .val (.int (p2 &&& (3 : Int32))), .val (.int (202 : Int32)), .val (.ref b125), .val (.int (1 : Int32)), .val (.int (10 : Int32)), .unset, .unset, .unset, .unset, .unset, .unset, .unset, .unset, .unset, .unset, .unset, .unset] [(.int (12 : Int32)), (.int (10 : Int32))]))
    refine own_FinV.step (fun _ => XS.icmpNo X125.here hx rfl (hb hby at_101) rfl (XT.ii_eq_f (by decide : ¬ ((10 : Int32) = (12 : Int32))))) ?_
    show own_FinV p e below s _ _ _ (T125.setTop (mkF m 104 #[.val (.int p1), .val (.int p2), .val (.int p3), .val (.int (p2 &&& (3 : Int32))), .val (.int (202 : Int32)), .val (.ref b125), .val (.int (1 : Int32)), .val (.int (10 : Int32)), .unset, .unset, .unset, .unset, .unset, .unset, .unset, .unset, .unset, .unset, .unset, .unset] []))
    refine own_FinV.step (fun _ => XS.iconst X125.here hx rfl (hb hby at_104)) ?_
    show own_FinV p e below s _ _ _ (T125.setTop (mkF m 105 #[.val (.int p1), .val (.int p2), .val (.int p3), .val (.int (p2 &&& (3 : Int32))), .val (.int (202 : Int32)), .val (.ref b125), .val (.int (1 : Int32)), .val (.int (10 : Int32)), .unset, .unset, .unset, .unset, .unset, .unset, .unset, .unset, .unset, .unset, .unset, .unset] [(.int (1 : Int32))]))
    refine own_FinV.step (fun _ => XS.goto X125.here hx rfl (pc0 := 105) (pc' := 109) rfl (hb hby at_105) (by decide) (by decide)) ?_
    show own_FinV p e below s _ _ _ (T125.setTop (mkF m 109 #[.val (.int p1), .val (.int p2), .val (.int p3), .val (.int (p2 &&& (3 : Int32))), .val (.int (202 : Int32)), .val (.ref b125), .val (.int (1 : Int32)), .val (.int (10 : Int32)), .unset, .unset, .unset, .unset, .unset, .unset, .unset, .unset, .unset, .unset, .unset, .unset] [(.int (1 : Int32))]))
    refine own_FinV.step (fun _ => XS.istore X125.here hx rfl (hb hby at_109) rfl (l' := #[.val (.int p1), .val (.int p2), .val (.int p3), .val (.int (p2 &&& (3 : Int32))), .val (.int (202 : Int32)), .val (.ref b125), .val (.int (1 : Int32)), .val (.int (10 : Int32)), .val (.int (1 : Int32)), .unset, .unset, .unset, .unset, .unset, .unset, .unset, .unset, .unset, .unset, .unset]) rfl) ?_
    show own_FinV p e below s _ _ _ (T125.setTop (mkF m 111 #[.val (.int p1), .val (.int p2), .val (.int p3), .val (.int (p2 &&& (3 : Int32))), .val (.int (202 : Int32)), .val (.ref b125), .val (.int (1 : Int32)), .val (.int (10 : Int32)), .val (.int (1 : Int32)), .unset, .unset, .unset, .unset, .unset, .unset, .unset, .unset, .unset, .unset, .unset] []))
    refine own_FinV.step (fun _ => XS.iload X125.here hx rfl (hb hby at_111) rfl) ?_
    show own_FinV p e below s _ _ _ (T125.setTop (mkF m 113 #[.val (.int p1), .val (.int p2), .val (.int p3), .val (.int (p2 &&& (3 : Int32))), .val (.int (202 : Int32)), .val (.ref b125), .val (.int (1 : Int32)), .val (.int (10 : Int32)), .val (.int (1 : Int32)), .unset, .unset, .unset, .unset, .unset, .unset, .unset, .unset, .unset, .unset, .unset] [(.int (1 : Int32))]))
    refine own_FinV.step (fun _ => XS.ifYes X125.here hx rfl (pc0 := 113) (pc' := 127) rfl (hb hby at_113) rfl (XT.i0_ne_t (by decide : ¬ ((1 : Int32) = (0 : Int32)))) (by decide) (by decide)) ?_
    show own_FinV p e below s _ _ _ (T125.setTop (mkF m 127 #[.val (.int p1), .val (.int p2), .val (.int p3), .val (.int (p2 &&& (3 : Int32))), .val (.int (202 : Int32)), .val (.ref b125), .val (.int (1 : Int32)), .val (.int (10 : Int32)), .val (.int (1 : Int32)), .unset, .unset, .unset, .unset, .unset, .unset, .unset, .unset, .unset, .unset, .unset] []))
    refine own_FinV.step (fun _ => XS.aload X125.here hx rfl (hb hby at_127) rfl rfl) ?_
    show own_FinV p e below s _ _ _ (T125.setTop (mkF m 129 #[.val (.int p1), .val (.int p2), .val (.int p3), .val (.int (p2 &&& (3 : Int32))), .val (.int (202 : Int32)), .val (.ref b125), .val (.int (1 : Int32)), .val (.int (10 : Int32)), .val (.int (1 : Int32)), .unset, .unset, .unset, .unset, .unset, .unset, .unset, .unset, .unset, .unset, .unset] [(.ref b125)]))
    refine own_FinV.step (fun _ => XS.ifnonnullYes X125.here hx rfl (pc0 := 129) (pc' := 134) rfl (hb hby at_129) rfl (by decide) (by decide)) ?_
    show own_FinV p e below s _ _ _ (T125.setTop (mkF m 134 #[.val (.int p1), .val (.int p2), .val (.int p3), .val (.int (p2 &&& (3 : Int32))), .val (.int (202 : Int32)), .val (.ref b125), .val (.int (1 : Int32)), .val (.int (10 : Int32)), .val (.int (1 : Int32)), .unset, .unset, .unset, .unset, .unset, .unset, .unset, .unset, .unset, .unset, .unset] []))
    refine own_FinV.step (fun _ => XS.iload X125.here hx rfl (hb hby at_134) rfl) ?_
    show own_FinV p e below s _ _ _ (T125.setTop (mkF m 136 #[.val (.int p1), .val (.int p2), .val (.int p3), .val (.int (p2 &&& (3 : Int32))), .val (.int (202 : Int32)), .val (.ref b125), .val (.int (1 : Int32)), .val (.int (10 : Int32)), .val (.int (1 : Int32)), .unset, .unset, .unset, .unset, .unset, .unset, .unset, .unset, .unset, .unset, .unset] [(.int (10 : Int32))]))
    refine own_FinV.step (fun _ => XS.iconst X125.here hx rfl (hb hby at_136)) ?_
    show own_FinV p e below s _ _ _ (T125.setTop (mkF m 137 #[.val (.int p1), .val (.int p2), .val (.int p3), .val (.int (p2 &&& (3 : Int32))), .val (.int (202 : Int32)), .val (.ref b125), .val (.int (1 : Int32)), .val (.int (10 : Int32)), .val (.int (1 : Int32)), .unset, .unset, .unset, .unset, .unset, .unset, .unset, .unset, .unset, .unset, .unset] [(.int (4 : Int32)), (.int (10 : Int32))]))
    refine own_FinV.step (fun _ => XS.iand X125.here hx rfl (hb hby at_137) rfl) ?_
    show own_FinV p e below s _ _ _ (T125.setTop (mkF m 138 #[.val (.int p1), .val (.int p2), .val (.int p3), .val (.int (p2 &&& (3 : Int32))), .val (.int (202 : Int32)), .val (.ref b125), .val (.int (1 : Int32)), .val (.int (10 : Int32)), .val (.int (1 : Int32)), .unset, .unset, .unset, .unset, .unset, .unset, .unset, .unset, .unset, .unset, .unset] [(.int (0 : Int32))]))
    refine own_FinV.step (fun _ => XS.ifYes X125.here hx rfl (pc0 := 138) (pc' := 145) rfl (hb hby at_138) rfl (XT.i0_eq_t (by decide : (0 : Int32) = (0 : Int32))) (by decide) (by decide)) ?_
    show own_FinV p e below s _ _ _ (T125.setTop (mkF m 145 #[.val (.int p1), .val (.int p2), .val (.int p3), .val (.int (p2 &&& (3 : Int32))), .val (.int (202 : Int32)), .val (.ref b125), .val (.int (1 : Int32)), .val (.int (10 : Int32)), .val (.int (1 : Int32)), .unset, .unset, .unset, .unset, .unset, .unset, .unset, .unset, .unset, .unset, .unset] []))
    refine own_FinV.step (fun _ => XS.iconst X125.here hx rfl (hb hby at_145)) ?_
    show own_FinV p e below s _ _ _ (T125.setTop (mkF m 146 #[.val (.int p1), .val (.int p2), .val (.int p3), .val (.int (p2 &&& (3 : Int32))), .val (.int (202 : Int32)), .val (.ref b125), .val (.int (1 : Int32)), .val (.int (10 : Int32)), .val (.int (1 : Int32)), .unset, .unset, .unset, .unset, .unset, .unset, .unset, .unset, .unset, .unset, .unset] [(.int (0 : Int32))]))
    refine own_FinV.step (fun _ => XS.istore X125.here hx rfl (hb hby at_146) rfl (l' := #[.val (.int p1), .val (.int p2), .val (.int p3), .val (.int (p2 &&& (3 : Int32))), .val (.int (202 : Int32)), .val (.ref b125), .val (.int (1 : Int32)), .val (.int (10 : Int32)), .val (.int (1 : Int32)), .val (.int (0 : Int32)), .unset, .unset, .unset, .unset, .unset, .unset, .unset, .unset, .unset, .unset]) rfl) ?_
    show own_FinV p e below s _ _ _ (T125.setTop (mkF m 148 #[.val (.int p1), .val (.int p2), .val (.int p3), .val (.int (p2 &&& (3 : Int32))), .val (.int (202 : Int32)), .val (.ref b125), .val (.int (1 : Int32)), .val (.int (10 : Int32)), .val (.int (1 : Int32)), .val (.int (0 : Int32)), .unset, .unset, .unset, .unset, .unset, .unset, .unset, .unset, .unset, .unset] []))
    refine own_FinV.step (fun _ => XS.iload X125.here hx rfl (hb hby at_148) rfl) ?_
    show own_FinV p e below s _ _ _ (T125.setTop (mkF m 150 #[.val (.int p1), .val (.int p2), .val (.int p3), .val (.int (p2 &&& (3 : Int32))), .val (.int (202 : Int32)), .val (.ref b125), .val (.int (1 : Int32)), .val (.int (10 : Int32)), .val (.int (1 : Int32)), .val (.int (0 : Int32)), .unset, .unset, .unset, .unset, .unset, .unset, .unset, .unset, .unset, .unset] [(.int (10 : Int32))]))
    refine own_FinV.step (fun _ => XS.bipush X125.here hx rfl (hb hby at_150)) ?_
    show own_FinV p e below s _ _ _ (T125.setTop (mkF m 152 #[.val (.int p1), .val (.int p2), .val (.int p3), .val (.int (p2 &&& (3 : Int32))), .val (.int (202 : Int32)), .val (.ref b125), .val (.int (1 : Int32)), .val (.int (10 : Int32)), .val (.int (1 : Int32)), .val (.int (0 : Int32)), .unset, .unset, .unset, .unset, .unset, .unset, .unset, .unset, .unset, .unset] [(.int (8 : Int32)), (.int (10 : Int32))]))
    refine own_FinV.step (fun _ => XS.iand X125.here hx rfl (hb hby at_152) rfl) ?_
    show own_FinV p e below s _ _ _ (T125.setTop (mkF m 153 #[.val (.int p1), .val (.int p2), .val (.int p3), .val (.int (p2 &&& (3 : Int32))), .val (.int (202 : Int32)), .val (.ref b125), .val (.int (1 : Int32)), .val (.int (10 : Int32)), .val (.int (1 : Int32)), .val (.int (0 : Int32)), .unset, .unset, .unset, .unset, .unset, .unset, .unset, .unset, .unset, .unset] [(.int (8 : Int32))]))
    refine own_FinV.step (fun _ => XS.ifNo X125.here hx rfl (hb hby at_153) rfl (XT.i0_eq_f (by decide : ¬ ((8 : Int32) = (0 : Int32))))) ?_
    show own_FinV p e below s _ _ _ (T125.setTop (mkF m 156 #[.val (.int p1), .val (.int p2), .val (.int p3), .val (.int (p2 &&& (3 : Int32))), .val (.int (202 : Int32)), .val (.ref b125), .val (.int (1 : Int32)), .val (.int (10 : Int32)), .val (.int (1 : Int32)), .val (.int (0 : Int32)), .unset, .unset, .unset, .unset, .unset, .unset, .unset, .unset, .unset, .unset] []))
    refine own_FinV.step (fun _ => XS.iconst X125.here hx rfl (hb hby at_156)) ?_
    show own_FinV p e below s _ _ _ (T125.setTop (mkF m 157 #[.val (.int p1), .val (.int p2), .val (.int p3), .val (.int (p2 &&& (3 : Int32))), .val (.int (202 : Int32)), .val (.ref b125), .val (.int (1 : Int32)), .val (.int (10 : Int32)), .val (.int (1 : Int32)), .val (.int (0 : Int32)), .unset, .unset, .unset, .unset, .unset, .unset, .unset, .unset, .unset, .unset] [(.int (1 : Int32))]))
    refine own_FinV.step (fun _ => XS.goto X125.here hx rfl (pc0 := 157) (pc' := 161) rfl (hb hby at_157) (by decide) (by decide)) ?_
    show own_FinV p e below s _ _ _ (T125.setTop (mkF m 161 #[.val (.int p1), .val (.int p2), .val (.int p3), .val (.int (p2 &&& (3 : Int32))), .val (.int (202 : Int32)), .val (.ref b125), .val (.int (1 : Int32)), .val (.int (10 : Int32)), .val (.int (1 : Int32)), .val (.int (0 : Int32)), .unset, .unset, .unset, .unset, .unset, .unset, .unset, .unset, .unset, .unset] [(.int (1 : Int32))]))
    refine own_FinV.step (fun _ => XS.istore X125.here hx rfl (hb hby at_161) rfl (l' := #[.val (.int p1), .val (.int p2), .val (.int p3), .val (.int (p2 &&& (3 : Int32))), .val (.int (202 : Int32)), .val (.ref b125), .val (.int (1 : Int32)), .val (.int (10 : Int32)), .val (.int (1 : Int32)), .val (.int (0 : Int32)), .val (.int (1 : Int32)), .unset, .unset, .unset, .unset, .unset, .unset, .unset, .unset, .unset]) rfl) ?_
    show own_FinV p e below s _ _ _ (T125.setTop (mkF m 163 #[.val (.int p1), .val (.int p2), .val (.int p3), .val (.int (p2 &&& (3 : Int32))), .val (.int (202 : Int32)), .val (.ref b125), .val (.int (1 : Int32)), .val (.int (10 : Int32)), .val (.int (1 : Int32)), .val (.int (0 : Int32)), .val (.int (1 : Int32)), .unset, .unset, .unset, .unset, .unset, .unset, .unset, .unset, .unset] []))
    refine own_FinV.step (fun _ => XS.iload X125.here hx rfl (hb hby at_163) rfl) ?_
    show own_FinV p e below s _ _ _ (T125.setTop (mkF m 165 #[.val (.int p1), .val (.int p2), .val (.int p3), .val (.int (p2 &&& (3 : Int32))), .val (.int (202 : Int32)), .val (.ref b125), .val (.int (1 : Int32)), .val (.int (10 : Int32)), .val (.int (1 : Int32)), .val (.int (0 : Int32)), .val (.int (1 : Int32)), .unset, .unset, .unset, .unset, .unset, .unset, .unset, .unset, .unset] [(.int (10 : Int32))]))
    refine own_FinV.step (fun _ => XS.iconst X125.here hx rfl (hb hby at_165)) ?_
    show own_FinV p e below s _ _ _ (T125.setTop (mkF m 166 #[.val (.int p1), .val (.int p2), .val (.int p3), .val (.int (p2 &&& (3 : Int32))), .val (.int (202 : Int32)), .val (.ref b125), .val (.int (1 : Int32)), .val (.int (10 : Int32)), .val (.int (1 : Int32)), .val (.int (0 : Int32)), .val (.int (1 : Int32)), .unset, .unset, .unset, .unset, .unset, .unset, .unset, .unset, .unset] [(.int (3 : Int32)), (.int (10 : Int32))]))
    refine own_FinV.step (fun _ => XS.iand X125.here hx rfl (hb hby at_166) rfl) ?_
    show own_FinV p e below s _ _ _ (T125.setTop (mkF m 167 #[.val (.int p1), .val (.int p2), .val (.int p3), .val (.int (p2 &&& (3 : Int32))), .val (.int (202 : Int32)), .val (.ref b125), .val (.int (1 : Int32)), .val (.int (10 : Int32)), .val (.int (1 : Int32)), .val (.int (0 : Int32)), .val (.int (1 : Int32)), .unset, .unset, .unset, .unset, .unset, .unset, .unset, .unset, .unset] [(.int (2 : Int32))]))
    refine own_FinV.step (fun _ => XS.istore X125.here hx rfl (hb hby at_167) rfl (l' := #[.val (.int p1), .val (.int p2), .val (.int p3), .val (.int (p2 &&& (3 : Int32))), .val (.int (202 : Int32)), .val (.ref b125), .val (.int (1 : Int32)), .val (.int (10 : Int32)), .val (.int (1 : Int32)), .val (.int (0 : Int32)), .val (.int (1 : Int32)), .val (.int (2 : Int32)), .unset, .unset, .unset, .unset, .unset, .unset, .unset, .unset]) rfl) ?_
    show own_FinV p e below s _ _ _ (T125.setTop (mkF m 169 #[.val (.int p1), .val (.int p2), .val (.int p3), .val (.int (p2 &&& (3 : Int32))), .val (.int (202 : Int32)), .val (.ref b125), .val (.int (1 : Int32)), .val (.int (10 : Int32)), .val (.int (1 : Int32)), .val (.int (0 : Int32)), .val (.int (1 : Int32)), .val (.int (2 : Int32)), .unset, .unset, .unset, .unset, .unset, .unset, .unset, .unset] []))
    refine own_FinV.step (fun _ => XS.iload X125.here hx rfl (hb hby at_169) rfl) ?_
    show own_FinV p e below s _ _ _ (T125.setTop (mkF m 171 #[.val (.int p1), .val (.int p2), .val (.int p3), .val (.int (p2 &&& (3 : Int32))), .val (.int (202 : Int32)), .val (.ref b125), .val (.int (1 : Int32)), .val (.int (10 : Int32)), .val (.int (1 : Int32)), .val (.int (0 : Int32)), .val (.int (1 : Int32)), .val (.int (2 : Int32)), .unset, .unset, .unset, .unset, .unset, .unset, .unset, .unset] [(.int (0 : Int32))]))
    refine own_FinV.step (fun _ => XS.ifYes X125.here hx rfl (pc0 := 171) (pc' := 179) rfl (hb hby at_171) rfl (XT.i0_eq_t (by decide : (0 : Int32) = (0 : Int32))) (by decide) (by decide)) ?_
    show own_FinV p e below s _ _ _ (T125.setTop (mkF m 179 #[.val (.int p1), .val (.int p2), .val (.int p3), .val (.int (p2 &&& (3 : Int32))), .val (.int (202 : Int32)), .val (.ref b125), .val (.int (1 : Int32)), .val (.int (10 : Int32)), .val (.int (1 : Int32)), .val (.int (0 : Int32)), .val (.int (1 : Int32)), .val (.int (2 : Int32)), .unset, .unset, .unset, .unset, .unset, .unset, .unset, .unset] []))
    obtain ⟨b127, T127, h127, k127, X127, e127, E127, hS127, hk127, hZ127, hown127, St127, C127, st127⟩ := own_ldcV (s := s) (vm0 := T125.vm) X125 hx hZ hown (own_w hw 12 rfl) own_wS rfl hS hk hEL (List.mem_of_getElem? (i := 14) rfl) C125 (by decide) (g := (mkF m 179 #[.val (.int p1), .val (.int p2), .val (.int p3), .val (.int (p2 &&& (3 : Int32))), .val (.int (202 : Int32)), .val (.ref b125), .val (.int (1 : Int32)), .val (.int (10 : Int32)), .val (.int (1 : Int32)), .val (.int (0 : Int32)), .val (.int (1 : Int32)), .val (.int (2 : Int32)), .unset, .unset, .unset, .unset, .unset, .unset, .unset, .unset] [])) rfl (hb hby at_179) (n := 0) (by decide) (by decide) (by decide) (by decide)
    have hS := hS127
    have hk := hk127
    have hZ := hZ127
    have hown := hown127
    have f128 := f126.ext E127
    have f129 := St125.ext E127
    have Z127 : n0 ≤ h127.size := Nat.le_trans Z125 E127.1
    refine own_FinV.step st127 ?_
    show own_FinV p e below s _ _ _ (T127.setTop (mkF m 181 #[.val (.int p1), .val (.int p2), .val (.int p3), .val (.int (p2 &&& (3 : Int32))), .val (.int (202 : Int32)), .val (.ref b125), .val (.int (1 : Int32)), .val (.int (10 : Int32)), .val (.int (1 : Int32)), .val (.int (0 : Int32)), .val (.int (1 : Int32)), .val (.int (2 : Int32)), .unset, .unset, .unset, .unset, .unset, .unset, .unset, .unset] [(.ref b127)]))
    refine own_FinV.step (fun _ => XS.astore X127.here hx rfl (hb hby at_181) rfl rfl (l' := #[.val (.int p1), .val (.int p2), .val (.int p3), .val (.int (p2 &&& (3 : Int32))), .val (.int (202 : Int32)), .val (.ref b125), .val (.int (1 : Int32)), .val (.int (10 : Int32)), .val (.int (1 : Int32)), .val (.int (0 : Int32)), .val (.int (1 : Int32)), .val (.int (2 : Int32)), .val (.ref b127), .unset, .unset, .unset, .unset, .unset, .unset, .unset]) rfl) ?_
    show own_FinV p e below s _ _ _ (T127.setTop (mkF m 183 #[.val (.int p1), .val (.int p2), .val (.int p3), .val (.int (p2 &&& (3 : Int32))), .val (.int (202 : Int32)), .val (.ref b125), .val (.int (1 : Int32)), .val (.int (10 : Int32)), .val (.int (1 : Int32)), .val (.int (0 : Int32)), .val (.int (1 : Int32)), .val (.int (2 : Int32)), .val (.ref b127), .unset, .unset, .unset, .unset, .unset, .unset, .unset] []))
    refine own_FinV.step (fun _ => XS.iload X127.here hx rfl (hb hby at_183) rfl) ?_
    show own_FinV p e below s _ _ _ (T127.setTop (mkF m 185 #[.val (.int p1), .val (.int p2), .val (.int p3), .val (.int (p2 &&& (3 : Int32))), .val (.int (202 : Int32)), .val (.ref b125), .val (.int (1 : Int32)), .val (.int (10 : Int32)), .val (.int (1 : Int32)), .val (.int (0 : Int32)), .val (.int (1 : Int32)), .val (.int (2 : Int32)), .val (.ref b127), .unset, .unset, .unset, .unset, .unset, .unset, .unset] [(.int (2 : Int32))]))
    refine own_FinV.step (fun _ => XS.ifYes X127.here hx rfl (pc0 := 185) (pc' := 195) rfl (hb hby at_185) rfl (XT.i0_ne_t (by decide : ¬ ((2 : Int32) = (0 : Int32)))) (by decide) (by decide)) ?_
    show own_FinV p e below s _ _ _ (T127.setTop (mkF m 195 #[.val (.int p1), .val (.int p2), .val (.int p3), .val (.int (p2 &&& (3 : Int32))), .val (.int (202 : Int32)), .val (.ref b125), .val (.int (1 : Int32)), .val (.int (10 : Int32)), .val (.int (1 : Int32)), .val (.int (0 : Int32)), .val (.int (1 : Int32)), .val (.int (2 : Int32)), .val (.ref b127), .unset, .unset, .unset, .unset, .unset, .unset, .unset] []))
    refine own_FinV.step (fun _ => XS.iload X127.here hx rfl (hb hby at_195) rfl) ?_
    show own_FinV p e below s _ _ _ (T127.setTop (mkF m 197 #[.val (.int p1), .val (.int p2), .val (.int p3), .val (.int (p2 &&& (3 : Int32))), .val (.int (202 : Int32)), .val (.ref b125), .val (.int (1 : Int32)), .val (.int (10 : Int32)), .val (.int (1 : Int32)), .val (.int (0 : Int32)), .val (.int (1 : Int32)), .val (.int (2 : Int32)), .val (.ref b127), .unset, .unset, .unset, .unset, .unset, .unset, .unset] [(.int (2 : Int32))]))
    refine own_FinV.step (fun _ => XS.iconst X127.here hx rfl (hb hby at_197)) ?_
    show own_FinV p e below s _ _ _ (T127.setTop (mkF m 198 #[.val (.int p1), .val (.int p2), .val (.int p3), .val (.int (p2 &&& (3 : Int32))), .val (.int (202 : Int32)), .val (.ref b125), .val (.int (1 : Int32)), .val (.int (10 : Int32)), .val (.int (1 : Int32)), .val (.int (0 : Int32)), .val (.int (1 : Int32)), .val (.int (2 : Int32)), .val (.ref b127), .unset, .unset, .unset, .unset, .unset, .unset, .unset] [(.int (1 : Int32)), (.int (2 : Int32))]))
    refine own_FinV.step (fun _ => XS.icmpYes X127.here hx rfl (pc0 := 198) (pc' := 218) rfl (hb hby at_198) rfl (XT.ii_ne_t (by decide : ¬ ((2 : Int32) = (1 : Int32)))) (by decide) (by decide)) ?_
    show own_FinV p e below s _ _ _ (T127.setTop (mkF m 218 #[.val (.int p1), .val (.int p2), .val (.int p3), .val (.int (p2 &&& (3 : Int32))), .val (.int (202 : Int32)), .val (.ref b125), .val (.int (1 : Int32)), .val (.int (10 : Int32)), .val (.int (1 : Int32)), .val (.int (0 : Int32)), .val (.int (1 : Int32)), .val (.int (2 : Int32)), .val (.ref b127), .unset, .unset, .unset, .unset, .unset, .unset, .unset] []))
    refine own_FinV.step (fun _ => XS.iload X127.here hx rfl (hb hby at_218) rfl) ?_
    show own_FinV p e below s _ _ _ (T127.setTop (mkF m 220 #[.val (.int p1), .val (.int p2), .val (.int p3), .val (.int (p2 &&& (3 : Int32))), .val (.int (202 : Int32)), .val (.ref b125), .val (.int (1 : Int32)), .val (.int (10 : Int32)), .val (.int (1 : Int32)), .val (.int (0 : Int32)), .val (.int (1 : Int32)), .val (.int (2 : Int32)), .val (.ref b127), .unset, .unset, .unset, .unset, .unset, .unset, .unset] [(.int (2 : Int32))]))
    refine own_FinV.step (fun _ => XS.iconst X127.here hx rfl (hb hby at_220)) ?_
    show own_FinV p e below s _ _ _ (T127.setTop (mkF m 221 #[.val (.int p1), .val (.int p2), .val (.int p3), .val (.int (p2 &&& (3 : Int32))), .val (.int (202 : Int32)), .val (.ref b125), .val (.int (1 : Int32)), .val (.int (10 : Int32)), .val (.int (1 : Int32)), .val (.int (0 : Int32)), .val (.int (1 : Int32)), .val (.int (2 : Int32)), .val (.ref b127), .unset, .unset, .unset, .unset, .unset, .unset, .unset] [(.int (2 : Int32)), (.int (2 : Int32))]))
    refine own_FinV.step (fun _ => XS.icmpNo X127.here hx rfl (hb hby at_221) rfl (XT.ii_ne_f (by decide : (2 : Int32) = (2 : Int32)))) ?_
    show own_FinV p e below s _ _ _ (T127.setTop (mkF m 224 #[.val (.int p1), .val (.int p2), .val (.int p3), .val (.int (p2 &&& (3 : Int32))), .val (.int (202 : Int32)), .val (.ref b125), .val (.int (1 : Int32)), .val (.int (10 : Int32)), .val (.int (1 : Int32)), .val (.int (0 : Int32)), .val (.int (1 : Int32)), .val (.int (2 : Int32)), .val (.ref b127), .unset, .unset, .unset, .unset, .unset, .unset, .unset] []))
    obtain ⟨b130, T130, h130, k130, X130, e130, E130, hS130, hk130, hZ130, hown130, St130, C130, st130⟩ := own_ldcV (s := s) (vm0 := T127.vm) X127 hx hZ hown (own_w hw 51 rfl) own_wS e127 hS hk hEL (List.mem_of_getElem? (i := 18) rfl) C127 (by decide) (g := (mkF m 224 #[.val (.int p1), .val (.int p2), .val (.int p3), .val (.int (p2 &&& (3 : Int32))), .val (.int (202 : Int32)), .val (.ref b125), .val (.int (1 : Int32)), .val (.int (10 : Int32)), .val (.int (1 : Int32)), .val (.int (0 : Int32)), .val (.int (1 : Int32)), .val (.int (2 : Int32)), .val (.ref b127), .unset, .unset, .unset, .unset, .unset, .unset, .unset] [])) rfl (hb hby at_224) (n := 44) (by decide) (by decide) (by decide) (by decide)
    have hS := hS130
    have hk := hk130
    have hZ := hZ130
    have hown := hown130
    have f131 := f128.ext E130
    have f132 := f129.ext E130
    have f133 := St127.ext E130
    have Z130 : n0 ≤ h130.size := Nat.le_trans Z127 E130.1
    refine own_FinV.step st130 ?_
    show own_FinV p e below s _ _ _ (T130.setTop (mkF m 226 #[.val (.int p1), .val (.int p2), .val (.int p3), .val (.int (p2 &&& (3 : Int32))), .val (.int (202 : Int32)), .val (.ref b125), .val (.int (1 : Int32)), .val (.int (10 : Int32)), .val (.int (1 : Int32)), .val (.int (0 : Int32)), .val (.int (1 : Int32)), .val (.int (2 : Int32)), .val (.ref b127), .unset, .unset, .unset, .unset, .unset, .unset, .unset] [(.ref b130)]))
    refine own_FinV.step (fun _ => XS.astore X130.here hx rfl (hb hby at_226) rfl rfl (l' := #[.val (.int p1), .val (.int p2), .val (.int p3), .val (.int (p2 &&& (3 : Int32))), .val (.int (202 : Int32)), .val (.ref b125), .val (.int (1 : Int32)), .val (.int (10 : Int32)), .val (.int (1 : Int32)), .val (.int (0 : Int32)), .val (.int (1 : Int32)), .val (.int (2 : Int32)), .val (.ref b127), .val (.ref b130), .unset, .unset, .unset, .unset, .unset, .unset]) rfl) ?_
    show own_FinV p e below s _ _ _ (T130.setTop (mkF m 228 #[.val (.int p1), .val (.int p2), .val (.int p3), .val (.int (p2 &&& (3 : Int32))), .val (.int (202 : Int32)), .val (.ref b125), .val (.int (1 : Int32)), .val (.int (10 : Int32)), .val (.int (1 : Int32)), .val (.int (0 : Int32)), .val (.int (1 : Int32)), .val (.int (2 : Int32)), .val (.ref b127), .val (.ref b130), .unset, .unset, .unset, .unset, .unset, .unset] []))
    refine own_FinV.step (fun _ => XS.goto X130.here hx rfl (pc0 := 228) (pc' := 235) rfl (hb hby at_228) (by decide) (by decide)) ?_
    show own_FinV p e below s _ _ _ (T130.setTop (mkF m 235 #[.val (.int p1), .val (.int p2), .val (.int p3), .val (.int (p2 &&& (3 : Int32))), .val (.int (202 : Int32)), .val (.ref b125), .val (.int (1 : Int32)), .val (.int (10 : Int32)), .val (.int (1 : Int32)), .val (.int (0 : Int32)), .val (.int (1 : Int32)), .val (.int (2 : Int32)), .val (.ref b127), .val (.ref b130), .unset, .unset, .unset, .unset, .unset, .unset] []))
    refine own_FinV.step (fun _ => XS.iload X130.here hx rfl (hb hby at_235) rfl) ?_
    show own_FinV p e below s _ _ _ (T130.setTop (mkF m 237 #[.val (.int p1), .val (.int p2), .val (.int p3), .val (.int (p2 &&& (3 : Int32))), .val (.int (202 : Int32)), .val (.ref b125), .val (.int (1 : Int32)), .val (.int (10 : Int32)), .val (.int (1 : Int32)), .val (.int (0 : Int32)), .val (.int (1 : Int32)), .val (.int (2 : Int32)), .val (.ref b127), .val (.ref b130), .unset, .unset, .unset, .unset, .unset, .unset] [(.int (1 : Int32))]))
    refine own_FinV.step (fun _ => XS.ifNo X130.here hx rfl (hb hby at_237) rfl (XT.i0_eq_f (by decide : ¬ ((1 : Int32) = (0 : Int32))))) ?_
    show own_FinV p e below s _ _ _ (T130.setTop (mkF m 240 #[.val (.int p1), .val (.int p2), .val (.int p3), .val (.int (p2 &&& (3 : Int32))), .val (.int (202 : Int32)), .val (.ref b125), .val (.int (1 : Int32)), .val (.int (10 : Int32)), .val (.int (1 : Int32)), .val (.int (0 : Int32)), .val (.int (1 : Int32)), .val (.int (2 : Int32)), .val (.ref b127), .val (.ref b130), .unset, .unset, .unset, .unset, .unset, .unset] []))
    obtain ⟨b134, T134, h134, k134, X134, e134, E134, hS134, hk134, hZ134, hown134, St134, C134, st134⟩ := own_ldcV (s := s) (vm0 := T130.vm) X130 hx hZ hown (own_w hw 55 rfl) own_wS e130 hS hk hEL (List.mem_of_getElem? (i := 20) rfl) C130 (by decide) (g := (mkF m 240 #[.val (.int p1), .val (.int p2), .val (.int p3), .val (.int (p2 &&& (3 : Int32))), .val (.int (202 : Int32)), .val (.ref b125), .val (.int (1 : Int32)), .val (.int (10 : Int32)), .val (.int (1 : Int32)), .val (.int (0 : Int32)), .val (.int (1 : Int32)), .val (.int (2 : Int32)), .val (.ref b127), .val (.ref b130), .unset, .unset, .unset, .unset, .unset, .unset] [])) rfl (hb hby at_240) (n := 72) (by decide) (by decide) (by decide) (by decide)
    have hS := hS134
    have hk := hk134
    have hZ := hZ134
    have hown := hown134
    have f135 := f131.ext E134
    have f136 := f132.ext E134
    have f137 := f133.ext E134
    have f138 := St130.ext E134
    have Z134 : n0 ≤ h134.size := Nat.le_trans Z130 E134.1
    refine own_FinV.step st134 ?_
    show own_FinV p e below s _ _ _ (T134.setTop (mkF m 242 #[.val (.int p1), .val (.int p2), .val (.int p3), .val (.int (p2 &&& (3 : Int32))), .val (.int (202 : Int32)), .val (.ref b125), .val (.int (1 : Int32)), .val (.int (10 : Int32)), .val (.int (1 : Int32)), .val (.int (0 : Int32)), .val (.int (1 : Int32)), .val (.int (2 : Int32)), .val (.ref b127), .val (.ref b130), .unset, .unset, .unset, .unset, .unset, .unset] [(.ref b134)]))
    refine own_FinV.step (fun _ => XS.goto X134.here hx rfl (pc0 := 242) (pc' := 247) rfl (hb hby at_242) (by decide) (by decide)) ?_
    show own_FinV p e below s _ _ _ (T134.setTop (mkF m 247 #[.val (.int p1), .val (.int p2), .val (.int p3), .val (.int (p2 &&& (3 : Int32))), .val (.int (202 : Int32)), .val (.ref b125), .val (.int (1 : Int32)), .val (.int (10 : Int32)), .val (.int (1 : Int32)), .val (.int (0 : Int32)), .val (.int (1 : Int32)), .val (.int (2 : Int32)), .val (.ref b127), .val (.ref b130), .unset, .unset, .unset, .unset, .unset, .unset] [(.ref b134)]))
    refine own_FinV.step (fun _ => XS.astore X134.here hx rfl (hb hby at_247) rfl rfl (l' := #[.val (.int p1), .val (.int p2), .val (.int p3), .val (.int (p2 &&& (3 : Int32))), .val (.int (202 : Int32)), .val (.ref b125), .val (.int (1 : Int32)), .val (.int (10 : Int32)), .val (.int (1 : Int32)), .val (.int (0 : Int32)), .val (.int (1 : Int32)), .val (.int (2 : Int32)), .val (.ref b127), .val (.ref b130), .val (.ref b134), .unset, .unset, .unset, .unset, .unset]) rfl) ?_
    have hcat : own_bs "progressive, arithmetic-coded" = own_bs "" ++ own_bs "progressive" ++ own_bs ", arithmetic-coded" := by decide +kernel
    rw [hcat] at f136
    exact own_tail hw X134 hx hby hml hown hret hlk hZ Z134 N125 e134 hS hk C134 hcs rv f135 f136 f137 f138 St134 (by decide) (by decide) (by decide) (by decide) (by decide) (by decide)
  ·
    show own_FinV p e below s _ _ _ (s₁.setTop (mkF m 42 #[.val (.int p1), .val (.int p2), .val (.int p3), .val (.int (p2 &&& (3 : Int32))), .val (.int (203 : Int32)), .unset, .unset, .unset, .unset, .unset, .unset, .unset, .unset, .unset, .unset, .unset, .unset, .unset, .unset, .unset] []))
    refine own_FinV.step (fun _ => XS.iload X0.here hx rfl (hb hby at_42) rfl) ?_
    show own_FinV p e below s _ _ _ (s₁.setTop (mkF m 44 #[.val (.int p1), .val (.int p2), .val (.int p3), .val (.int (p2 &&& (3 : Int32))), .val (.int (203 : Int32)), .unset, .unset, .unset, .unset, .unset, .unset, .unset, .unset, .unset, .unset, .unset, .unset, .unset, .unset, .unset] [(.int (203 : Int32))]))
    obtain ⟨_, T139, L139, k139, X139, ⟨b139, rfl, N139q, E139, St139⟩, hS139, hk139, hZ139, hown139, C139, st139⟩ := own_callSV (s := s) (vm0 := s.vm) X0 hx hZ hown (own_w hw 0 rfl) (own_w hw 1 rfl) (own_w hw 2 rfl) (own_w hw 3 rfl) (by decide) (rm8_203 l Z a0 hw  h0 n0 Z0 ) (by decide) (by decide) hS hk hEL C0 e0 (W := 0) (g := (mkF m 44 #[.val (.int p1), .val (.int p2), .val (.int p3), .val (.int (p2 &&& (3 : Int32))), .val (.int (203 : Int32)), .unset, .unset, .unset, .unset, .unset, .unset, .unset, .unset, .unset, .unset, .unset, .unset, .unset, .unset, .unset] [(.int (203 : Int32))])) rfl (by rw [hml]; rfl) (argsL := [(.int (203 : Int32))]) (rest := []) (lenOf pd_7 rfl) rfl rfl (by show 2 * 0 + _ ≤ _; exact Nat.le_of_eq rfl) (hb hby at_44) (by decide) (by decide)
    have hS := hS139
    have hk := hk139
    have hZ := hZ139
    have hown := hown139
    have N139 := Fr.app N0 N139q
    have Z139 : n0 ≤ T139.heap.size := Nat.le_trans Z0 E139.1
    have f140 := SS.ext E139
    refine own_FinV.step st139 ?_
    show own_FinV p e below s _ _ _ (T139.setTop (mkF m 47 #[.val (.int p1), .val (.int p2), .val (.int p3), .val (.int (p2 &&& (3 : Int32))), .val (.int (203 : Int32)), .unset, .unset, .unset, .unset, .unset, .unset, .unset, .unset, .unset, .unset, .unset, .unset, .unset, .unset, .unset] [(.ref b139)]))
    refine own_FinV.step (fun _ => XS.astore X139.here hx rfl (hb hby at_47) rfl rfl (l' := #[.val (.int p1), .val (.int p2), .val (.int p3), .val (.int (p2 &&& (3 : Int32))), .val (.int (203 : Int32)), .val (.ref b139), .unset, .unset, .unset, .unset, .unset, .unset, .unset, .unset, .unset, .unset, .unset, .unset, .unset, .unset]) rfl) ?_
    show own_FinV p e below s _ _ _ (T139.setTop (mkF m 49 #[.val (.int p1), .val (.int p2), .val (.int p3), .val (.int (p2 &&& (3 : Int32))), .val (.int (203 : Int32)), .val (.ref b139), .unset, .unset, .unset, .unset, .unset, .unset, .unset, .unset, .unset, .unset, .unset, .unset, .unset, .unset] []))
    refine own_FinV.step (fun _ => XS.iload X139.here hx rfl (hb hby at_49) rfl) ?_
    show own_FinV p e below s _ _ _ (T139.setTop (mkF m 51 #[.val (.int p1), .val (.int p2), .val (.int p3), .val (.int (p2 &&& (3 : Int32))), .val (.int (203 : Int32)), .val (.ref b139), .unset, .unset, .unset, .unset, .unset, .unset, .unset, .unset, .unset, .unset, .unset, .unset, .unset, .unset] [(.int (203 : Int32))]))
    refine own_FinV.step (fun _ => XS.sipush X139.here hx rfl (hb hby at_51)) ?_
    show own_FinV p e below s _ _ _ (T139.setTop (mkF m 54 #[.val (.int p1), .val (.int p2), .val (.int p3), .val (.int (p2 &&& (3 : Int32))), .val (.int (203 : Int32)), .val (.ref b139), .unset, .unset, .unset, .unset, .unset, .unset, .unset, .unset, .unset, .unset, .unset, .unset, .unset, .unset] [(.int (192 : Int32)), (.int (203 : Int32))]))
    refine own_FinV.step (fun _ => XS.icmpNo X139.here hx rfl (hb hby at_54) rfl (XT.ii_lt_f (by decide : ¬ ((203 : Int32) < (192 : Int32))))) ?_
    show own_FinV p e below s _ _ _ (T139.setTop (mkF m 57 #[.val (.int p1), .val (.int p2), .val (.int p3), .val (.int (p2 &&& (3 : Int32))), .val (.int (203 : Int32)), .val (.ref b139), .unset, .unset, .unset, .unset, .unset, .unset, .unset, .unset, .unset, .unset, .unset, .unset, .unset, .unset] []))
    refine own_FinV.step (fun _ => XS.iload X139.here hx rfl (hb hby at_57) rfl) ?_
    show own_FinV p e below s _ _ _ (T139.setTop (mkF m 59 #[.val (.int p1), .val (.int p2), .val (.int p3), .val (.int (p2 &&& (3 : Int32))), .val (.int (203 : Int32)), .val (.ref b139), .unset, .unset, .unset, .unset, .unset, .unset, .unset, .unset, .unset, .unset, .unset, .unset, .unset, .unset] [(.int (203 : Int32))]))
    refine own_FinV.step (fun _ => XS.sipush X139.here hx rfl (hb hby at_59)) ?_
    show own_FinV p e below s _ _ _ (T139.setTop (mkF m 62 #[.val (.int p1), .val (.int p2), .val (.int p3), .val (.int (p2 &&& (3 : Int32))), .val (.int (203 : Int32)), .val (.ref b139), .unset, .unset, .unset, .unset, .unset, .unset, .unset, .unset, .unset, .unset, .unset, .unset, .unset, .unset] [(.int (207 : Int32)), (.int (203 : Int32))]))
    refine own_FinV.step (fun _ => XS.icmpNo X139.here hx rfl (hb hby at_62) rfl (XT.ii_gt_f (by decide : ¬ ((207 : Int32) < (203 : Int32))))) ?_
    show own_FinV p e below s _ _ _ (T139.setTop (mkF m 65 #[.val (.int p1), .val (.int p2), .val (.int p3), .val (.int (p2 &&& (3 : Int32))), .val (.int (203 : Int32)), .val (.ref b139), .unset, .unset, .unset, .unset, .unset, .unset, .unset, .unset, .unset, .unset, .unset, .unset, .unset, .unset] []))
    refine own_FinV.step (fun _ => XS.iconst X139.here hx rfl (hb hby at_65)) ?_
    show own_FinV p e below s _ _ _ (T139.setTop (mkF m 66 #[.val (.int p1), .val (.int p2), .val (.int p3), .val (.int (p2 &&& (3 : Int32))), .val (.int (203 : Int32)), .val (.ref b139), .unset, .unset, .unset, .unset, .unset, .unset, .unset, .unset, .unset, .unset, .unset, .unset, .unset, .unset] [(.int (1 : Int32))]))
    refine own_FinV.step (fun _ => XS.goto X139.here hx rfl (pc0 := 66) (pc' := 70) rfl (hb hby at_66) (by decide) (by decide)) ?_
    show own_FinV p e below s _ _ _ (T139.setTop (mkF m 70 #[.val (.int p1), .val (.int p2), .val (.int p3), .val (.int (p2 &&& (3 : Int32))), .val (.int (203 : Int32)), .val (.ref b139), .unset, .unset, .unset, .unset, .unset, .unset, .unset, .unset, .unset, .unset, .unset, .unset, .unset, .unset] [(.int (1 : Int32))]))
    refine own_FinV.step (fun _ => XS.istore X139.here hx rfl (hb hby at_70) rfl (l' := #[.val (.int p1), .val (.int p2), .val (.int p3), .val (.int (p2 &&& (3 : Int32))), .val (.int (203 : Int32)), .val (.ref b139), .val (.int (1 : Int32)), .unset, .unset, .unset, .unset, .unset, .unset, .unset, .unset, .unset, .unset, .unset, .unset, .unset]) rfl) ?_
    show own_FinV p e below s _ _ _ (T139.setTop (mkF m 72 #[.val (.int p1), .val (.int p2), .val (.int p3), .val (.int (p2 &&& (3 : Int32))), .val (.int (203 : Int32)), .val (.ref b139), .val (.int (1 : Int32)), .unset, .unset, .unset, .unset, .unset, .unset, .unset, .unset, .unset, .unset, .unset, .unset, .unset] []))
    refine own_FinV.step (fun _ => XS.iload X139.here hx rfl (hb hby at_72) rfl) ?_
    show own_FinV p e below s _ _ _ (T139.setTop (mkF m 74 #[.val (.int p1), .val (.int p2), .val (.int p3), .val (.int (p2 &&& (3 : Int32))), .val (.int (203 : Int32)), .val (.ref b139), .val (.int (1 : Int32)), .unset, .unset, .unset, .unset, .unset, .unset, .unset, .unset, .unset, .unset, .unset, .unset, .unset] [(.int (203 : Int32))]))
    refine own_FinV.step (fun _ => XS.bipush X139.here hx rfl (hb hby at_74)) ?_
    show own_FinV p e below s _ _ _ (T139.setTop (mkF m 76 #[.val (.int p1), .val (.int p2), .val (.int p3), .val (.int (p2 &&& (3 : Int32))), .val (.int (203 : Int32)), .val (.ref b139), .val (.int (1 : Int32)), .unset, .unset, .unset, .unset, .unset, .unset, .unset, .unset, .unset, .unset, .unset, .unset, .unset] [(.int (15 : Int32)), (.int (203 : Int32))]))
    refine own_FinV.step (fun _ => XS.iand X139.here hx rfl (hb hby at_76) rfl) ?_
    show own_FinV p e below s _ _ _ (T139.setTop (mkF m 77 #[.val (.int p1), .val (.int p2), .val (.int p3), .val (.int (p2 &&& (3 : Int32))), .val (.int (203 : Int32)), .val (.ref b139), .val (.int (1 : Int32)), .unset, .unset, .unset, .unset, .unset, .unset, .unset, .unset, .unset, .unset, .unset, .unset, .unset] [(.int (11 : Int32))]))
    refine own_FinV.step (fun _ => XS.istore X139.here hx rfl (hb hby at_77) rfl (l' := #[.val (.int p1), .val (.int p2), .val (.int p3), .val (.int (p2 &&& (3 : Int32))), .val (.int (203 : Int32)), .val (.ref b139), .val (.int (1 : Int32)), .val (.int (11 : Int32)), .unset, .unset, .unset, .unset, .unset, .unset, .unset, .unset, .unset, .unset, .unset, .unset]) rfl) ?_
    show own_FinV p e below s _ _ _ (T139.setTop (mkF m 79 #[.val (.int p1), .val (.int p2), .val (.int p3), .val (.int (p2 &&& (3 : Int32))), .val (.int (203 : Int32)), .val (.ref b139), .val (.int (1 : Int32)), .val (.int (11 : Int32)), .unset, .unset, .unset, .unset, .unset, .unset, .unset, .unset, .unset, .unset, .unset, .unset] []))
    refine own_FinV.step (fun _ => XS.iload X139.here hx rfl (hb hby at_79) rfl) ?_
    show own_FinV p e below s _ _ _ (T139.setTop (mkF m 81 #[.val (.int p1), .val (.int p2), .val (.int p3), .val (.int (p2 &&& (3 : Int32))), .val (.int (203 : Int32)), .val (.ref b139), .val (.int (1 : Int32)), .val (.int (11 : Int32)), .unset, .unset, .unset, .unset, .unset, .unset, .unset, .unset, .unset, .unset, .unset, .unset] [(.int (1 : Int32))]))
    refine own_FinV.step (fun _ => XS.ifNo X139.here hx rfl (hb hby at_81) rfl (XT.i0_eq_f (by decide : ¬ ((1 : Int32) = (0 : Int32))))) ?_
    show own_FinV p e below s _ _ _ (T139.setTop (mkF m 84 #[.val (.int p1), .val (.int p2), .val (.int p3), .val (.int (p2 &&& (3 : Int32))), .val (.int (203 : Int32)), .val (.ref b139), .val (.int (1 : Int32)), .val (.int (11 : Int32)), .unset, .unset, .unset, .unset, .unset, .unset, .unset, .unset, .unset, .unset, .unset, .unset] []))
    refine own_FinV.step (fun _ => XS.iload X139.here hx rfl (hb hby at_84) rfl) ?_
    show own_FinV p e below s _ _ _ (T139.setTop (mkF m 86 #[.val (.int p1), .val (.int p2), .val (.int p3), .val (.int (p2 &&& (3 : Int32))), .val (.int (203 : Int32)), .val (.ref b139), .val (.int (1 : Int32)), .val (.int (11 : Int32)), .unset, .unset, .unset, .unset, .unset, .unset, .unset, .unset, .unset, .unset, .unset, .unset] [(.int (11 : Int32))]))
    refine own_FinV.step (fun _ => XS.iconst X139.here hx rfl (hb hby at_86)) ?_
    show own_FinV p e below s _ _ _ (T139.setTop (mkF m 87 #[.val (.int p1), .val (.int p2), .val (.int p3), .val (.int (p2 &&& (3 : Int32))), .val (.int (203 : Int32)), .val (.ref b139), .val (.int (1 : Int32)), .val (.int (11 : Int32)), .unset, .unset, .unset, .unset, .unset, .unset, .unset, .unset, .unset, .unset, .unset, .unset] [(.int (4 : Int32)), (.int (11 : Int32))]))
    refine own_FinV.step (fun _ => XS.icmpNo X139.here hx rfl (hb hby at_87) rfl (XT.ii_eq_f (by decide : ¬ ((11 : Int32) = (4 : Int32))))) ?_
    show own_FinV p e below s _ _ _ (T139.setTop (mkF m 90 #[.val (.int p1), .val (.int p2), .val (.int p3), .val (.int (p2 &&& (3 : Int32))), .val (.int (203 : Int32)), .val (.ref b139), .val (.int (1 : Int32)), .val (.int (11 : Int32)), .unset, .unset, .unset, .unset, .unset, .unset, .unset, .unset, .unset, .unset, .unset, .unset] []))
    refine own_FinV.step (fun _ => XS.iload X139.here hx rfl (hb hby at_90) rfl) ?_
    show own_FinV p e below s _ _ _ (T139.setTop (mkF m 92 #[.val (.int p1), .val (.int p2), .val (.int p3), .val (.int (p2 &&& (3 : Int32))), .val (.int (203 : Int32)), .val (.ref b139), .val (.int (1 : Int32)), .val (.int (11 : Int32)), .unset, .unset, .unset, .unset, .unset, .unset, .unset, .unset, .unset, .unset, .unset, .unset] [(.int (11 : Int32))]))
    refine own_FinV.step (fun _ => XS.bipush X139.here hx rfl (hb hby at_92)) ?_
    show own_FinV p e below s _ _ _ (T139.setTop (mkF m 94 #[.val (.int p1), .val (.int p2), .val (.int p3), .val (.int (p2 &&& (3 : Int32))), .val (.int (203 : Int32)), .val (.ref b139), .val (.int (1 : Int32)), .val (.int (11 : Int32)), .unset, .unset, .unset, .unset, .unset, .unset, .unset, .unset, .unset, .unset, .unset, .unset] [(.int (8 : Int32)), (.int (11 : Int32))]))
    refine own_FinV.step (fun _ => XS.icmpNo X139.here hx rfl (hb hby at_94) rfl (XT.ii_eq_f (by decide : ¬ ((11 : Int32) = (8 : Int32))))) ?_
    show own_FinV p e below s _ _ _ (T139.setTop (mkF m 97 #[.val (.int p1), .val (.int p2), .val (.int p3), .val (.int (p2 &&& (3 : Int32))), .val (.int (203 : Int32)), .val (.ref b139), .val (.int (1 : Int32)), .val (.int (11 : Int32)), .unset, .unset, .unset, .unset, .unset, .unset, .unset, .unset, .unset, .unset, .unset, .unset] []))
    refine own_FinV.step (fun _ => XS.iload X139.here hx rfl (hb hby at_97) rfl) ?_
    show own_FinV p e below s _ _ _ (T139.setTop (mkF m 99 #[.val (.int p1), .val (.int p2), .val (.int p3), .val (.int (p2 &&& (3 : Int32))), .val (.int (203 : Int32)), .val (.ref b139), .val (.int (1 : Int32)), .val (.int (11 : Int32)), .unset, .unset, .unset, .unset, .unset, .unset, .unset, .unset, .unset, .unset, .unset, .unset] [(.int (11 : Int32))]))
    refine own_FinV.step (fun _ => XS.bipush X139.here hx rfl (hb hby at_99)) ?_
    show own_FinV p e below s _ _ _ (T139.setTop (mkF m 101 #[.val (.int p1), .val (.int p2), .val (.int p3), .val (.int (p2 &&& (3 : Int32))), .val (.int (203 : Int32)), .val (.ref b139), .val (.int (1 : Int32)), .val (.int (11 : Int32)), .unset, .unset, .unset, .unset, .unset, .unset, .unset, .unset, .unset, .unset, .unset, .unset] [(.int (12 : Int32)), (.int (11 : Int32))]))
    refine own_FinV.step (fun _ => XS.icmpNo X139.here hx rfl (hb hby at_101) rfl (XT.ii_eq_f (by decide : ¬ ((11 : Int32) = (12 : Int32))))) ?_
    show own_FinV p e below s _ _ _ (T139.setTop (mkF m 104 #[.val (.int p1), .val (.int p2), .val (.int p3), .val (.int (p2 &&& (3 : Int32))), .val (.int (203 : Int32)), .val (.ref b139), .val (.int (1 : Int32)), .val (.int (11 : Int32)), .unset, .unset, .unset, .unset, .unset, .unset, .unset, .unset, .unset, .unset, .unset, .unset] []))
    refine own_FinV.step (fun _ => XS.iconst X139.here hx rfl (hb hby at_104)) ?_
    show own_FinV p e below s _ _ _ (T139.setTop (mkF m 105 #[.val (.int p1), .val (.int p2), .val (.int p3), .val (.int (p2 &&& (3 : Int32))), .val (.int (203 : Int32)), .val (.ref b139), .val (.int (1 : Int32)), .val (.int (11 : Int32)), .unset, .unset, .unset, .unset, .unset, .unset, .unset, .unset, .unset, .unset, .unset, .unset] [(.int (1 : Int32))]))
    refine own_FinV.step (fun _ => XS.goto X139.here hx rfl (pc0 := 105) (pc' := 109) rfl (hb hby at_105) (by decide) (by decide)) ?_
    show own_FinV p e below s _ _ _ (T139.setTop (mkF m 109 #[.val (.int p1), .val (.int p2), .val (.int p3), .val (.int (p2 &&& (3 : Int32))), .val (.int (203 : Int32)), .val (.ref b139), .val (.int (1 : Int32)), .val (.int (11 : Int32)), .unset, .unset, .unset, .unset, .unset, .unset, .unset, .unset, .unset, .unset, .unset, .unset] [(.int (1 : Int32))]))
    refine own_FinV.step (fun _ => XS.istore X139.here hx rfl (hb hby at_109) rfl (l' := #[.val (.int p1), .val (.int p2), .val (.int p3), .val (.int (p2 &&& (3 : Int32))), .val (.int (203 : Int32)), .val (.ref b139), .val (.int (1 : Int32)), .val (.int (11 : Int32)), .val (.int (1 : Int32)), .unset, .unset, .unset, .unset, .unset, .unset, .unset, .unset, .unset, .unset, .unset]) rfl) ?_
    show own_FinV p e below s _ _ _ (T139.setTop (mkF m 111 #[.val (.int p1), .val (.int p2), .val (.int p3), .val (.int (p2 &&& (3 : Int32))), .val (.int (203 : Int32)), .val (.ref b139), .val (.int (1 : Int32)), .val (.int (11 : Int32)), .val (.int (1 : Int32)), .unset, .unset, .unset, .unset, .unset, .unset, .unset, .unset, .unset, .unset, .unset] []))
    refine own_FinV.step (fun _ => XS.iload X139.here hx rfl (hb hby at_111) rfl) ?_
    show own_FinV p e below s _ _ _ (T139.setTop (mkF m 113 #[.val (.int p1), .val (.int p2), .val (.int p3), .val (.int (p2 &&& (3 : Int32))), .val (.int (203 : Int32)), .val (.ref b139), .val (.int (1 : Int32)), .val (.int (11 : Int32)), .val (.int (1 : Int32)), .unset, .unset, .unset, .unset, .unset, .unset, .unset, .unset, .unset, .unset, .unset] [(.int (1 : Int32))]))
    refine own_FinV.step (fun _ => XS.ifYes X139.here hx rfl (pc0 := 113) (pc' := 127) rfl (hb hby at_113) rfl (XT.i0_ne_t (by decide : ¬ ((1 : Int32) = (0 : Int32)))) (by decide) (by decide)) ?_
    show own_FinV p e below s _ _ _ (T139.setTop (mkF m 127 #[.val (.int p1), .val (.int p2), .val (.int p3), .val (.int (p2 &&& (3 : Int32))), .val (.int (203 : Int32)), .val (.ref b139), .val (.int (1 : Int32)), .val (.int (11 : Int32)), .val (.int (1 : Int32)), .unset, .unset, .unset, .unset, .unset, .unset, .unset, .unset, .unset, .unset, .unset] []))
    refine own_FinV.step (fun _ => XS.aload X139.here hx rfl (hb hby at_127) rfl rfl) ?_
    show own_FinV p e below s _ _ _ (T139.setTop (mkF m 129 #[.val (.int p1), .val (.int p2), .val (.int p3), .val (.int (p2 &&& (3 : Int32))), .val (.int (203 : Int32)), .val (.ref b139), .val (.int (1 : Int32)), .val (.int (11 : Int32)), .val (.int (1 : Int32)), .unset, .unset, .unset, .unset, .unset, .unset, .unset, .unset, .unset, .unset, .unset] [(.ref b139)]))
    refine own_FinV.step (fun _ => XS.ifnonnullYes X139.here hx rfl (pc0 := 129) (pc' := 134) rfl (hb hby at_129) rfl (by decide) (by decide)) ?_
    show own_FinV p e below s _ _ _ (T139.setTop (mkF m 134 #[.val (.int p1), .val (.int p2), .val (.int p3), .val (.int (p2 &&& (3 : Int32))), .val (.int (203 : Int32)), .val (.ref b139), .val (.int (1 : Int32)), .val (.int (11 : Int32)), .val (.int (1 : Int32)), .unset, .unset, .unset, .unset, .unset, .unset, .unset, .unset, .unset, .unset, .unset] []))
    refine own_FinV.step (fun _ => XS.iload X139.here hx rfl (hb hby at_134) rfl) ?_
    show own_FinV p e below s _ _ _ (T139.setTop (mkF m 136 #[.val (.int p1), .val (.int p2), .val (.int p3), .val (.int (p2 &&& (3 : Int32))), .val (.int (203 : Int32)), .val (.ref b139), .val (.int (1 : Int32)), .val (.int (11 : Int32)), .val (.int (1 : Int32)), .unset, .unset, .unset, .unset, .unset, .unset, .unset, .unset, .unset, .unset, .unset] [(.int (11 : Int32))]))
    refine own_FinV.step (fun _ => XS.iconst X139.here hx rfl (hb hby at_136)) ?_
    show own_FinV p e below s _ _ _ (T139.setTop (mkF m 137 #[.val (.int p1), .val (.int p2), .val (.int p3), .val (.int (p2 &&& (3 : Int32))), .val (.int (203 : Int32)), .val (.ref b139), .val (.int (1 : Int32)), .val (.int (11 : Int32)), .val (.int (1 : Int32)), .unset, .unset, .unset, .unset, .unset, .unset, .unset, .unset, .unset, .unset, .unset] [(.int (4 : Int32)), (.int (11 : Int32))]))
    refine own_FinV.step (fun _ => XS.iand X139.here hx rfl (hb hby at_137) rfl) ?_
    show own_FinV p e below s _ _ _ (T139.setTop (mkF m 138 #[.val (.int p1), .val (.int p2), .val (.int p3), .val (.int (p2 &&& (3 : Int32))), .val (.int (203 : Int32)), .val (.ref b139), .val (.int (1 : Int32)), .val (.int (11 : Int32)), .val (.int (1 : Int32)), .unset, .unset, .unset, .unset, .unset, .unset, .unset, .unset, .unset, .unset, .unset] [(.int (0 : Int32))]))
    refine own_FinV.step (fun _ => XS.ifYes X139.here hx rfl (pc0 := 138) (pc' := 145) rfl (hb hby at_138) rfl (XT.i0_eq_t (by decide : (0 : Int32) = (0 : Int32))) (by decide) (by decide)) ?_
    show own_FinV p e below s _ _ _ (T139.setTop (mkF m 145 #[.val (.int p1), .val (.int p2), .val (.int p3), .val (.int (p2 &&& (3 : Int32))), .val (.int (203 : Int32)), .val (.ref b139), .val (.int (1 : Int32)), .val (.int (11 : Int32)), .val (.int (1 : Int32)), .unset, .unset, .unset, .unset, .unset, .unset, .unset, .unset, .unset, .unset, .unset] []))
    refine own_FinV.step (fun _ => XS.iconst X139.here hx rfl (hb hby at_145)) ?_
    show own_FinV p e below s _ _ _ (T139.setTop (mkF m 146 #[.val (.int p1), .val (.int p2), .val (.int p3), .val (.int (p2 &&& (3 : Int32))), .val (.int (203 : Int32)), .val (.ref b139), .val (.int (1 : Int32)), .val (.int (11 : Int32)), .val (.int (1 : Int32)), .unset, .unset, .unset, .unset, .unset, .unset, .unset, .unset, .unset, .unset, .unset] [(.int (0 : Int32))]))
    refine own_FinV.step (fun _ => XS.istore X139.here hx rfl (hb hby at_146) rfl (l' := #[.val (.int p1), .val (.int p2), .val (.int p3), .val (.int (p2 &&& (3 : Int32))), .val (.int (203 : Int32)), .val (.ref b139), .val (.int (1 : Int32)), .val (.int (11 : Int32)), .val (.int (1 : Int32)), .val (.int (0 : Int32)), .unset, .unset, .unset, .unset, .unset, .unset, .unset, .unset, .unset, .unset]) rfl) ?_
    show own_FinV p e below s _ _ _ (T139.setTop (mkF m 148 #[.val (.int p1), .val (.int p2), .val (.int p3), .val (.int (p2 &&& (3 : Int32))), .val (.int (203 : Int32)), .val (.ref b139), .val (.int (1 : Int32)), .val (.int (11 : Int32)), .val (.int (1 : Int32)), .val (.int (0 : Int32)), .unset, .unset, .unset, .unset, .unset, .unset, .unset, .unset, .unset, .unset] []))
    refine own_FinV.step (fun _ => XS.iload X139.here hx rfl (hb hby at_148) rfl) ?_
    show own_FinV p e below s _ _ _ (T139.setTop (mkF m 150 #[.val (.int p1), .val (.int p2), .val (.int p3), .val (.int (p2 &&& (3 : Int32))), .val (.int (203 : Int32)), .val (.ref b139), .val (.int (1 : Int32)), .val (.int (11 : Int32)), .val (.int (1 : Int32)), .val (.int (0 : Int32)), .unset, .unset, .unset, .unset, .unset, .unset, .unset, .unset, .unset, .unset] [(.int (11 : Int32))]))
    refine own_FinV.step (fun _ => XS.bipush X139.here hx rfl (hb hby at_150)) ?_
    show own_FinV p e below s _ _ _ (T139.setTop (mkF m 152 #[.val (.int p1), .val (.int p2), .val (.int p3), .val (.int (p2 &&& (3 : Int32))), .val (.int (203 : Int32)), .val (.ref b139), .val (.int (1 : Int32)), .val (.int (11 : Int32)), .val (.int (1 : Int32)), .val (.int (0 : Int32)), .unset, .unset, .unset, .unset, .unset, .unset, .unset, .unset, .unset, .unset] [(.int (8 : Int32)), (.int (11 : Int32))]))
    refine own_FinV.step (fun _ => XS.iand X139.here hx rfl (hb hby at_152) rfl) ?_
    show own_FinV p e below s _ _ _ (T139.setTop (mkF m 153 #[.val (.int p1), .val (.int p2), .val (.int p3), .val (.int (p2 &&& (3 : Int32))), .val (.int (203 : Int32)), .val (.ref b139), .val (.int (1 : Int32)), .val (.int (11 : Int32)), .val (.int (1 : Int32)), .val (.int (0 : Int32)), .unset, .unset, .unset, .unset, .unset, .unset, .unset, .unset, .unset, .unset] [(.int (8 : Int32))]))
    refine own_FinV.step (fun _ => XS.ifNo X139.here hx rfl (hb hby at_153) rfl (XT.i0_eq_f (by decide : ¬ ((8 : Int32) = (0 : Int32))))) ?_
    show own_FinV p e below s _ _ _ (T139.setTop (mkF m 156 #[.val (.int p1), .val (.int p2), .val (.int p3), .val (.int (p2 &&& (3 : Int32))), .val (.int (203 : Int32)), .val (.ref b139), .val (.int (1 : Int32)), .val (.int (11 : Int32)), .val (.int (1 : Int32)), .val (.int (0 : Int32)), .unset, .unset, .unset, .unset, .unset, .unset, .unset, .unset, .unset, .unset] []))
    refine own_FinV.step (fun _ => XS.iconst X139.here hx rfl (hb hby at_156)) ?_
    show own_FinV p e below s _ _ _ (T139.setTop (mkF m 157 #[.val (.int p1), .val (.int p2), .val (.int p3), .val (.int (p2 &&& (3 : Int32))), .val (.int (203 : Int32)), .val (.ref b139), .val (.int (1 : Int32)), .val (.int (11 : Int32)), .val (.int (1 : Int32)), .val (.int (0 : Int32)), .unset, .unset, .unset, .unset, .unset, .unset, .unset, .unset, .unset, .unset] [(.int (1 : Int32))]))
    refine own_FinV.step (fun _ => XS.goto X139.here hx rfl (pc0 := 157) (pc' := 161) rfl (hb hby at_157) (by decide) (by decide)) ?_
    show own_FinV p e below s _ _ _ (T139.setTop (mkF m 161 #[.val (.int p1), .val (.int p2), .val (.int p3), .val (.int (p2 &&& (3 : Int32))), .val (.int (203 : Int32)), .val (.ref b139), .val (.int (1 : Int32)), .val (.int (11 : Int32)), .val (.int (1 : Int32)), .val (.int (0 : Int32)), .unset, .unset, .unset, .unset, .unset, .unset, .unset, .unset, .unset, .unset] [(.int (1 : Int32))]))
    refine own_FinV.step (fun _ => XS.istore X139.here hx rfl (hb hby at_161) rfl (l' := #[.val (.int p1), .val (.int p2), .val (.int p3), .val (.int (p2 &&& (3 : Int32))), .val (.int (203 : Int32)), .val (.ref b139), .val (.int (1 : Int32)), .val (.int (11 : Int32)), .val (.int (1 : Int32)), .val (.int (0 : Int32)), .val (.int (1 : Int32)), .unset, .unset, .unset, .unset, .unset, .unset, .unset, .unset, .unset]) rfl) ?_
    show own_FinV p e below s _ _ _ (T139.setTop (mkF m 163 #[.val (.int p1), .val (.int p2), .val (.int p3), .val (.int (p2 &&& (3 : Int32))), .val (.int (203 : Int32)), .val (.ref b139), .val (.int (1 : Int32)), .val (.int (11 : Int32)), .val (.int (1 : Int32)), .val (.int (0 : Int32)), .val (.int (1 : Int32)), .unset, .unset, .unset, .unset, .unset, .unset, .unset, .unset, .unset] []))
    refine own_FinV.step (fun _ => XS.iload X139.here hx rfl (hb hby at_163) rfl) ?_
    show own_FinV p e below s _ _ _ (T139.setTop (mkF m 165 #[.val (.int p1), .val (.int p2), .val (.int p3), .val (.int (p2 &&& (3 : Int32))), .val (.int (203 : Int32)), .val (.ref b139), .val (.int (1 : Int32)), .val (.int (11 : Int32)), .val (.int (1 : Int32)), .val (.int (0 : Int32)), .val (.int (1 : Int32)), .unset, .unset, .unset, .unset, .unset, .unset, .unset, .unset, .unset] [(.int (11 : Int32))]))
    refine own_FinV.step (fun _ => XS.iconst X139.here hx rfl (hb hby at_165)) ?_
    show own_FinV p e below s _ _ _ (T139.setTop (mkF m 166 #[.val (.int p1), .val (.int p2), .val (.int p3), .val (.int (p2 &&& (3 : Int32))), .val (.int (203 : Int32)), .val (.ref b139), .val (.int (1 : Int32)), .val (.int (11 : Int32)), .val (.int (1 : Int32)), .val (.int (0 : Int32)), .val (.int (1 : Int32)), .unset, .unset, .unset, .unset, .unset, .unset, .unset, .unset, .unset] [(.int (3 : Int32)), (.int (11 : Int32))]))
    refine own_FinV.step (fun _ => XS.iand X139.here hx rfl (hb hby at_166) rfl) ?_
    show own_FinV p e below s _ _ _ (T139.setTop (mkF m 167 #[.val (.int p1), .val (.int p2), .val (.int p3), .val (.int (p2 &&& (3 : Int32))), .val (.int (203 : Int32)), .val (.ref b139), .val (.int (1 : Int32)), .val (.int (11 : Int32)), .val (.int (1 : Int32)), .val (.int (0 : Int32)), .val (.int (1 : Int32)), .unset, .unset, .unset, .unset, .unset, .unset, .unset, .unset, .unset] [(.int (3 : Int32))]))
    refine own_FinV.step (fun _ => XS.istore X139.here hx rfl (hb hby at_167) rfl (l' := #[.val (.int p1), .val (.int p2), .val (.int p3), .val (.int (p2 &&& (3 : Int32))), .val (.int (203 : Int32)), .val (.ref b139), .val (.int (1 : Int32)), .val (.int (11 : Int32)), .val (.int (1 : Int32)), .val (.int (0 : Int32)), .val (.int (1 : Int32)), .val (.int (3 : Int32)), .unset, .unset, .unset, .unset, .unset, .unset, .unset, .unset]) rfl) ?_
    show own_FinV p e below s _ _ _ (T139.setTop (mkF m 169 #[.val (.int p1), .val (.int p2), .val (.int p3), .val (.int (p2 &&& (3 : Int32))), .val (.int (203 : Int32)), .val (.ref b139), .val (.int (1 : Int32)), .val (.int (11 : Int32)), .val (.int (1 : Int32)), .val (.int (0 : Int32)), .val (.int (1 : Int32)), .val (.int (3 : Int32)), .unset, .unset, .unset, .unset, .unset, .unset, .unset, .unset] []))
    refine own_FinV.step (fun _ => XS.iload X139.here hx rfl (hb hby at_169) rfl) ?_
    show own_FinV p e below s _ _ _ (T139.setTop (mkF m 171 #[.val (.int p1), .val (.int p2), .val (.int p3), .val (.int (p2 &&& (3 : Int32))), .val (.int (203 : Int32)), .val (.ref b139), .val (.int (1 : Int32)), .val (.int (11 : Int32)), .val (.int (1 : Int32)), .val (.int (0 : Int32)), .val (.int (1 : Int32)), .val (.int (3 : Int32)), .unset, .unset, .unset, .unset, .unset, .unset, .unset, .unset] [(.int (0 : Int32))]))
    refine own_FinV.step (fun _ => XS.ifYes X139.here hx rfl (pc0 := 171) (pc' := 179) rfl (hb hby at_171) rfl (XT.i0_eq_t (by decide : (0 : Int32) = (0 : Int32))) (by decide) (by decide)) ?_
    show own_FinV p e below s _ _ _ (T139.setTop (mkF m 179 #[.val (.int p1), .val (.int p2), .val (.int p3), .val (.int (p2 &&& (3 : Int32))), .val (.int (203 : Int32)), .val (.ref b139), .val (.int (1 : Int32)), .val (.int (11 : Int32)), .val (.int (1 : Int32)), .val (.int (0 : Int32)), .val (.int (1 : Int32)), .val (.int (3 : Int32)), .unset, .unset, .unset, .unset, .unset, .unset, .unset, .unset] []))
    obtain ⟨b141, T141, h141, k141, X141, e141, E141, hS141, hk141, hZ141, hown141, St141, C141, st141⟩ := own_ldcV (s := s) (vm0 := T139.vm) X139 hx hZ hown (own_w hw 12 rfl) own_wS rfl hS hk hEL (List.mem_of_getElem? (i := 14) rfl) C139 (by decide) (g := (mkF m 179 #[.val (.int p1), .val (.int p2), .val (.int p3), .val (.int (p2 &&& (3 : Int32))), .val (.int (203 : Int32)), .val (.ref b139), .val (.int (1 : Int32)), .val (.int (11 : Int32)), .val (.int (1 : Int32)), .val (.int (0 : Int32)), .val (.int (1 : Int32)), .val (.int (3 : Int32)), .unset, .unset, .unset, .unset, .unset, .unset, .unset, .unset] [])) rfl (hb hby at_179) (n := 0) (by decide) (by decide) (by decide) (by decide)
    have hS := hS141
    have hk := hk141
    have hZ := hZ141
    have hown := hown141
    have f142 := f140.ext E141
    have f143 := St139.ext E141
    have Z141 : n0 ≤ h141.size := Nat.le_trans Z139 E141.1
    refine own_FinV.step st141 ?_
    show own_FinV p e below s _ _ _ (T141.setTop (mkF m 181 #[.val (.int p1), .val (.int p2), .val (.int p3), .val (.int (p2 &&& (3 : Int32))), .val (.int (203 : Int32)), .val (.ref b139), .val (.int (1 : Int32)), .val (.int (11 : Int32)), .val (.int (1 : Int32)), .val (.int (0 : Int32)), .val (.int (1 : Int32)), .val (.int (3 : Int32)), .unset, .unset, .unset, .unset, .unset, .unset, .unset, .unset] [(.ref b141)]))
    refine own_FinV.step (fun _ => XS.astore X141.here hx rfl (hb hby at_181) rfl rfl (l' := #[.val (.int p1), .val (.int p2), .val (.int p3), .val (.int (p2 &&& (3 : Int32))), .val (.int (203 : Int32)), .val (.ref b139), .val (.int (1 : Int32)), .val (.int (11 : Int32)), .val (.int (1 : Int32)), .val (.int (0 : Int32)), .val (.int (1 : Int32)), .val (.int (3 : Int32)), .val (.ref b141), .unset, .unset, .unset, .unset, .unset, .unset, .unset]) rfl) ?_
    show own_FinV p e below s _ _ _ (T141.setTop (mkF m 183 #[.val (.int p1), .val (.int p2), .val (.int p3), .val (.int (p2 &&& (3 : Int32))), .val (.int (203 : Int32)), .val (.ref b139), .val (.int (1 : Int32)), .val (.int (11 : Int32)), .val (.int (1 : Int32)), .val (.int (0 : Int32)), .val (.int (1 : Int32)), .val (.int (3 : Int32)), .val (.ref b141), .unset, .unset, .unset, .unset, .unset, .unset, .unset] []))
    refine own_FinV.step (fun _ => XS.iload X141.here hx rfl (hb hby at_183) rfl) ?_
    show own_FinV p e below s _ _ _ (T141.setTop (mkF m 185 #[.val (.int p1), .val (.int p2), .val (.int p3), .val (.int (p2 &&& (3 : Int32))), .val (.int (203 : Int32)), .val (.ref b139), .val (.int (1 : Int32)), .val (.int (11 : Int32)), .val (.int (1 : Int32)), .val (.int (0 : Int32)), .val (.int (1 : Int32)), .val (.int (3 : Int32)), .val (.ref b141), .unset, .unset, .unset, .unset, .unset, .unset, .unset] [(.int (3 : Int32))]))
    refine own_FinV.step (fun _ => XS.ifYes X141.here hx rfl (pc0 := 185) (pc' := 195) rfl (hb hby at_185) rfl (XT.i0_ne_t (by decide : ¬ ((3 : Int32) = (0 : Int32)))) (by decide) (by decide)) ?_
    show own_FinV p e below s _ _ _ (T141.setTop (mkF m 195 #[.val (.int p1), .val (.int p2), .val (.int p3), .val (.int (p2 &&& (3 : Int32))), .val (.int (203 : Int32)), .val (.ref b139), .val (.int (1 : Int32)), .val (.int (11 : Int32)), .val (.int (1 : Int32)), .val (.int (0 : Int32)), .val (.int (1 : Int32)), .val (.int (3 : Int32)), .val (.ref b141), .unset, .unset, .unset, .unset, .unset, .unset, .unset] []))
    refine own_FinV.step (fun _ => XS.iload X141.here hx rfl (hb hby at_195) rfl) ?_
    show own_FinV p e below s _ _ _ (T141.setTop (mkF m 197 #[.val (.int p1), .val (.int p2), .val (.int p3), .val (.int (p2 &&& (3 : Int32))), .val (.int (203 : Int32)), .val (.ref b139), .val (.int (1 : Int32)), .val (.int (11 : Int32)), .val (.int (1 : Int32)), .val (.int (0 : Int32)), .val (.int (1 : Int32)), .val (.int (3 : Int32)), .val (.ref b141), .unset, .unset, .unset, .unset, .unset, .unset, .unset] [(.int (3 : Int32))]))
    refine own_FinV.step (fun _ => XS.iconst X141.here hx rfl (hb hby at_197)) ?_
    show own_FinV p e below s _ _ _ (T141.setTop (mkF m 198 #[.val (.int p1), .val (.int p2), .val (.int p3), .val (.int (p2 &&& (3 : Int32))), .val (.int (203 : Int32)), .val (.ref b139), .val (.int (1 : Int32)), .val (.int (11 : Int32)), .val (.int (1 : Int32)), .val (.int (0 : Int32)), .val (.int (1 : Int32)), .val (.int (3 : Int32)), .val (.ref b141), .unset, .unset, .unset, .unset, .unset, .unset, .unset] [(.int (1 : Int32)), (.int (3 : Int32))]))
    refine own_FinV.step (fun _ => XS.icmpYes X141.here hx rfl (pc0 := 198) (pc' := 218) rfl (hb hby at_198) rfl (XT.ii_ne_t (by decide : ¬ ((3 : Int32) = (1 : Int32)))) (by decide) (by decide)) ?_
    show own_FinV p e below s _ _ _ (T141.setTop (mkF m 218 #[.val (.int p1), .val (.int p2), .val (.int p3), .val (.int (p2 &&& (3 : Int32))), .val (.int (203 : Int32)), .val (.ref b139), .val (.int (1 : Int32)), .val (.int (11 : Int32)), .val (.int (1 : Int32)), .val (.int (0 : Int32)), .val (.int (1 : Int32)), .val (.int (3 : Int32)), .val (.ref b141), .unset, .unset, .unset, .unset, .unset, .unset, .unset] []))
    refine own_FinV.step (fun _ => XS.iload X141.here hx rfl (hb hby at_218) rfl) ?_
    show own_FinV p e below s _ _ _ (T141.setTop (mkF m 220 #[.val (.int p1), .val (.int p2), .val (.int p3), .val (.int (p2 &&& (3 : Int32))), .val (.int (203 : Int32)), .val (.ref b139), .val (.int (1 : Int32)), .val (.int (11 : Int32)), .val (.int (1 : Int32)), .val (.int (0 : Int32)), .val (.int (1 : Int32)), .val (.int (3 : Int32)), .val (.ref b141), .unset, .unset, .unset, .unset, .unset, .unset, .unset] [(.int (3 : Int32))]))
    refine own_FinV.step (fun _ => XS.iconst X141.here hx rfl (hb hby at_220)) ?_
    show own_FinV p e below s _ _ _ (T141.setTop (mkF m 221 #[.val (.int p1), .val (.int p2), .val (.int p3), .val (.int (p2 &&& (3 : Int32))), .val (.int (203 : Int32)), .val (.ref b139), .val (.int (1 : Int32)), .val (.int (11 : Int32)), .val (.int (1 : Int32)), .val (.int (0 : Int32)), .val (.int (1 : Int32)), .val (.int (3 : Int32)), .val (.ref b141), .unset, .unset, .unset, .unset, .unset, .unset, .unset] [(.int (2 : Int32)), (.int (3 : Int32))]))
    refine own_FinV.step (fun _ => XS.icmpYes X141.here hx rfl (pc0 := 221) (pc' := 231) rfl (hb hby at_221) rfl (XT.ii_ne_t (by decide : ¬ ((3 : Int32) = (2 : Int32)))) (by decide) (by decide)) ?_
    show own_FinV p e below s _ _ _ (T141.setTop (mkF m 231 #[.val (.int p1), .val (.int p2), .val (.int p3), .val (.int (p2 &&& (3 : Int32))), .val (.int (203 : Int32)), .val (.ref b139), .val (.int (1 : Int32)), .val (.int (11 : Int32)), .val (.int (1 : Int32)), .val (.int (0 : Int32)), .val (.int (1 : Int32)), .val (.int (3 : Int32)), .val (.ref b141), .unset, .unset, .unset, .unset, .unset, .unset, .unset] []))
    obtain ⟨b144, T144, h144, k144, X144, e144, E144, hS144, hk144, hZ144, hown144, St144, C144, st144⟩ := own_ldcV (s := s) (vm0 := T141.vm) X141 hx hZ hown (own_w hw 53 rfl) own_wS e141 hS hk hEL (List.mem_of_getElem? (i := 19) rfl) C141 (by decide) (g := (mkF m 231 #[.val (.int p1), .val (.int p2), .val (.int p3), .val (.int (p2 &&& (3 : Int32))), .val (.int (203 : Int32)), .val (.ref b139), .val (.int (1 : Int32)), .val (.int (11 : Int32)), .val (.int (1 : Int32)), .val (.int (0 : Int32)), .val (.int (1 : Int32)), .val (.int (3 : Int32)), .val (.ref b141), .unset, .unset, .unset, .unset, .unset, .unset, .unset] [])) rfl (hb hby at_231) (n := 32) (by decide) (by decide) (by decide) (by decide)
    have hS := hS144
    have hk := hk144
    have hZ := hZ144
    have hown := hown144
    have f145 := f142.ext E144
    have f146 := f143.ext E144
    have f147 := St141.ext E144
    have Z144 : n0 ≤ h144.size := Nat.le_trans Z141 E144.1
    refine own_FinV.step st144 ?_
    show own_FinV p e below s _ _ _ (T144.setTop (mkF m 233 #[.val (.int p1), .val (.int p2), .val (.int p3), .val (.int (p2 &&& (3 : Int32))), .val (.int (203 : Int32)), .val (.ref b139), .val (.int (1 : Int32)), .val (.int (11 : Int32)), .val (.int (1 : Int32)), .val (.int (0 : Int32)), .val (.int (1 : Int32)), .val (.int (3 : Int32)), .val (.ref b141), .unset, .unset, .unset, .unset, .unset, .unset, .unset] [(.ref b144)]))
    refine own_FinV.step (fun _ => XS.astore X144.here hx rfl (hb hby at_233) rfl rfl (l' := #[.val (.int p1), .val (.int p2), .val (.int p3), .val (.int (p2 &&& (3 : Int32))), .val (.int (203 : Int32)), .val (.ref b139), .val (.int (1 : Int32)), .val (.int (11 : Int32)), .val (.int (1 : Int32)), .val (.int (0 : Int32)), .val (.int (1 : Int32)), .val (.int (3 : Int32)), .val (.ref b141), .val (.ref b144), .unset, .unset, .unset, .unset, .unset, .unset]) rfl) ?_
    show own_FinV p e below s _ _ _ (T144.setTop (mkF m 235 #[.val (.int p1), .val (.int p2), .val (.int p3), .val (.int (p2 &&& (3 : Int32))), .val (.int (203 : Int32)), .val (.ref b139), .val (.int (1 : Int32)), .val (.int (11 : Int32)), .val (.int (1 : Int32)), .val (.int (0 : Int32)), .val (.int (1 : Int32)), .val (.int (3 : Int32)), .val (.ref b141), .val (.ref b144), .unset, .unset, .unset, .unset, .unset, .unset] []))
    refine own_FinV.step (fun _ => XS.iload X144.here hx rfl (hb hby at_235) rfl) ?_
    show own_FinV p e below s _ _ _ (T144.setTop (mkF m 237 #[.val (.int p1), .val (.int p2), .val (.int p3), .val (.int (p2 &&& (3 : Int32))), .val (.int (203 : Int32)), .val (.ref b139), .val (.int (1 : Int32)), .val (.int (11 : Int32)), .val (.int (1 : Int32)), .val (.int (0 : Int32)), .val (.int (1 : Int32)), .val (.int (3 : Int32)), .val (.ref b141), .val (.ref b144), .unset, .unset, .unset, .unset, .unset, .unset] [(.int (1 : Int32))]))
    refine own_FinV.step (fun _ => XS.ifNo X144.here hx rfl (hb hby at_237) rfl (XT.i0_eq_f (by decide : ¬ ((1 : Int32) = (0 : Int32))))) ?_
    show own_FinV p e below s _ _ _ (T144.setTop (mkF m 240 #[.val (.int p1), .val (.int p2), .val (.int p3), .val (.int (p2 &&& (3 : Int32))), .val (.int (203 : Int32)), .val (.ref b139), .val (.int (1 : Int32)), .val (.int (11 : Int32)), .val (.int (1 : Int32)), .val (.int (0 : Int32)), .val (.int (1 : Int32)), .val (.int (3 : Int32)), .val (.ref b141), .val (.ref b144), .unset, .unset, .unset, .unset, .unset, .unset] []))
    obtain ⟨b148, T148, h148, k148, X148, e148, E148, hS148, hk148, hZ148, hown148, St148, C148, st148⟩ := own_ldcV (s := s) (vm0 := T144.vm) X144 hx hZ hown (own_w hw 55 rfl) own_wS e144 hS hk hEL (List.mem_of_getElem? (i := 20) rfl) C144 (by decide) (g := (mkF m 240 #[.val (.int p1), .val (.int p2), .val (.int p3), .val (.int (p2 &&& (3 : Int32))), .val (.int (203 : Int32)), .val (.ref b139), .val (.int (1 : Int32)), .val (.int (11 : Int32)), .val (.int (1 : Int32)), .val (.int (0 : Int32)), .val (.int (1 : Int32)), .val (.int (3 : Int32)), .val (.ref b141), .val (.ref b144), .unset, .unset, .unset, .unset, .unset, .unset] [])) rfl (hb hby at_240) (n := 72) (by decide) (by decide) (by decide) (by decide)
    have hS := hS148
    have hk := hk148
    have hZ := hZ148
    have hown := hown148
    have f149 := f145.ext E148
    have f150 := f146.ext E148
    have f151 := f147.ext E148
    have f152 := St144.ext E148
    have Z148 : n0 ≤ h148.size := Nat.le_trans Z144 E148.1
    refine own_FinV.step st148 ?_
    show own_FinV p e below s _ _ _ (T148.setTop (mkF m 242 #[.val (.int p1), .val (.int p2), .val (.int p3), .val (.int (p2 &&& (3 : Int32))), .val (.int (203 : Int32)), .val (.ref b139), .val (.int (1 : Int32)), .val (.int (11 : Int32)), .val (.int (1 : Int32)), .val (.int (0 : Int32)), .val (.int (1 : Int32)), .val (.int (3 : Int32)), .val (.ref b141), .val (.ref b144), .unset, .unset, .unset, .unset, .unset, .unset] [(.ref b148)]))
    refine own_FinV.step (fun _ => XS.goto X148.here hx rfl (pc0 := 242) (pc' := 247) rfl (hb hby at_242) (by decide) (by decide)) ?_
    show own_FinV p e below s _ _ _ (T148.setTop (mkF m 247 #[.val (.int p1), .val (.int p2), .val (.int p3), .val (.int (p2 &&& (3 : Int32))), .val (.int (203 : Int32)), .val (.ref b139), .val (.int (1 : Int32)), .val (.int (11 : Int32)), .val (.int (1 : Int32)), .val (.int (0 : Int32)), .val (.int (1 : Int32)), .val (.int (3 : Int32)), .val (.ref b141), .val (.ref b144), .unset, .unset, .unset, .unset, .unset, .unset] [(.ref b148)]))
    refine own_FinV.step (fun _ => XS.astore X148.here hx rfl (hb hby at_247) rfl rfl (l' := #[.val (.int p1), .val (.int p2), .val (.int p3), .val (.int (p2 &&& (3 : Int32))), .val (.int (203 : Int32)), .val (.ref b139), .val (.int (1 : Int32)), .val (.int (11 : Int32)), .val (.int (1 : Int32)), .val (.int (0 : Int32)), .val (.int (1 : Int32)), .val (.int (3 : Int32)), .val (.ref b141), .val (.ref b144), .val (.ref b148), .unset, .unset, .unset, .unset, .unset]) rfl) ?_
    have hcat : own_bs "lossless, arithmetic-coded" = own_bs "" ++ own_bs "lossless" ++ own_bs ", arithmetic-coded" := by decide +kernel
    rw [hcat] at f150
    exact own_tail hw X148 hx hby hml hown hret hlk hZ Z148 N139 e148 hS hk C148 hcs rv f149 f150 f151 f152 St148 (by decide) (by decide) (by decide) (by decide) (by decide) (by decide)
  ·
    show own_FinV p e below s _ _ _ (s₁.setTop (mkF m 42 #[.val (.int p1), .val (.int p2), .val (.int p3), .val (.int (p2 &&& (3 : Int32))), .val (.int (204 : Int32)), .unset, .unset, .unset, .unset, .unset, .unset, .unset, .unset, .unset, .unset, .unset, .unset, .unset, .unset, .unset] []))
    refine own_FinV.step (fun _ => XS.iload X0.here hx rfl (hb hby at_42) rfl) ?_
    show own_FinV p e below s _ _ _ (s₁.setTop (mkF m 44 #[.val (.int p1), .val (.int p2), .val (.int p3), .val (.int (p2 &&& (3 : Int32))), .val (.int (204 : Int32)), .unset, .unset, .unset, .unset, .unset, .unset, .unset, .unset, .unset, .unset, .unset, .unset, .unset, .unset, .unset] [(.int (204 : Int32))]))
    obtain ⟨_, T153, L153, k153, X153, ⟨rfl, N153q, E153⟩, hS153, hk153, hZ153, hown153, C153, st153⟩ := own_callSV (s := s) (vm0 := s.vm) X0 hx hZ hown (own_w hw 0 rfl) (own_w hw 1 rfl) (own_w hw 2 rfl) (own_w hw 3 rfl) (by decide) (rm8_204 l Z a0 hw  h0 n0 Z0 ) (by decide) (by decide) hS hk hEL C0 e0 (W := 0) (g := (mkF m 44 #[.val (.int p1), .val (.int p2), .val (.int p3), .val (.int (p2 &&& (3 : Int32))), .val (.int (204 : Int32)), .unset, .unset, .unset, .unset, .unset, .unset, .unset, .unset, .unset, .unset, .unset, .unset, .unset, .unset, .unset] [(.int (204 : Int32))])) rfl (by rw [hml]; rfl) (argsL := [(.int (204 : Int32))]) (rest := []) (lenOf pd_7 rfl) rfl rfl (by show 2 * 0 + _ ≤ _; exact Nat.le_of_eq rfl) (hb hby at_44) (by decide) (by decide)
    have hS := hS153
    have hk := hk153
    have hZ := hZ153
    have hown := hown153
    have N153 := Fr.app N0 N153q
    have Z153 : n0 ≤ T153.heap.size := Nat.le_trans Z0 E153.1
    have f154 := SS.ext E153
    refine own_FinV.step st153 ?_
    show own_FinV p e below s _ _ _ (T153.setTop (mkF m 47 #[.val (.int p1), .val (.int p2), .val (.int p3), .val (.int (p2 &&& (3 : Int32))), .val (.int (204 : Int32)), .unset, .unset, .unset, .unset, .unset, .unset, .unset, .unset, .unset, .unset, .unset, .unset, .unset, .unset, .unset] [.null]))
    refine own_FinV.step (fun _ => XS.astore X153.here hx rfl (hb hby at_47) rfl rfl (l' := #[.val (.int p1), .val (.int p2), .val (.int p3), .val (.int (p2 &&& (3 : Int32))), .val (.int (204 : Int32)), .val .null, .unset, .unset, .unset, .unset, .unset, .unset, .unset, .unset, .unset, .unset, .unset, .unset, .unset, .unset]) rfl) ?_
    show own_FinV p e below s _ _ _ (T153.setTop (mkF m 49 #[.val (.int p1), .val (.int p2), .val (.int p3), .val (.int (p2 &&& (3 : Int32))), .val (.int (204 : Int32)), .val .null, .unset, .unset, .unset, .unset, .unset, .unset, .unset, .unset, .unset, .unset, .unset, .unset, .unset, .unset] []))
    refine own_FinV.step (fun _ => XS.iload X153.here hx rfl (hb hby at_49) rfl) ?_
    show own_FinV p e below s _ _ _ (T153.setTop (mkF m 51 #[.val (.int p1), .val (.int p2), .val (.int p3), .val (.int (p2 &&& (3 : Int32))), .val (.int (204 : Int32)), .val .null, .unset, .unset, .unset, .unset, .unset, .unset, .unset, .unset, .unset, .unset, .unset, .unset, .unset, .unset] [(.int (204 : Int32))]))
    refine own_FinV.step (fun _ => XS.sipush X153.here hx rfl (hb hby at_51)) ?_
    show own_FinV p e below s _ _ _ (T153.setTop (mkF m 54 #[.val (.int p1), .val (.int p2), .val (.int p3), .val (.int (p2 &&& (3 : Int32))), .val (.int (204 : Int32)), .val .null, .unset, .unset, .unset, .unset, .unset, .unset, .unset, .unset, .unset, .unset, .unset, .unset, .unset, .unset] [(.int (192 : Int32)), (.int (204 : Int32))]))
    refine own_FinV.step (fun _ => XS.icmpNo X153.here hx rfl (hb hby at_54) rfl (XT.ii_lt_f (by decide : ¬ ((204 : Int32) < (192 : Int32))))) ?_
    show own_FinV p e below s _ _ _ (T153.setTop (mkF m 57 #[.val (.int p1), .val (.int p2), .val (.int p3), .val (.int (p2 &&& (3 : Int32))), .val (.int (204 : Int32)), .val .null, .unset, .unset, .unset, .unset, .unset, .unset, .unset, .unset, .unset, .unset, .unset, .unset, .unset, .unset] []))
    refine own_FinV.step (fun _ => XS.iload X153.here hx rfl (hb hby at_57) rfl) ?_
    show own_FinV p e below s _ _ _ (T153.setTop (mkF m 59 #[.val (.int p1), .val (.int p2), .val (.int p3), .val (.int (p2 &&& (3 : Int32))), .val (.int (204 : Int32)), .val .null, .unset, .unset, .unset, .unset, .unset, .unset, .unset, .unset, .unset, .unset, .unset, .unset, .unset, .unset] [(.int (204 : Int32))]))
    refine own_FinV.step (fun _ => XS.sipush X153.here hx rfl (hb hby at_59)) ?_
    show own_FinV p e below s _ _ _ (T153.setTop (mkF m 62 #[.val (.int p1), .val (.int p2), .val (.int p3), .val (.int (p2 &&& (3 : Int32))), .val (.int (204 : Int32)), .val .null, .unset, .unset, .unset, .unset, .unset, .unset, .unset, .unset, .unset, .unset, .unset, .unset, .unset, .unset] [(.int (207 : Int32)), (.int (204 : Int32))]))
    refine own_FinV.step (fun _ => XS.icmpNo X153.here hx rfl (hb hby at_62) rfl (XT.ii_gt_f (by decide : ¬ ((207 : Int32) < (204 : Int32))))) ?_
    show own_FinV p e below s _ _ _ (T153.setTop (mkF m 65 #[.val (.int p1), .val (.int p2), .val (.int p3), .val (.int (p2 &&& (3 : Int32))), .val (.int (204 : Int32)), .val .null, .unset, .unset, .unset, .unset, .unset, .unset, .unset, .unset, .unset, .unset, .unset, .unset, .unset, .unset] []))
    refine own_FinV.step (fun _ => XS.iconst X153.here hx rfl (hb hby at_65)) ?_
    show own_FinV p e below s _ _ _ (T153.setTop (mkF m 66 #[.val (.int p1), .val (.int p2), .val (.int p3), .val (.int (p2 &&& (3 : Int32))), .val (.int (204 : Int32)), .val .null, .unset, .unset, .unset, .unset, .unset, .unset, .unset, .unset, .unset, .unset, .unset, .unset, .unset, .unset] [(.int (1 : Int32))]))
    refine own_FinV.step (fun _ => XS.goto X153.here hx rfl (pc0 := 66) (pc' := 70) rfl (hb hby at_66) (by decide) (by decide)) ?_
    show own_FinV p e below s _ _ _ (T153.setTop (mkF m 70 #[.val (.int p1), .val (.int p2), .val (.int p3), .val (.int (p2 &&& (3 : Int32))), .val (.int (204 : Int32)), .val .null, .unset, .unset, .unset, .unset, .unset, .unset, .unset, .unset, .unset, .unset, .unset, .unset, .unset, .unset] [(.int (1 : Int32))]))
    refine own_FinV.step (fun _ => XS.istore X153.here hx rfl (hb hby at_70) rfl (l' := #[.val (.int p1), .val (.int p2), .val (.int p3), .val (.int (p2 &&& (3 : Int32))), .val (.int (204 : Int32)), .val .null, .val (.int (1 : Int32)), .unset, .unset, .unset, .unset, .unset, .unset, .unset, .unset, .unset, .unset, .unset, .unset, .unset]) rfl) ?_
    show own_FinV p e below s _ _ _ (T153.setTop (mkF m 72 #[.val (.int p1), .val (.int p2), .val (.int p3), .val (.int (p2 &&& (3 : Int32))), .val (.int (204 : Int32)), .val .null, .val (.int (1 : Int32)), .unset, .unset, .unset, .unset, .unset, .unset, .unset, .unset, .unset, .unset, .unset, .unset, .unset] []))
    refine own_FinV.step (fun _ => XS.iload X153.here hx rfl (hb hby at_72) rfl) ?_
    show own_FinV p e below s _ _ _ (T153.setTop (mkF m 74 #[.val (.int p1), .val (.int p2), .val (.int p3), .val (.int (p2 &&& (3 : Int32))), .val (.int (204 : Int32)), .val .null, .val (.int (1 : Int32)), .unset, .unset, .unset, .unset, .unset, .unset, .unset, .unset, .unset, .unset, .unset, .unset, .unset] [(.int (204 : Int32))]))
    refine own_FinV.step (fun _ => XS.bipush X153.here hx rfl (hb hby at_74)) ?_
    show own_FinV p e below s _ _ _ (T153.setTop (mkF m 76 #[.val (.int p1), .val (.int p2), .val (.int p3), .val (.int (p2 &&& (3 : Int32))), .val (.int (204 : Int32)), .val .null, .val (.int (1 : Int32)), .unset, .unset, .unset, .unset, .unset, .unset, .unset, .unset, .unset, .unset, .unset, .unset, .unset] [(.int (15 : Int32)), (.int (204 : Int32))]))
    refine own_FinV.step (fun _ => XS.iand X153.here hx rfl (hb hby at_76) rfl) ?_
    show own_FinV p e below s _ _ _ (T153.setTop (mkF m 77 #[.val (.int p1), .val (.int p2), .val (.int p3), .val (.int (p2 &&& (3 : Int32))), .val (.int (204 : Int32)), .val .null, .val (.int (1 : Int32)), .unset, .unset, .unset, .unset, .unset, .unset, .unset, .unset, .unset, .unset, .unset, .unset, .unset] [(.int (12 : Int32))]))
    refine own_FinV.step (fun _ => XS.istore X153.here hx rfl (hb hby at_77) rfl (l' := #[.val (.int p1), .val (.int p2), .val (.int p3), .val (.int (p2 &&& (3 : Int32))), .val (.int (204 : Int32)), .val .null, .val (.int (1 : Int32)), .val (.int (12 : Int32)), .unset, .unset, .unset, .unset, .unset, .unset, .unset, .unset, .unset, .unset, .unset, .unset]) rfl) ?_
    show own_FinV p e below s _ _ _ (T153.setTop (mkF m 79 #[.val (.int p1), .val (.int p2), .val (.int p3), .val (.int (p2 &&& (3 : Int32))), .val (.int (204 : Int32)), .val .null, .val (.int (1 : Int32)), .val (.int (12 : Int32)), .unset, .unset, .unset, .unset, .unset, .unset, .unset, .unset, .unset, .unset, .unset, .unset] []))
    refine own_FinV.step (fun _ => XS.iload X153.here hx rfl (hb hby at_79) rfl) ?_
    show own_FinV p e below s _ _ _ (T153.setTop (mkF m 81 #[.val (.int p1), .val (.int p2), .val (.int p3), .val (.int (p2 &&& (3 : Int32))), .val (.int (204 : Int32)), .val .null, .val (.int (1 : Int32)), .val (.int (12 : Int32)), .unset, .unset, .unset, .unset, .unset, .unset, .unset, .unset, .unset, .unset, .unset, .unset] [(.int (1 : Int32))]))
    refine own_FinV.step (fun _ => XS.ifNo X153.here hx rfl (hb hby at_81) rfl (XT.i0_eq_f (by decide : ¬ ((1 : Int32) = (0 : Int32))))) ?_
    show own_FinV p e below s _ _ _ (T153.setTop (mkF m 84 #[.val (.int p1), .val (.int p2), .val (.int p3), .val (.int (p2 &&& (3 : Int32))), .val (.int (204 : Int32)), .val .null, .val (.int (1 : Int32)), .val (.int (12 : Int32)), .unset, .unset, .unset, .unset, .unset, .unset, .unset, .unset, .unset, .unset, .unset, .unset] []))
    refine own_FinV.step (fun _ => XS.iload X153.here hx rfl (hb hby at_84) rfl) ?_
    show own_FinV p e below s _ _ _ (T153.setTop (mkF m 86 #[.val (.int p1), .val (.int p2), .val (.int p3), .val (.int (p2 &&& (3 : Int32))), .val (.int (204 : Int32)), .val .null, .val (.int (1 : Int32)), .val (.int (12 : Int32)), .unset, .unset, .unset, .unset, .unset, .unset, .unset, .unset, .unset, .unset, .unset, .unset] [(.int (12 : Int32))]))
    refine own_FinV.step (fun _ => XS.iconst X153.here hx rfl (hb hby at_86)) ?_
    show own_FinV p e below s _ _ _ (T153.setTop (mkF m 87 #[.val (.int p1), .val (.int p2), .val (.int p3), .val (.int (p2 &&& (3 : Int32))), .val (.int (204 : Int32)), .val .null, .val (.int (1 : Int32)), .val (.int (12 : Int32)), .unset, .unset, .unset, .unset, .unset, .unset, .unset, .unset, .unset, .unset, .unset, .unset] [(.int (4 : Int32)), (.int (12 : Int32))]))
    refine own_FinV.step (fun _ => XS.icmpNo X153.here hx rfl (hb hby at_87) rfl (XT.ii_eq_f (by decide : ¬ ((12 : Int32) = (4 : Int32))))) ?_
    show own_FinV p e below s _ _ _ (T153.setTop (mkF m 90 #[.val (.int p1), .val (.int p2), .val (.int p3), .val (.int (p2 &&& (3 : Int32))), .val (.int (204 : Int32)), .val .null, .val (.int (1 : Int32)), .val (.int (12 : Int32)), .unset, .unset, .unset, .unset, .unset, .unset, .unset, .unset, .unset, .unset, .unset, .unset] []))
    refine own_FinV.step (fun _ => XS.iload X153.here hx rfl (hb hby at_90) rfl) ?_
    show own_FinV p e below s _ _ _ (T153.setTop (mkF m 92 #[.val (.int p1), .val (.int p2), .val (.int p3), .val (.int (p2 &&& (3 : Int32))), .val (.int (204 : Int32)), .val .null, .val (.int (1 : Int32)), .val (.int (12 : Int32)), .unset, .unset, .unset, .unset, .unset, .unset, .unset, .unset, .unset, .unset, .unset, .unset] [(.int (12 : Int32))]))
    refine own_FinV.step (fun _ => XS.bipush X153.here hx rfl (hb hby at_92)) ?_
    show own_FinV p e below s _ _ _ (T153.setTop (mkF m 94 #[.val (.int p1), .val (.int p2), .val (.int p3), .val (.int (p2 &&& (3 : Int32))), .val (.int (204 : Int32)), .val .null, .val (.int (1 : Int32)), .val (.int (12 : Int32)), .unset, .unset, .unset, .unset, .unset, .unset, .unset, .unset, .unset, .unset, .unset, .unset] [(.int (8 : Int32)), (.int (12 : Int32))]))
    refine own_FinV.step (fun _ => XS.icmpNo X153.here hx rfl (hb hby at_94) rfl (XT.ii_eq_f (by decide : ¬ ((12 : Int32) = (8 : Int32))))) ?_
    show own_FinV p e below s _ _ _ (T153.setTop (mkF m 97 #[.val (.int p1), .val (.int p2), .val (.int p3), .val (.int (p2 &&& (3 : Int32))), .val (.int (204 : Int32)), .val .null, .val (.int (1 : Int32)), .val (.int (12 : Int32)), .unset, .unset, .unset, .unset, .unset, .unset, .unset, .unset, .unset, .unset, .unset, .unset] []))
    refine own_FinV.step (fun _ => XS.iload X153.here hx rfl (hb hby at_97) rfl) ?_
    show own_FinV p e below s _ _ _ (T153.setTop (mkF m 99 #[.val (.int p1), .val (.int p2), .val (.int p3), .val (.int (p2 &&& (3 : Int32))), .val (.int (204 : Int32)), .val .null, .val (.int (1 : Int32)), .val (.int (12 : Int32)), .unset, .unset, .unset, .unset, .unset, .unset, .unset, .unset, .unset, .unset, .unset, .unset] [(.int (12 : Int32))]))
    refine own_FinV.step (fun _ => XS.bipush X153.here hx rfl (hb hby at_99)) ?_
    show own_FinV p e below s _ _ _ (T153.setTop (mkF m 101 #[.val (.int p1), .val (.int p2), .val (.int p3), .val (.int (p2 &&& (3 : Int32))), .val (.int (204 : Int32)), .val .null, .val (.int (1 : Int32)), .val (.int (12 : Int32)), .unset, .unset, .unset, .unset, .unset, .unset, .unset, .unset, .unset, .unset, .unset, .unset] [(.int (12 : Int32)), (.int (12 : Int32))]))
    refine own_FinV.step (fun _ => XS.icmpYes X153.here hx rfl (pc0 := 101) (pc' := 108) rfl (hb hby at_101) rfl (XT.ii_eq_t (by decide : (12 : Int32) = (12 : Int32))) (by decide) (by decide)) ?_
    show own_FinV p e below s _ _ _ (T153.setTop (mkF m 108 #[.val (.int p1), .val (.int p2), .val (.int p3), .val (.int (p2 &&& (3 : Int32))), .val (.int (204 : Int32)), .val .null, .val (.int (1 : Int32)), .val (.int (12 : Int32)), .unset, .unset, .unset, .unset, .unset, .unset, .unset, .unset, .unset, .unset, .unset, .unset] []))
    refine own_FinV.step (fun _ => XS.iconst X153.here hx rfl (hb hby at_108)) ?_
    show own_FinV p e below s _ _ _ (T153.setTop (mkF m 109 #[.val (.int p1), .val (.int p2), .val (.int p3), .val (.int (p2 &&& (3 : Int32))), .val (.int (204 : Int32)), .val .null, .val (.int (1 : Int32)), .val (.int (12 : Int32)), .unset, .unset, .unset, .unset, .unset, .unset, .unset, .unset, .unset, .unset, .unset, .unset] [(.int (0 : Int32))]))
    refine own_FinV.step (fun _ => XS.istore X153.here hx rfl (hb hby at_109) rfl (l' := #[.val (.int p1), .val (.int p2), .val (.int p3), .val (.int (p2 &&& (3 : Int32))), .val (.int (204 : Int32)), .val .null, .val (.int (1 : Int32)), .val (.int (12 : Int32)), .val (.int (0 : Int32)), .unset, .unset, .unset, .unset, .unset, .unset, .unset, .unset, .unset, .unset, .unset]) rfl) ?_
    show own_FinV p e below s _ _ _ (T153.setTop (mkF m 111 #[.val (.int p1), .val (.int p2), .val (.int p3), .val (.int (p2 &&& (3 : Int32))), .val (.int (204 : Int32)), .val .null, .val (.int (1 : Int32)), .val (.int (12 : Int32)), .val (.int (0 : Int32)), .unset, .unset, .unset, .unset, .unset, .unset, .unset, .unset, .unset, .unset, .unset] []))
    refine own_FinV.step (fun _ => XS.iload X153.here hx rfl (hb hby at_111) rfl) ?_
    show own_FinV p e below s _ _ _ (T153.setTop (mkF m 113 #[.val (.int p1), .val (.int p2), .val (.int p3), .val (.int (p2 &&& (3 : Int32))), .val (.int (204 : Int32)), .val .null, .val (.int (1 : Int32)), .val (.int (12 : Int32)), .val (.int (0 : Int32)), .unset, .unset, .unset, .unset, .unset, .unset, .unset, .unset, .unset, .unset, .unset] [(.int (0 : Int32))]))
    refine own_FinV.step (fun _ => XS.ifNo X153.here hx rfl (hb hby at_113) rfl (XT.i0_ne_f (by decide : (0 : Int32) = (0 : Int32)))) ?_
    show own_FinV p e below s _ _ _ (T153.setTop (mkF m 116 #[.val (.int p1), .val (.int p2), .val (.int p3), .val (.int (p2 &&& (3 : Int32))), .val (.int (204 : Int32)), .val .null, .val (.int (1 : Int32)), .val (.int (12 : Int32)), .val (.int (0 : Int32)), .unset, .unset, .unset, .unset, .unset, .unset, .unset, .unset, .unset, .unset, .unset] []))
    refine own_FinV.step (fun _ => XS.aload X153.here hx rfl (hb hby at_116) rfl rfl) ?_
    show own_FinV p e below s _ _ _ (T153.setTop (mkF m 118 #[.val (.int p1), .val (.int p2), .val (.int p3), .val (.int (p2 &&& (3 : Int32))), .val (.int (204 : Int32)), .val .null, .val (.int (1 : Int32)), .val (.int (12 : Int32)), .val (.int (0 : Int32)), .unset, .unset, .unset, .unset, .unset, .unset, .unset, .unset, .unset, .unset, .unset] [.null]))
    refine own_FinV.step (fun _ => XS.ifnonnullNo X153.here hx rfl (hb hby at_118) rfl) ?_
    show own_FinV p e below s _ _ _ (T153.setTop (mkF m 121 #[.val (.int p1), .val (.int p2), .val (.int p3), .val (.int (p2 &&& (3 : Int32))), .val (.int (204 : Int32)), .val .null, .val (.int (1 : Int32)), .val (.int (12 : Int32)), .val (.int (0 : Int32)), .unset, .unset, .unset, .unset, .unset, .unset, .unset, .unset, .unset, .unset, .unset] []))
    refine own_FinV.step (fun _ => XS.iconst X153.here hx rfl (hb hby at_121)) ?_
    show own_FinV p e below s _ _ _ (T153.setTop (mkF m 122 #[.val (.int p1), .val (.int p2), .val (.int p3), .val (.int (p2 &&& (3 : Int32))), .val (.int (204 : Int32)), .val .null, .val (.int (1 : Int32)), .val (.int (12 : Int32)), .val (.int (0 : Int32)), .unset, .unset, .unset, .unset, .unset, .unset, .unset, .unset, .unset, .unset, .unset] [(.int (1 : Int32))]))
    refine own_FinV.step (fun _ => XS.goto X153.here hx rfl (pc0 := 122) (pc' := 126) rfl (hb hby at_122) (by decide) (by decide)) ?_
    show own_FinV p e below s _ _ _ (T153.setTop (mkF m 126 #[.val (.int p1), .val (.int p2), .val (.int p3), .val (.int (p2 &&& (3 : Int32))), .val (.int (204 : Int32)), .val .null, .val (.int (1 : Int32)), .val (.int (12 : Int32)), .val (.int (0 : Int32)), .unset, .unset, .unset, .unset, .unset, .unset, .unset, .unset, .unset, .unset, .unset] [(.int (1 : Int32))]))
    exact own_retNV X153 hS hk rfl hZ hEL C153 hx hlk (t := .boolean) hret (by simp) (hb hby at_126) ⟨rfl, N153⟩ (by decide) (by decide)
  ·
    show own_FinV p e below s _ _ _ (s₁.setTop (mkF m 42 #[.val (.int p1), .val (.int p2), .val (.int p3), .val (.int (p2 &&& (3 : Int32))), .val (.int (205 : Int32)), .unset, .unset, .unset, .unset, .unset, .unset, .unset, .unset, .unset, .unset, .unset, .unset, .unset, .unset, .unset] []))
    refine own_FinV.step (fun _ => XS.iload X0.here hx rfl (hb hby at_42) rfl) ?_
    show own_FinV p e below s _ _ _ (s₁.setTop (mkF m 44 #[.val (.int p1), .val (.int p2), .val (.int p3), .val (.int (p2 &&& (3 : Int32))), .val (.int (205 : Int32)), .unset, .unset, .unset, .unset, .unset, .unset, .unset, .unset, .unset, .unset, .unset, .unset, .unset, .unset, .unset] [(.int (205 : Int32))]))
    obtain ⟨_, T155, L155, k155, X155, ⟨b155, rfl, N155q, E155, St155⟩, hS155, hk155, hZ155, hown155, C155, st155⟩ := own_callSV (s := s) (vm0 := s.vm) X0 hx hZ hown (own_w hw 0 rfl) (own_w hw 1 rfl) (own_w hw 2 rfl) (own_w hw 3 rfl) (by decide) (rm8_205 l Z a0 hw  h0 n0 Z0 ) (by decide) (by decide) hS hk hEL C0 e0 (W := 0) (g := (mkF m 44 #[.val (.int p1), .val (.int p2), .val (.int p3), .val (.int (p2 &&& (3 : Int32))), .val (.int (205 : Int32)), .unset, .unset, .unset, .unset, .unset, .unset, .unset, .unset, .unset, .unset, .unset, .unset, .unset, .unset, .unset] [(.int (205 : Int32))])) rfl (by rw [hml]; rfl) (argsL := [(.int (205 : Int32))]) (rest := []) (lenOf pd_7 rfl) rfl rfl (by show 2 * 0 + _ ≤ _; exact Nat.le_of_eq rfl) (hb hby at_44) (by decide) (by decide)
    have hS := hS155
    have hk := hk155
    have hZ := hZ155
    have hown := hown155
    have N155 := Fr.app N0 N155q
    have Z155 : n0 ≤ T155.heap.size := Nat.le_trans Z0 E155.1
    have f156 := SS.ext E155
    refine own_FinV.step st155 ?_
    show own_FinV p e below s _ _ _ (T155.setTop (mkF m 47 #[.val (.int p1), .val (.int p2), .val (.int p3), .val (.int (p2 &&& (3 : Int32))), .val (.int (205 : Int32)), .unset, .unset, .unset, .unset, .unset, .unset, .unset, .unset, .unset, .unset, .unset, .unset, .unset, .unset, .unset] [(.ref b155)]))
    refine own_FinV.step (fun _ => XS.astore X155.here hx rfl (hb hby at_47) rfl rfl (l' := #[.val (.int p1), .val (.int p2), .val (.int p3), .val (.int (p2 &&& (3 : Int32))), .val (.int (205 : Int32)), .val (.ref b155), .unset, .unset, .unset, .unset, .unset, .unset, .unset, .unset, .unset, .unset, .unset, .unset, .unset, .unset]) rfl) ?_
    show own_FinV p e below s _ _ _ (T155.setTop (mkF m 49 #[.val (.int p1), .val (.int p2), .val (.int p3), .val (.int (p2 &&& (3 : Int32))), .val (.int (205 : Int32)), .val (.ref b155), .unset, .unset, .unset, .unset, .unset, .unset, .unset, .unset, .unset, .unset, .unset, .unset, .unset, .unset] []))
    refine own_FinV.step (fun _ => XS.iload X155.here hx rfl (hb hby at_49) rfl) ?_
    show own_FinV p e below s _ _ _ (T155.setTop (mkF m 51 #[.val (.int p1), .val (.int p2), .val (.int p3), .val (.int (p2 &&& (3 : Int32))), .val (.int (205 : Int32)), .val (.ref b155), .unset, .unset, .unset, .unset, .unset, .unset, .unset, .unset, .unset, .unset, .unset, .unset, .unset, .unset] [(.int (205 : Int32))]))
    refine own_FinV.step (fun _ => XS.sipush X155.here hx rfl (hb hby at_51)) ?_
    show own_FinV p e below s _ _ _ (T155.setTop (mkF m 54 #[.val (.int p1), .val (.int p2), .val (.int p3), .val (.int (p2 &&& (3 : Int32))), .val (.int (205 : Int32)), .val (.ref b155), .unset, .unset, .unset, .unset, .unset, .unset, .unset, .unset, .unset, .unset, .unset, .unset, .unset, .unset] [(.int (192 : Int32)), (.int (205 : Int32))]))
    refine own_FinV.step (fun _ => XS.icmpNo X155.here hx rfl (hb hby at_54) rfl (XT.ii_lt_f (by decide : ¬ ((205 : Int32) < (192 : Int32))))) ?_
    show own_FinV p e below s _ _ _ (T155.setTop (mkF m 57 #[.val (.int p1), .val (.int p2), .val (.int p3), .val (.int (p2 &&& (3 : Int32))), .val (.int (205 : Int32)), .val (.ref b155), .unset, .unset, .unset, .unset, .unset, .unset, .unset, .unset, .unset, .unset, .unset, .unset, .unset, .unset] []))
    refine own_FinV.step (fun _ => XS.iload X155.here hx rfl (hb hby at_57) rfl) ?_
    show own_FinV p e below s _ _ _ (T155.setTop (mkF m 59 #[.val (.int p1), .val (.int p2), .val (.int p3), .val (.int (p2 &&& (3 : Int32))), .val (.int (205 : Int32)), .val (.ref b155), .unset, .unset, .unset, .unset, .unset, .unset, .unset, .unset, .unset, .unset, .unset, .unset, .unset, .unset] [(.int (205 : Int32))]))
    refine own_FinV.step (fun _ => XS.sipush X155.here hx rfl (hb hby at_59)) ?_
    show own_FinV p e below s _ _ _ (T155.setTop (mkF m 62 #[.val (.int p1), .val (.int p2), .val (.int p3), .val (.int (p2 &&& (3 : Int32))), .val (.int (205 : Int32)), .val (.ref b155), .unset, .unset, .unset, .unset, .unset, .unset, .unset, .unset, .unset, .unset, .unset, .unset, .unset, .unset] [(.int (207 : Int32)), (.int (205 : Int32))]))
    refine own_FinV.step (fun _ => XS.icmpNo X155.here hx rfl (hb hby at_62) rfl (XT.ii_gt_f (by decide : ¬ ((207 : Int32) < (205 : Int32))))) ?_
    show own_FinV p e below s _ _ _ (T155.setTop (mkF m 65 #[.val (.int p1), .val (.int p2), .val (.int p3), .val (.int (p2 &&& (3 : Int32))), .val (.int (205 : Int32)), .val (.ref b155), .unset, .unset, .unset, .unset, .unset, .unset, .unset, .unset, .unset, .unset, .unset, .unset, .unset, .unset] []))
    refine own_FinV.step (fun _ => XS.iconst X155.here hx rfl (hb hby at_65)) ?_
    show own_FinV p e below s _ _ _ (T155.setTop (mkF m 66 #[.val (.int p1), .val (.int p2), .val (.int p3), .val (.int (p2 &&& (3 : Int32))), .val (.int (205 : Int32)), .val (.ref b155), .unset, .unset, .unset, .unset, .unset, .unset, .unset, .unset, .unset, .unset, .unset, .unset, .unset, .unset] [(.int (1 : Int32))]))
    refine own_FinV.step (fun _ => XS.goto X155.here hx rfl (pc0 := 66) (pc' := 70) rfl (hb hby at_66) (by decide) (by decide)) ?_
    show own_FinV p e below s _ _ _ (T155.setTop (mkF m 70 #[.val (.int p1), .val (.int p2), .val (.int p3), .val (.int (p2 &&& (3 : Int32))), .val (.int (205 : Int32)), .val (.ref b155), .unset, .unset, .unset, .unset, .unset, .unset, .unset, .unset, .unset, .unset, .unset, .unset, .unset, .unset] [(.int (1 : Int32))]))
    refine own_FinV.step (fun _ => XS.istore X155.here hx rfl (hb hby at_70) rfl (l' := #[.val (.int p1), .val (.int p2), .val (.int p3), .val (.int (p2 &&& (3 : Int32))), .val (.int (205 : Int32)), .val (.ref b155), .val (.int (1 : Int32)), .unset, .unset, .unset, .unset, .unset, .unset, .unset, .unset, .unset, .unset, .unset, .unset, .unset]) rfl) ?_
    show own_FinV p e below s _ _ _ (T155.setTop (mkF m 72 #[.val (.int p1), .val (.int p2), .val (.int p3), .val (.int (p2 &&& (3 : Int32))), .val (.int (205 : Int32)), .val (.ref b155), .val (.int (1 : Int32)), .unset, .unset, .unset, .unset, .unset, .unset, .unset, .unset, .unset, .unset, .unset, .unset, .unset] []))
    refine own_FinV.step (fun _ => XS.iload X155.here hx rfl (hb hby at_72) rfl) ?_
    show own_FinV p e below s _ _ _ (T155.setTop (mkF m 74 #[.val (.int p1), .val (.int p2), .val (.int p3), .val (.int (p2 &&& (3 : Int32))), .val (.int (205 : Int32)), .val (.ref b155), .val (.int (1 : Int32)), .unset, .unset, .unset, .unset, .unset, .unset, .unset, .unset, .unset, .unset, .unset, .unset, .unset] [(.int (205 : Int32))]))
    refine own_FinV.step (fun _ => XS.bipush X155.here hx rfl (hb hby at_74)) ?_
    show own_FinV p e below s _ _ _ (T155.setTop (mkF m 76 #[.val (.int p1), .val (.int p2), .val (.int p3), .val (.int (p2 &&& (3 : Int32))), .val (.int (205 : Int32)), .val (.ref b155), .val (.int (1 : Int32)), .unset, .unset, .unset, .unset, .unset, .unset, .unset, .unset, .unset, .unset, .unset, .unset, .unset] [(.int (15 : Int32)), (.int (205 : Int32))]))
    refine own_FinV.step (fun _ => XS.iand X155.here hx rfl (hb hby at_76) rfl) ?_
    show own_FinV p e below s _ _ _ (T155.setTop (mkF m 77 #[.val (.int p1), .val (.int p2), .val (.int p3), .val (.int (p2 &&& (3 : Int32))), .val (.int (205 : Int32)), .val (.ref b155), .val (.int (1 : Int32)), .unset, .unset, .unset, .unset, .unset, .unset, .unset, .unset, .unset, .unset, .unset, .unset, .unset] [(.int (13 : Int32))]))
    refine own_FinV.step (fun _ => XS.istore X155.here hx rfl (hb hby at_77) rfl (l' := #[.val (.int p1), .val (.int p2), .val (.int p3), .val (.int (p2 &&& (3 : Int32))), .val (.int (205 : Int32)), .val (.ref b155), .val (.int (1 : Int32)), .val (.int (13 : Int32)), .unset, .unset, .unset, .unset, .unset, .unset, .unset, .unset, .unset, .unset, .unset, .unset]) rfl) ?_
    show own_FinV p e below s _ _ _ (T155.setTop (mkF m 79 #[.val (.int p1), .val (.int p2), .val (.int p3), .val (.int (p2 &&& (3 : Int32))), .val (.int (205 : Int32)), .val (.ref b155), .val (.int (1 : Int32)), .val (.int (13 : Int32)), .unset, .unset, .unset, .unset, .unset, .unset, .unset, .unset, .unset, .unset, .unset, .unset] []))
    refine own_FinV.step (fun _ => XS.iload X155.here hx rfl (hb hby at_79) rfl) ?_
    show own_FinV p e below s _ _ _ (T155.setTop (mkF m 81 #[.val (.int p1), .val (.int p2), .val (.int p3), .val (.int (p2 &&& (3 : Int32))), .val (.int (205 : Int32)), .val (.ref b155), .val (.int (1 : Int32)), .val (.int (13 : Int32)), .unset, .unset, .unset, .unset, .unset, .unset, .unset, .unset, .unset, .unset, .unset, .unset] [(.int (1 : Int32))]))
    refine own_FinV.step (fun _ => XS.ifNo X155.here hx rfl (hb hby at_81) rfl (XT.i0_eq_f (by decide : ¬ ((1 : Int32) = (0 : Int32))))) ?_
    show own_FinV p e below s _ _ _ (T155.setTop (mkF m 84 #[.val (.int p1), .val (.int p2), .val (.int p3), .val (.int (p2 &&& (3 : Int32))), .val (.int (205 : Int32)), .val (.ref b155), .val (.int (1 : Int32)), .val (.int (13 : Int32)), .unset, .unset, .unset, .unset, .unset, .unset, .unset, .unset, .unset, .unset, .unset, .unset] []))
    refine own_FinV.step (fun _ => XS.iload X155.here hx rfl (hb hby at_84) rfl) ?_
    show own_FinV p e below s _ _ _ (T155.setTop (mkF m 86 #[.val (.int p1), .val (.int p2), .val (.int p3), .val (.int (p2 &&& (3 : Int32))), .val (.int (205 : Int32)), .val (.ref b155), .val (.int (1 : Int32)), .val (.int (13 : Int32)), .unset, .unset, .unset, .unset, .unset, .unset, .unset, .unset, .unset, .unset, .unset, .unset] [(.int (13 : Int32))]))
    refine own_FinV.step (fun _ => XS.iconst X155.here hx rfl (hb hby at_86)) ?_
    show own_FinV p e below s _ _ _ (T155.setTop (mkF m 87 #[.val (.int p1), .val (.int p2), .val (.int p3), .val (.int (p2 &&& (3 : Int32))), .val (.int (205 : Int32)), .val (.ref b155), .val (.int (1 : Int32)), .val (.int (13 : Int32)), .unset, .unset, .unset, .unset, .unset, .unset, .unset, .unset, .unset, .unset, .unset, .unset] [(.int (4 : Int32)), (.int (13 : Int32))]))
    refine own_FinV.step (fun _ => XS.icmpNo X155.here hx rfl (hb hby at_87) rfl (XT.ii_eq_f (by decide : ¬ ((13 : Int32) = (4 : Int32))))) ?_
    show own_FinV p e below s _ _ _ (T155.setTop (mkF m 90 #[.val (.int p1), .val (.int p2), .val (.int p3), .val (.int (p2 &&& (3 : Int32))), .val (.int (205 : Int32)), .val (.ref b155), .val (.int (1 : Int32)), .val (.int (13 : Int32)), .unset, .unset, .unset, .unset, .unset, .unset, .unset, .unset, .unset, .unset, .unset, .unset] []))
    refine own_FinV.step (fun _ => XS.iload X155.here hx rfl (hb hby at_90) rfl) ?_
    show own_FinV p e below s _ _ _ (T155.setTop (mkF m 92 #[.val (.int p1), .val (.int p2), .val (.int p3), .val (.int (p2 &&& (3 : Int32))), .val (.int (205 : Int32)), .val (.ref b155), .val (.int (1 : Int32)), .val (.int (13 : Int32)), .unset, .unset, .unset, .unset, .unset, .unset, .unset, .unset, .unset, .unset, .unset, .unset] [(.int (13 : Int32))]))
    refine own_FinV.step (fun _ => XS.bipush X155.here hx rfl (hb hby at_92)) ?_
    show own_FinV p e below s _ _ _ (T155.setTop (mkF m 94 #[.val (.int p1), .val (.int p2), .val (.int p3), .val (.int (p2 &&& (3 : Int32))), .val (.int (205 : Int32)), .val (.ref b155), .val (.int (1 : Int32)), .val (.int (13 : Int32)), .unset, .unset, .unset, .unset, .unset, .unset, .unset, .unset, .unset, .unset, .unset, .unset] [(.int (8 : Int32)), (.int (13 : Int32))]))
    refine own_FinV.step (fun _ => XS.icmpNo X155.here hx rfl (hb hby at_94) rfl (XT.ii_eq_f (by decide : ¬ ((13 : Int32) = (8 : Int32))))) ?_
    show own_FinV p e below s _ _ _ (T155.setTop (mkF m 97 #[.val (.int p1), .val (.int p2), .val (.int p3), .val (.int (p2 &&& (3 : Int32))), .val (.int (205 : Int32)), .val (.ref b155), .val (.int (1 : Int32)), .val (.int (13 : Int32)), .unset, .unset, .unset, .unset, .unset, .unset, .unset, .unset, .unset, .unset, .unset, .unset] []))
    refine own_FinV.step (fun _ => XS.iload X155.here hx rfl (hb hby at_97) rfl) ?_
    show own_FinV p e below s _ _ _ (T155.setTop (mkF m 99 #[.val (.int p1), .val (.int p2), .val (.int p3), .val (.int (p2 &&& (3 : Int32))), .val (.int (205 : Int32)), .val (.ref b155), .val (.int (1 : Int32)), .val (.int (13 : Int32)), .unset, .unset, .unset, .unset, .unset, .unset, .unset, .unset, .unset, .unset, .unset, .unset] [(.int (13 : Int32))]))
    refine own_FinV.step (fun _ => XS.bipush X155.here hx rfl (hb hby at_99)) ?_
    show own_FinV p e below s _ _ _ (T155.setTop (mkF m 101 #[.val (.int p1), .val (.int p2), .val (.int p3), .val (.int (p2 &&& (3 : Int32))), .val (.int (205 : Int32)), .val (.ref b155), .val (.int (1 : Int32)), .val (.int (13 : Int32)), .unset, .unset, .unset, .unset, .unset, .unset, .unset, .unset, .unset, .unset, .unset, .unset] [(.int (12 : Int32)), (.int (13 : Int32))]))
    refine own_FinV.step (fun _ => XS.icmpNo X155.here hx rfl (hb hby at_101) rfl (XT.ii_eq_f (by decide : ¬ ((13 : Int32) = (12 : Int32))))) ?_
    show own_FinV p e below s _ _ _ (T155.setTop (mkF m 104 #[.val (.int p1), .val (.int p2), .val (.int p3), .val (.int (p2 &&& (3 : Int32))), .val (.int (205 : Int32)), .val (.ref b155), .val (.int (1 : Int32)), .val (.int (13 : Int32)), .unset, .unset, .unset, .unset, .unset, .unset, .unset, .unset, .unset, .unset, .unset, .unset] []))
    refine own_FinV.step (fun _ => XS.iconst X155.here hx rfl (hb hby at_104)) ?_
    show own_FinV p e below s _ _ _ (T155.setTop (mkF m 105 #[.val (.int p1), .val (.int p2), .val (.int p3), .val (.int (p2 &&& (3 : Int32))), .val (.int (205 : Int32)), .val (.ref b155), .val (.int (1 : Int32)), .val (.int (13 : Int32)), .unset, .unset, .unset, .unset, .unset, .unset, .unset, .unset, .unset, .unset, .unset, .unset] [(.int (1 : Int32))]))
    refine own_FinV.step (fun _ => XS.goto X155.here hx rfl (pc0 := 105) (pc' := 109) rfl (hb hby at_105) (by decide) (by decide)) ?_
    show own_FinV p e below s _ _ _ (T155.setTop (mkF m 109 #[.val (.int p1), .val (.int p2), .val (.int p3), .val (.int (p2 &&& (3 : Int32))), .val (.int (205 : Int32)), .val (.ref b155), .val (.int (1 : Int32)), .val (.int (13 : Int32)), .unset, .unset, .unset, .unset, .unset, .unset, .unset, .unset, .unset, .unset, .unset, .unset] [(.int (1 : Int32))]))
    refine own_FinV.step (fun _ => XS.istore X155.here hx rfl (hb hby at_109) rfl (l' := #[.val (.int p1), .val (.int p2), .val (.int p3), .val (.int (p2 &&& (3 : Int32))), .val (.int (205 : Int32)), .val (.ref b155), .val (.int (1 : Int32)), .val (.int (13 : Int32)), .val (.int (1 : Int32)), .unset, .unset, .unset, .unset, .unset, .unset, .unset, .unset, .unset, .unset, .unset]) rfl) ?_
    show own_FinV p e below s _ _ _ (T155.setTop (mkF m 111 #[.val (.int p1), .val (.int p2), .val (.int p3), .val (.int (p2 &&& (3 : Int32))), .val (.int (205 : Int32)), .val (.ref b155), .val (.int (1 : Int32)), .val (.int (13 : Int32)), .val (.int (1 : Int32)), .unset, .unset, .unset, .unset, .unset, .unset, .unset, .unset, .unset, .unset, .unset] []))
    refine own_FinV.step (fun _ => XS.iload X155.here hx rfl (hb hby at_111) rfl) ?_
    show own_FinV p e below s _ _ _ (T155.setTop (mkF m 113 #[.val (.int p1), .val (.int p2), .val (.int p3), .val (.int (p2 &&& (3 : Int32))), .val (.int (205 : Int32)), .val (.ref b155), .val (.int (1 : Int32)), .val (.int (13 : Int32)), .val (.int (1 : Int32)), .unset, .unset, .unset, .unset, .unset, .unset, .unset, .unset, .unset, .unset, .unset] [(.int (1 : Int32))]))
    refine own_FinV.step (fun _ => XS.ifYes X155.here hx rfl (pc0 := 113) (pc' := 127) rfl (hb hby at_113) rfl (XT.i0_ne_t (by decide : ¬ ((1 : Int32) = (0 : Int32)))) (by decide) (by decide)) ?_
    show own_FinV p e below s _ _ _ (T155.setTop (mkF m 127 #[.val (.int p1), .val (.int p2), .val (.int p3), .val (.int (p2 &&& (3 : Int32))), .val (.int (205 : Int32)), .val (.ref b155), .val (.int (1 : Int32)), .val (.int (13 : Int32)), .val (.int (1 : Int32)), .unset, .unset, .unset, .unset, .unset, .unset, .unset, .unset, .unset, .unset, .unset] []))
    refine own_FinV.step (fun _ => XS.aload X155.here hx rfl (hb hby at_127) rfl rfl) ?_
    show own_FinV p e below s _ _ _ (T155.setTop (mkF m 129 #[.val (.int p1), .val (.int p2), .val (.int p3), .val (.int (p2 &&& (3 : Int32))), .val (.int (205 : Int32)), .val (.ref b155), .val (.int (1 : Int32)), .val (.int (13 : Int32)), .val (.int (1 : Int32)), .unset, .unset, .unset, .unset, .unset, .unset, .unset, .unset, .unset, .unset, .unset] [(.ref b155)]))
    refine own_FinV.step (fun _ => XS.ifnonnullYes X155.here hx rfl (pc0 := 129) (pc' := 134) rfl (hb hby at_129) rfl (by decide) (by decide)) ?_
    show own_FinV p e below s _ _ _ (T155.setTop (mkF m 134 #[.val (.int p1), .val (.int p2), .val (.int p3), .val (.int (p2 &&& (3 : Int32))), .val (.int (205 : Int32)), .val (.ref b155), .val (.int (1 : Int32)), .val (.int (13 : Int32)), .val (.int (1 : Int32)), .unset, .unset, .unset, .unset, .unset, .unset, .unset, .unset, .unset, .unset, .unset] []))
    refine own_FinV.step (fun _ => XS.iload X155.here hx rfl (hb hby at_134) rfl) ?_
    show own_FinV p e below s _ _ _ (T155.setTop (mkF m 136 #[.val (.int p1), .val (.int p2), .val (.int p3), .val (.int (p2 &&& (3 : Int32))), .val (.int (205 : Int32)), .val (.ref b155), .val (.int (1 : Int32)), .val (.int (13 : Int32)), .val (.int (1 : Int32)), .unset, .unset, .unset, .unset, .unset, .unset, .unset, .unset, .unset, .unset, .unset] [(.int (13 : Int32))]))
    refine own_FinV.step (fun _ => XS.iconst X155.here hx rfl (hb hby at_136)) ?_
    show own_FinV p e below s _ _ _ (T155.setTop (mkF m 137 #[.val (.int p1), .val (.int p2), .val (.int p3), .val (.int (p2 &&& (3 : Int32))), .val (.int (205 : Int32)), .val (.ref b155), .val (.int (1 : Int32)), .val (.int (13 : Int32)), .val (.int (1 : Int32)), .unset, .unset, .unset, .unset, .unset, .unset, .unset, .unset, .unset, .unset, .unset] [(.int (4 : Int32)), (.int (13 : Int32))]))
    refine own_FinV.step (fun _ => XS.iand X155.here hx rfl (hb hby at_137) rfl) ?_
    show own_FinV p e below s _ _ _ (T155.setTop (mkF m 138 #[.val (.int p1), .val (.int p2), .val (.int p3), .val (.int (p2 &&& (3 : Int32))), .val (.int (205 : Int32)), .val (.ref b155), .val (.int (1 : Int32)), .val (.int (13 : Int32)), .val (.int (1 : Int32)), .unset, .unset, .unset, .unset, .unset, .unset, .unset, .unset, .unset, .unset, .unset] [(.int (4 : Int32))]))
    refine own_FinV.step (fun _ => XS.ifNo X155.here hx rfl (hb hby at_138) rfl (XT.i0_eq_f (by decide : ¬ ((4 : Int32) = (0 : Int32))))) ?_
    show own_FinV p e below s _ _ _ (T155.setTop (mkF m 141 #[.val (.int p1), .val (.int p2), .val (.int p3), .val (.int (p2 &&& (3 : Int32))), .val (.int (205 : Int32)), .val (.ref b155), .val (.int (1 : Int32)), .val (.int (13 : Int32)), .val (.int (1 : Int32)), .unset, .unset, .unset, .unset, .unset, .unset, .unset, .unset, .unset, .unset, .unset] []))
    refine own_FinV.step (fun _ => XS.iconst X155.here hx rfl (hb hby at_141)) ?_
    show own_FinV p e below s _ _ _ (T155.setTop (mkF m 142 #[.val (.int p1), .val (.int p2), .val (.int p3), .val (.int (p2 &&& (3 : Int32))), .val (.int (205 : Int32)), .val (.ref b155), .val (.int (1 : Int32)), .val (.int (13 : Int32)), .val (.int (1 : Int32)), .unset, .unset, .unset, .unset, .unset, .unset, .unset, .unset, .unset, .unset, .unset] [(.int (1 : Int32))]))
    refine own_FinV.step (fun _ => XS.goto X155.here hx rfl (pc0 := 142) (pc' := 146) rfl (hb hby at_142) (by decide) (by decide)) ?_
    show own_FinV p e below s _ _ _ (T155.setTop (mkF m 146 #[.val (.int p1), .val (.int p2), .val (.int p3), .val (.int (p2 &&& (3 : Int32))), .val (.int (205 : Int32)), .val (.ref b155), .val (.int (1 : Int32)), .val (.int (13 : Int32)), .val (.int (1 : Int32)), .unset, .unset, .unset, .unset, .unset, .unset, .unset, .unset, .unset, .unset, .unset] [(.int (1 : Int32))]))
    refine own_FinV.step (fun _ => XS.istore X155.here hx rfl (hb hby at_146) rfl (l' := #[.val (.int p1), .val (.int p2), .val (.int p3), .val (.int (p2 &&& (3 : Int32))), .val (.int (205 : Int32)), .val (.ref b155), .val (.int (1 : Int32)), .val (.int (13 : Int32)), .val (.int (1 : Int32)), .val (.int (1 : Int32)), .unset, .unset, .unset, .unset, .unset, .unset, .unset, .unset, .unset, .unset]) rfl) ?_
    show own_FinV p e below s _ _ _ (T155.setTop (mkF m 148 #[.val (.int p1), .val (.int p2), .val (.int p3), .val (.int (p2 &&& (3 : Int32))), .val (.int (205 : Int32)), .val (.ref b155), .val (.int (1 : Int32)), .val (.int (13 : Int32)), .val (.int (1 : Int32)), .val (.int (1 : Int32)), .unset, .unset, .unset, .unset, .unset, .unset, .unset, .unset, .unset, .unset] []))
    refine own_FinV.step (fun _ => XS.iload X155.here hx rfl (hb hby at_148) rfl) ?_
    show own_FinV p e below s _ _ _ (T155.setTop (mkF m 150 #[.val (.int p1), .val (.int p2), .val (.int p3), .val (.int (p2 &&& (3 : Int32))), .val (.int (205 : Int32)), .val (.ref b155), .val (.int (1 : Int32)), .val (.int (13 : Int32)), .val (.int (1 : Int32)), .val (.int (1 : Int32)), .unset, .unset, .unset, .unset, .unset, .unset, .unset, .unset, .unset, .unset] [(.int (13 : Int32))]))
    refine own_FinV.step (fun _ => XS.bipush X155.here hx rfl (hb hby at_150)) ?_
    show own_FinV p e below s _ _ _ (T155.setTop (mkF m 152 #[.val (.int p1), .val (.int p2), .val (.int p3), .val (.int (p2 &&& (3 : Int32))), .val (.int (205 : Int32)), .val (.ref b155), .val (.int (1 : Int32)), .val (.int (13 : Int32)), .val (.int (1 : Int32)), .val (.int (1 : Int32)), .unset, .unset, .unset, .unset, .unset, .unset, .unset, .unset, .unset, .unset] [(.int (8 : Int32)), (.int (13 : Int32))]))
    refine own_FinV.step (fun _ => XS.iand X155.here hx rfl (hb hby at_152) rfl) ?_
    show own_FinV p e below s _ _ _ (T155.setTop (mkF m 153 #[.val (.int p1), .val (.int p2), .val (.int p3), .val (.int (p2 &&& (3 : Int32))), .val (.int (205 : Int32)), .val (.ref b155), .val (.int (1 : Int32)), .val (.int (13 : Int32)), .val (.int (1 : Int32)), .val (.int (1 : Int32)), .unset, .unset, .unset, .unset, .unset, .unset, .unset, .unset, .unset, .unset] [(.int (8 : Int32))]))
    refine own_FinV.step (fun _ => XS.ifNo X155.here hx rfl (hb hby at_153) rfl (XT.i0_eq_f (by decide : ¬ ((8 : Int32) = (0 : Int32))))) ?_
    show own_FinV p e below s _ _ _ (T155.setTop (mkF m 156 #[.val (.int p1), .val (.int p2), .val (.int p3), .val (.int (p2 &&& (3 : Int32))), .val (.int (205 : Int32)), .val (.ref b155), .val (.int (1 : Int32)), .val (.int (13 : Int32)), .val (.int (1 : Int32)), .val (.int (1 : Int32)), .unset, .unset, .unset, .unset, .unset, .unset, .unset, .unset, .unset, .unset] []))
    refine own_FinV.step (fun _ => XS.iconst X155.here hx rfl (hb hby at_156)) ?_
    show own_FinV p e below s _ _ _ (T155.setTop (mkF m 157 #[.val (.int p1), .val (.int p2), .val (.int p3), .val (.int (p2 &&& (3 : Int32))), .val (.int (205 : Int32)), .val (.ref b155), .val (.int (1 : Int32)), .val (.int (13 : Int32)), .val (.int (1 : Int32)), .val (.int (1 : Int32)), .unset, .unset, .unset, .unset, .unset, .unset, .unset, .unset, .unset, .unset] [(.int (1 : Int32))]))
    refine own_FinV.step (fun _ => XS.goto X155.here hx rfl (pc0 := 157) (pc' := 161) rfl (hb hby at_157) (by decide) (by decide)) ?_
    show own_FinV p e below s _ _ _ (T155.setTop (mkF m 161 #[.val (.int p1), .val (.int p2), .val (.int p3), .val (.int (p2 &&& (3 : Int32))), .val (.int (205 : Int32)), .val (.ref b155), .val (.int (1 : Int32)), .val (.int (13 : Int32)), .val (.int (1 : Int32)), .val (.int (1 : Int32)), .unset, .unset, .unset, .unset, .unset, .unset, .unset, .unset, .unset, .unset] [(.int (1 : Int32))]))
    refine own_FinV.step (fun _ => XS.istore X155.here hx rfl (hb hby at_161) rfl (l' := #[.val (.int p1), .val (.int p2), .val (.int p3), .val (.int (p2 &&& (3 : Int32))), .val (.int (205 : Int32)), .val (.ref b155), .val (.int (1 : Int32)), .val (.int (13 : Int32)), .val (.int (1 : Int32)), .val (.int (1 : Int32)), .val (.int (1 : Int32)), .unset, .unset, .unset, .unset, .unset, .unset, .unset, .unset, .unset]) rfl) ?_
    show own_FinV p e below s _ _ _ (T155.setTop (mkF m 163 #[.val (.int p1), .val (.int p2), .val (.int p3), .val (.int (p2 &&& (3 : Int32))), .val (.int (205 : Int32)), .val (.ref b155), .val (.int (1 : Int32)), .val (.int (13 : Int32)), .val (.int (1 : Int32)), .val (.int (1 : Int32)), .val (.int (1 : Int32)), .unset, .unset, .unset, .unset, .unset, .unset, .unset, .unset, .unset] []))
    refine own_FinV.step (fun _ => XS.iload X155.here hx rfl (hb hby at_163) rfl) ?_
    show own_FinV p e below s _ _ _ (T155.setTop (mkF m 165 #[.val (.int p1), .val (.int p2), .val (.int p3), .val (.int (p2 &&& (3 : Int32))), .val (.int (205 : Int32)), .val (.ref b155), .val (.int (1 : Int32)), .val (.int (13 : Int32)), .val (.int (1 : Int32)), .val (.int (1 : Int32)), .val (.int (1 : Int32)), .unset, .unset, .unset, .unset, .unset, .unset, .unset, .unset, .unset] [(.int (13 : Int32))]))
    refine own_FinV.step (fun _ => XS.iconst X155.here hx rfl (hb hby at_165)) ?_
    show own_FinV p e below s _ _ _ (T155.setTop (mkF m 166 #[.val (.int p1), .val (.int p2), .val (.int p3), .val (.int (p2 &&& (3 : Int32))), .val (.int (205 : Int32)), .val (.ref b155), .val (.int (1 : Int32)), .val (.int (13 : Int32)), .val (.int (1 : Int32)), .val (.int (1 : Int32)), .val (.int (1 : Int32)), .unset, .unset, .unset, .unset, .unset, .unset, .unset, .unset, .unset] [(.int (3 : Int32)), (.int (13 : Int32))]))
    refine own_FinV.step (fun _ => XS.iand X155.here hx rfl (hb hby at_166) rfl) ?_
    show own_FinV p e below s _ _ _ (T155.setTop (mkF m 167 #[.val (.int p1), .val (.int p2), .val (.int p3), .val (.int (p2 &&& (3 : Int32))), .val (.int (205 : Int32)), .val (.ref b155), .val (.int (1 : Int32)), .val (.int (13 : Int32)), .val (.int (1 : Int32)), .val (.int (1 : Int32)), .val (.int (1 : Int32)), .unset, .unset, .unset, .unset, .unset, .unset, .unset, .unset, .unset] [(.int (1 : Int32))]))
    refine own_FinV.step (fun _ => XS.istore X155.here hx rfl (hb hby at_167) rfl (l' := #[.val (.int p1), .val (.int p2), .val (.int p3), .val (.int (p2 &&& (3 : Int32))), .val (.int (205 : Int32)), .val (.ref b155), .val (.int (1 : Int32)), .val (.int (13 : Int32)), .val (.int (1 : Int32)), .val (.int (1 : Int32)), .val (.int (1 : Int32)), .val (.int (1 : Int32)), .unset, .unset, .unset, .unset, .unset, .unset, .unset, .unset]) rfl) ?_
    show own_FinV p e below s _ _ _ (T155.setTop (mkF m 169 #[.val (.int p1), .val (.int p2), .val (.int p3), .val (.int (p2 &&& (3 : Int32))), .val (.int (205 : Int32)), .val (.ref b155), .val (.int (1 : Int32)), .val (.int (13 : Int32)), .val (.int (1 : Int32)), .val (.int (1 : Int32)), .val (.int (1 : Int32)), .val (.int (1 : Int32)), .unset, .unset, .unset, .unset, .unset, .unset, .unset, .unset] []))
    refine own_FinV.step (fun _ => XS.iload X155.here hx rfl (hb hby at_169) rfl) ?_
    show own_FinV p e below s _ _ _ (T155.setTop (mkF m 171 #[.val (.int p1), .val (.int p2), .val (.int p3), .val (.int (p2 &&& (3 : Int32))), .val (.int (205 : Int32)), .val (.ref b155), .val (.int (1 : Int32)), .val (.int (13 : Int32)), .val (.int (1 : Int32)), .val (.int (1 : Int32)), .val (.int (1 : Int32)), .val (.int (1 : Int32)), .unset, .unset, .unset, .unset, .unset, .unset, .unset, .unset] [(.int (1 : Int32))]))
    refine own_FinV.step (fun _ => XS.ifNo X155.here hx rfl (hb hby at_171) rfl (XT.i0_eq_f (by decide : ¬ ((1 : Int32) = (0 : Int32))))) ?_
    show own_FinV p e below s _ _ _ (T155.setTop (mkF m 174 #[.val (.int p1), .val (.int p2), .val (.int p3), .val (.int (p2 &&& (3 : Int32))), .val (.int (205 : Int32)), .val (.ref b155), .val (.int (1 : Int32)), .val (.int (13 : Int32)), .val (.int (1 : Int32)), .val (.int (1 : Int32)), .val (.int (1 : Int32)), .val (.int (1 : Int32)), .unset, .unset, .unset, .unset, .unset, .unset, .unset, .unset] []))
    obtain ⟨b157, T157, h157, k157, X157, e157, E157, hS157, hk157, hZ157, hown157, St157, C157, st157⟩ := own_ldcV (s := s) (vm0 := T155.vm) X155 hx hZ hown (own_w hw 59 rfl) own_wS rfl hS hk hEL (List.mem_of_getElem? (i := 13) rfl) C155 (by decide) (g := (mkF m 174 #[.val (.int p1), .val (.int p2), .val (.int p3), .val (.int (p2 &&& (3 : Int32))), .val (.int (205 : Int32)), .val (.ref b155), .val (.int (1 : Int32)), .val (.int (13 : Int32)), .val (.int (1 : Int32)), .val (.int (1 : Int32)), .val (.int (1 : Int32)), .val (.int (1 : Int32)), .unset, .unset, .unset, .unset, .unset, .unset, .unset, .unset] [])) rfl (hb hby at_174) (n := 52) (by decide) (by decide) (by decide) (by decide)
    have hS := hS157
    have hk := hk157
    have hZ := hZ157
    have hown := hown157
    have f158 := f156.ext E157
    have f159 := St155.ext E157
    have Z157 : n0 ≤ h157.size := Nat.le_trans Z155 E157.1
    refine own_FinV.step st157 ?_
    show own_FinV p e below s _ _ _ (T157.setTop (mkF m 176 #[.val (.int p1), .val (.int p2), .val (.int p3), .val (.int (p2 &&& (3 : Int32))), .val (.int (205 : Int32)), .val (.ref b155), .val (.int (1 : Int32)), .val (.int (13 : Int32)), .val (.int (1 : Int32)), .val (.int (1 : Int32)), .val (.int (1 : Int32)), .val (.int (1 : Int32)), .unset, .unset, .unset, .unset, .unset, .unset, .unset, .unset] [(.ref b157)]))
    refine own_FinV.step (fun _ => XS.goto X157.here hx rfl (pc0 := 176) (pc' := 181) rfl (hb hby at_176) (by decide) (by decide)) ?_
    show own_FinV p e below s _ _ _ (T157.setTop (mkF m 181 #[.val (.int p1), .val (.int p2), .val (.int p3), .val (.int (p2 &&& (3 : Int32))), .val (.int (205 : Int32)), .val (.ref b155), .val (.int (1 : Int32)), .val (.int (13 : Int32)), .val (.int (1 : Int32)), .val (.int (1 : Int32)), .val (.int (1 : Int32)), .val (.int (1 : Int32)), .unset, .unset, .unset, .unset, .unset, .unset, .unset, .unset] [(.ref b157)]))
    refine own_FinV.step (fun _ => XS.astore X157.here hx rfl (hb hby at_181) rfl rfl (l' := #[.val (.int p1), .val (.int p2), .val (.int p3), .val (.int (p2 &&& (3 : Int32))), .val (.int (205 : Int32)), .val (.ref b155), .val (.int (1 : Int32)), .val (.int (13 : Int32)), .val (.int (1 : Int32)), .val (.int (1 : Int32)), .val (.int (1 : Int32)), .val (.int (1 : Int32)), .val (.ref b157), .unset, .unset, .unset, .unset, .unset, .unset, .unset]) rfl) ?_
    show own_FinV p e below s _ _ _ (T157.setTop (mkF m 183 #[.val (.int p1), .val (.int p2), .val (.int p3), .val (.int (p2 &&& (3 : Int32))), .val (.int (205 : Int32)), .val (.ref b155), .val (.int (1 : Int32)), .val (.int (13 : Int32)), .val (.int (1 : Int32)), .val (.int (1 : Int32)), .val (.int (1 : Int32)), .val (.int (1 : Int32)), .val (.ref b157), .unset, .unset, .unset, .unset, .unset, .unset, .unset] []))
    refine own_FinV.step (fun _ => XS.iload X157.here hx rfl (hb hby at_183) rfl) ?_
    show own_FinV p e below s _ _ _ (T157.setTop (mkF m 185 #[.val (.int p1), .val (.int p2), .val (.int p3), .val (.int (p2 &&& (3 : Int32))), .val (.int (205 : Int32)), .val (.ref b155), .val (.int (1 : Int32)), .val (.int (13 : Int32)), .val (.int (1 : Int32)), .val (.int (1 : Int32)), .val (.int (1 : Int32)), .val (.int (1 : Int32)), .val (.ref b157), .unset, .unset, .unset, .unset, .unset, .unset, .unset] [(.int (1 : Int32))]))
    refine own_FinV.step (fun _ => XS.ifYes X157.here hx rfl (pc0 := 185) (pc' := 195) rfl (hb hby at_185) rfl (XT.i0_ne_t (by decide : ¬ ((1 : Int32) = (0 : Int32)))) (by decide) (by decide)) ?_
    show own_FinV p e below s _ _ _ (T157.setTop (mkF m 195 #[.val (.int p1), .val (.int p2), .val (.int p3), .val (.int (p2 &&& (3 : Int32))), .val (.int (205 : Int32)), .val (.ref b155), .val (.int (1 : Int32)), .val (.int (13 : Int32)), .val (.int (1 : Int32)), .val (.int (1 : Int32)), .val (.int (1 : Int32)), .val (.int (1 : Int32)), .val (.ref b157), .unset, .unset, .unset, .unset, .unset, .unset, .unset] []))
    refine own_FinV.step (fun _ => XS.iload X157.here hx rfl (hb hby at_195) rfl) ?_
    show own_FinV p e below s _ _ _ (T157.setTop (mkF m 197 #[.val (.int p1), .val (.int p2), .val (.int p3), .val (.int (p2 &&& (3 : Int32))), .val (.int (205 : Int32)), .val (.ref b155), .val (.int (1 : Int32)), .val (.int (13 : Int32)), .val (.int (1 : Int32)), .val (.int (1 : Int32)), .val (.int (1 : Int32)), .val (.int (1 : Int32)), .val (.ref b157), .unset, .unset, .unset, .unset, .unset, .unset, .unset] [(.int (1 : Int32))]))
    refine own_FinV.step (fun _ => XS.iconst X157.here hx rfl (hb hby at_197)) ?_
    show own_FinV p e below s _ _ _ (T157.setTop (mkF m 198 #[.val (.int p1), .val (.int p2), .val (.int p3), .val (.int (p2 &&& (3 : Int32))), .val (.int (205 : Int32)), .val (.ref b155), .val (.int (1 : Int32)), .val (.int (13 : Int32)), .val (.int (1 : Int32)), .val (.int (1 : Int32)), .val (.int (1 : Int32)), .val (.int (1 : Int32)), .val (.ref b157), .unset, .unset, .unset, .unset, .unset, .unset, .unset] [(.int (1 : Int32)), (.int (1 : Int32))]))
    refine own_FinV.step (fun _ => XS.icmpNo X157.here hx rfl (hb hby at_198) rfl (XT.ii_ne_f (by decide : (1 : Int32) = (1 : Int32)))) ?_
    show own_FinV p e below s _ _ _ (T157.setTop (mkF m 201 #[.val (.int p1), .val (.int p2), .val (.int p3), .val (.int (p2 &&& (3 : Int32))), .val (.int (205 : Int32)), .val (.ref b155), .val (.int (1 : Int32)), .val (.int (13 : Int32)), .val (.int (1 : Int32)), .val (.int (1 : Int32)), .val (.int (1 : Int32)), .val (.int (1 : Int32)), .val (.ref b157), .unset, .unset, .unset, .unset, .unset, .unset, .unset] []))
    refine own_FinV.step (fun _ => XS.iload X157.here hx rfl (hb hby at_201) rfl) ?_
    show own_FinV p e below s _ _ _ (T157.setTop (mkF m 203 #[.val (.int p1), .val (.int p2), .val (.int p3), .val (.int (p2 &&& (3 : Int32))), .val (.int (205 : Int32)), .val (.ref b155), .val (.int (1 : Int32)), .val (.int (13 : Int32)), .val (.int (1 : Int32)), .val (.int (1 : Int32)), .val (.int (1 : Int32)), .val (.int (1 : Int32)), .val (.ref b157), .unset, .unset, .unset, .unset, .unset, .unset, .unset] [(.int (1 : Int32))]))
    refine own_FinV.step (fun _ => XS.ifNo X157.here hx rfl (hb hby at_203) rfl (XT.i0_eq_f (by decide : ¬ ((1 : Int32) = (0 : Int32))))) ?_
    show own_FinV p e below s _ _ _ (T157.setTop (mkF m 206 #[.val (.int p1), .val (.int p2), .val (.int p3), .val (.int (p2 &&& (3 : Int32))), .val (.int (205 : Int32)), .val (.ref b155), .val (.int (1 : Int32)), .val (.int (13 : Int32)), .val (.int (1 : Int32)), .val (.int (1 : Int32)), .val (.int (1 : Int32)), .val (.int (1 : Int32)), .val (.ref b157), .unset, .unset, .unset, .unset, .unset, .unset, .unset] []))
    obtain ⟨b160, T160, h160, k160, X160, e160, E160, hS160, hk160, hZ160, hown160, St160, C160, st160⟩ := own_ldcV (s := s) (vm0 := T157.vm) X157 hx hZ hown (own_w hw 60 rfl) own_wS e157 hS hk hEL (List.mem_of_getElem? (i := 16) rfl) C157 (by decide) (g := (mkF m 206 #[.val (.int p1), .val (.int p2), .val (.int p3), .val (.int (p2 &&& (3 : Int32))), .val (.int (205 : Int32)), .val (.ref b155), .val (.int (1 : Int32)), .val (.int (13 : Int32)), .val (.int (1 : Int32)), .val (.int (1 : Int32)), .val (.int (1 : Int32)), .val (.int (1 : Int32)), .val (.ref b157), .unset, .unset, .unset, .unset, .unset, .unset, .unset] [])) rfl (hb hby at_206) (n := 40) (by decide) (by decide) (by decide) (by decide)
    have hS := hS160
    have hk := hk160
    have hZ := hZ160
    have hown := hown160
    have f161 := f158.ext E160
    have f162 := f159.ext E160
    have f163 := St157.ext E160
    have Z160 : n0 ≤ h160.size := Nat.le_trans Z157 E160.1
    refine own_FinV.step st160 ?_
    show own_FinV p e below s _ _ _ (T160.setTop (mkF m 208 #[.val (.int p1), .val (.int p2), .val (.int p3), .val (.int (p2 &&& (3 : Int32))), .val (.int (205 : Int32)), .val (.ref b155), .val (.int (1 : Int32)), .val (.int (13 : Int32)), .val (.int (1 : Int32)), .val (.int (1 : Int32)), .val (.int (1 : Int32)), .val (.int (1 : Int32)), .val (.ref b157), .unset, .unset, .unset, .unset, .unset, .unset, .unset] [(.ref b160)]))
    refine own_FinV.step (fun _ => XS.goto X160.here hx rfl (pc0 := 208) (pc' := 213) rfl (hb hby at_208) (by decide) (by decide)) ?_
    show own_FinV p e below s _ _ _ (T160.setTop (mkF m 213 #[.val (.int p1), .val (.int p2), .val (.int p3), .val (.int (p2 &&& (3 : Int32))), .val (.int (205 : Int32)), .val (.ref b155), .val (.int (1 : Int32)), .val (.int (13 : Int32)), .val (.int (1 : Int32)), .val (.int (1 : Int32)), .val (.int (1 : Int32)), .val (.int (1 : Int32)), .val (.ref b157), .unset, .unset, .unset, .unset, .unset, .unset, .unset] [(.ref b160)]))
    refine own_FinV.step (fun _ => XS.astore X160.here hx rfl (hb hby at_213) rfl rfl (l' := #[.val (.int p1), .val (.int p2), .val (.int p3), .val (.int (p2 &&& (3 : Int32))), .val (.int (205 : Int32)), .val (.ref b155), .val (.int (1 : Int32)), .val (.int (13 : Int32)), .val (.int (1 : Int32)), .val (.int (1 : Int32)), .val (.int (1 : Int32)), .val (.int (1 : Int32)), .val (.ref b157), .val (.ref b160), .unset, .unset, .unset, .unset, .unset, .unset]) rfl) ?_
    show own_FinV p e below s _ _ _ (T160.setTop (mkF m 215 #[.val (.int p1), .val (.int p2), .val (.int p3), .val (.int (p2 &&& (3 : Int32))), .val (.int (205 : Int32)), .val (.ref b155), .val (.int (1 : Int32)), .val (.int (13 : Int32)), .val (.int (1 : Int32)), .val (.int (1 : Int32)), .val (.int (1 : Int32)), .val (.int (1 : Int32)), .val (.ref b157), .val (.ref b160), .unset, .unset, .unset, .unset, .unset, .unset] []))
    refine own_FinV.step (fun _ => XS.goto X160.here hx rfl (pc0 := 215) (pc' := 235) rfl (hb hby at_215) (by decide) (by decide)) ?_
    show own_FinV p e below s _ _ _ (T160.setTop (mkF m 235 #[.val (.int p1), .val (.int p2), .val (.int p3), .val (.int (p2 &&& (3 : Int32))), .val (.int (205 : Int32)), .val (.ref b155), .val (.int (1 : Int32)), .val (.int (13 : Int32)), .val (.int (1 : Int32)), .val (.int (1 : Int32)), .val (.int (1 : Int32)), .val (.int (1 : Int32)), .val (.ref b157), .val (.ref b160), .unset, .unset, .unset, .unset, .unset, .unset] []))
    refine own_FinV.step (fun _ => XS.iload X160.here hx rfl (hb hby at_235) rfl) ?_
    show own_FinV p e below s _ _ _ (T160.setTop (mkF m 237 #[.val (.int p1), .val (.int p2), .val (.int p3), .val (.int (p2 &&& (3 : Int32))), .val (.int (205 : Int32)), .val (.ref b155), .val (.int (1 : Int32)), .val (.int (13 : Int32)), .val (.int (1 : Int32)), .val (.int (1 : Int32)), .val (.int (1 : Int32)), .val (.int (1 : Int32)), .val (.ref b157), .val (.ref b160), .unset, .unset, .unset, .unset, .unset, .unset] [(.int (1 : Int32))]))
    refine own_FinV.step (fun _ => XS.ifNo X160.here hx rfl (hb hby at_237) rfl (XT.i0_eq_f (by decide : ¬ ((1 : Int32) = (0 : Int32))))) ?_
    show own_FinV p e below s _ _ _ (T160.setTop (mkF m 240 #[.val (.int p1), .val (.int p2), .val (.int p3), .val (.int (p2 &&& (3 : Int32))), .val (.int (205 : Int32)), .val (.ref b155), .val (.int (1 : Int32)), .val (.int (13 : Int32)), .val (.int (1 : Int32)), .val (.int (1 : Int32)), .val (.int (1 : Int32)), .val (.int (1 : Int32)), .val (.ref b157), .val (.ref b160), .unset, .unset, .unset, .unset, .unset, .unset] []))
    obtain ⟨b164, T164, h164, k164, X164, e164, E164, hS164, hk164, hZ164, hown164, St164, C164, st164⟩ := own_ldcV (s := s) (vm0 := T160.vm) X160 hx hZ hown (own_w hw 55 rfl) own_wS e160 hS hk hEL (List.mem_of_getElem? (i := 20) rfl) C160 (by decide) (g := (mkF m 240 #[.val (.int p1), .val (.int p2), .val (.int p3), .val (.int (p2 &&& (3 : Int32))), .val (.int (205 : Int32)), .val (.ref b155), .val (.int (1 : Int32)), .val (.int (13 : Int32)), .val (.int (1 : Int32)), .val (.int (1 : Int32)), .val (.int (1 : Int32)), .val (.int (1 : Int32)), .val (.ref b157), .val (.ref b160), .unset, .unset, .unset, .unset, .unset, .unset] [])) rfl (hb hby at_240) (n := 72) (by decide) (by decide) (by decide) (by decide)
    have hS := hS164
    have hk := hk164
    have hZ := hZ164
    have hown := hown164
    have f165 := f161.ext E164
    have f166 := f162.ext E164
    have f167 := f163.ext E164
    have f168 := St160.ext E164
    have Z164 : n0 ≤ h164.size := Nat.le_trans Z160 E164.1
    refine own_FinV.step st164 ?_
    show own_FinV p e below s _ _ _ (T164.setTop (mkF m 242 #[.val (.int p1), .val (.int p2), .val (.int p3), .val (.int (p2 &&& (3 : Int32))), .val (.int (205 : Int32)), .val (.ref b155), .val (.int (1 : Int32)), .val (.int (13 : Int32)), .val (.int (1 : Int32)), .val (.int (1 : Int32)), .val (.int (1 : Int32)), .val (.int (1 : Int32)), .val (.ref b157), .val (.ref b160), .unset, .unset, .unset, .unset, .unset, .unset] [(.ref b164)]))
    refine own_FinV.step (fun _ => XS.goto X164.here hx rfl (pc0 := 242) (pc' := 247) rfl (hb hby at_242) (by decide) (by decide)) ?_
    show own_FinV p e below s _ _ _ (T164.setTop (mkF m 247 #[.val (.int p1), .val (.int p2), .val (.int p3), .val (.int (p2 &&& (3 : Int32))), .val (.int (205 : Int32)), .val (.ref b155), .val (.int (1 : Int32)), .val (.int (13 : Int32)), .val (.int (1 : Int32)), .val (.int (1 : Int32)), .val (.int (1 : Int32)), .val (.int (1 : Int32)), .val (.ref b157), .val (.ref b160), .unset, .unset, .unset, .unset, .unset, .unset] [(.ref b164)]))
    refine own_FinV.step (fun _ => XS.astore X164.here hx rfl (hb hby at_247) rfl rfl (l' := #[.val (.int p1), .val (.int p2), .val (.int p3), .val (.int (p2 &&& (3 : Int32))), .val (.int (205 : Int32)), .val (.ref b155), .val (.int (1 : Int32)), .val (.int (13 : Int32)), .val (.int (1 : Int32)), .val (.int (1 : Int32)), .val (.int (1 : Int32)), .val (.int (1 : Int32)), .val (.ref b157), .val (.ref b160), .val (.ref b164), .unset, .unset, .unset, .unset, .unset]) rfl) ?_
    have hcat : own_bs "differential sequential, arithmetic-coded" = own_bs "differential " ++ own_bs "sequential" ++ own_bs ", arithmetic-coded" := by decide +kernel
    rw [hcat] at f166
    exact own_tail hw X164 hx hby hml hown hret hlk hZ Z164 N155 e164 hS hk C164 hcs rv f165 f166 f167 f168 St164 (by decide) (by decide) (by decide) (by decide) (by decide) (by decide)
  ·
    show own_FinV p e below s _ _ _ (s₁.setTop (mkF m 42 #[.val (.int p1), .val (.int p2), .val (.int p3), .val (.int (p2 &&& (3 : Int32))), .val (.int (206 : Int32)), .unset, .unset, .unset, .unset, .unset, .unset, .unset, .unset, .unset, .unset, .unset, .unset, .unset, .unset, .unset] []))
    refine own_FinV.step (fun _ => XS.iload X0.here hx rfl (hb hby at_42) rfl) ?_
    show own_FinV p e below s _ _ _ (s₁.setTop (mkF m 44 #[.val (.int p1), .val (.int p2), .val (.int p3), .val (.int (p2 &&& (3 : Int32))), .val (.int (206 : Int32)), .unset, .unset, .unset, .unset, .unset, .unset, .unset, .unset, .unset, .unset, .unset, .unset, .unset, .unset, .unset] [(.int (206 : Int32))]))
    obtain ⟨_, T169, L169, k169, X169, ⟨b169, rfl, N169q, E169, St169⟩, hS169, hk169, hZ169, hown169, C169, st169⟩ := own_callSV (s := s) (vm0 := s.vm) X0 hx hZ hown (own_w hw 0 rfl) (own_w hw 1 rfl) (own_w hw 2 rfl) (own_w hw 3 rfl) (by decide) (rm8_206 l Z a0 hw  h0 n0 Z0 ) (by decide) (by decide) hS hk hEL C0 e0 (W := 0) (g := (mkF m 44 #[.val (.int p1), .val (.int p2), .val (.int p3), .val (.int (p2 &&& (3 : Int32))), .val (.int (206 : Int32)), .unset, .unset, .unset, .unset, .unset, .unset, .unset, .unset, .unset, .unset, .unset, .unset, .unset, .unset, .unset] [(.int (206 : Int32))])) rfl (by rw [hml]; rfl) (argsL := [(.int (206 : Int32))]) (rest := []) (lenOf pd_7 rfl) rfl rfl (by show 2 * 0 + _ ≤ _; exact Nat.le_of_eq rfl) (hb hby at_44) (by decide) (by decide)
    have hS := hS169
    have hk := hk169
    have hZ := hZ169
    have hown := hown169
    have N169 := Fr.app N0 N169q
    have Z169 : n0 ≤ T169.heap.size := Nat.le_trans Z0 E169.1
    have f170 := SS.ext E169
    refine own_FinV.step st169 ?_
    show own_FinV p e below s _ _ _ (T169.setTop (mkF m 47 #[.val (.int p1), .val (.int p2), .val (.int p3), .val (.int (p2 &&& (3 : Int32))), .val (.int (206 : Int32)), .unset, .unset, .unset, .unset, .unset, .unset, .unset, .unset, .unset, .unset, .unset, .unset, .unset, .unset, .unset] [(.ref b169)]))
    refine own_FinV.step (fun _ => XS.astore X169.here hx rfl (hb hby at_47) rfl rfl (l' := #[.val (.int p1), .val (.int p2), .val (.int p3), .val (.int (p2 &&& (3 : Int32))), .val (.int (206 : Int32)), .val (.ref b169), .unset, .unset, .unset, .unset, .unset, .unset, .unset, .unset, .unset, .unset, .unset, .unset, .unset, .unset]) rfl) ?_
    show own_FinV p e below s _ _ _ (T169.setTop (mkF m 49 #[.val (.int p1), .val (.int p2), .val (.int p3), .val (.int (p2 &&& (3 : Int32))), .val (.int (206 : Int32)), .val (.ref b169), .unset, .unset, .unset, .unset, .unset, .unset, .unset, .unset, .unset, .unset, .unset, .unset, .unset, .unset] []))
    refine own_FinV.step (fun _ => XS.iload X169.here hx rfl (hb hby at_49) rfl) ?_
    show own_FinV p e below s _ _ _ (T169.setTop (mkF m 51 #[.val (.int p1), .val (.int p2), .val (.int p3), .val (.int (p2 &&& (3 : Int32))), .val (.int (206 : Int32)), .val (.ref b169), .unset, .unset, .unset, .unset, .unset, .unset, .unset, .unset, .unset, .unset, .unset, .unset, .unset, .unset] [(.int (206 : Int32))]))
    refine own_FinV.step (fun _ => XS.sipush X169.here hx rfl (hb hby at_51)) ?_
    show own_FinV p e below s _ _ _ (T169.setTop (mkF m 54 #[.val (.int p1), .val (.int p2), .val (.int p3), .val (.int (p2 &&& (3 : Int32))), .val (.int (206 : Int32)), .val (.ref b169), .unset, .unset, .unset, .unset, .unset, .unset, .unset, .unset, .unset, .unset, .unset, .unset, .unset, .unset] [(.int (192 : Int32)), (.int (206 : Int32))]))
    refine own_FinV.step (fun _ => XS.icmpNo X169.here hx rfl (hb hby at_54) rfl (XT.ii_lt_f (by decide : ¬ ((206 : Int32) < (192 : Int32))))) ?_
    show own_FinV p e below s _ _ _ (T169.setTop (mkF m 57 #[.val (.int p1), .val (.int p2), .val (.int p3), .val (.int (p2 &&& (3 : Int32))), .val (.int (206 : Int32)), .val (.ref b169), .unset, .unset, .unset, .unset, .unset, .unset, .unset, .unset, .unset, .unset, .unset, .unset, .unset, .unset] []))
    refine own_FinV.step (fun _ => XS.iload X169.here hx rfl (hb hby at_57) rfl) ?_
    show own_FinV p e below s _ _ _ (T169.setTop (mkF m 59 #[.val (.int p1), .val (.int p2), .val (.int p3), .val (.int (p2 &&& (3 : Int32))), .val (.int (206 : Int32)), .val (.ref b169), .unset, .unset, .unset, .unset, .unset, .unset, .unset, .unset, .unset, .unset, .unset, .unset, .unset, .unset] [(.int (206 : Int32))]))
    refine own_FinV.step (fun _ => XS.sipush X169.here hx rfl (hb hby at_59)) ?_
    show own_FinV p e below s _ _ _ (T169.setTop (mkF m 62 #[.val (.int p1), .val (.int p2), .val (.int p3), .val (.int (p2 &&& (3 : Int32))), .val (.int (206 : Int32)), .val (.ref b169), .unset, .unset, .unset, .unset, .unset, .unset, .unset, .unset, .unset, .unset, .unset, .unset, .unset, .unset] [(.int (207 : Int32)), (.int (206 : Int32))]))
    refine own_FinV.step (fun _ => XS.icmpNo X169.here hx rfl (hb hby at_62) rfl (XT.ii_gt_f (by decide : ¬ ((207 : Int32) < (206 : Int32))))) ?_
    show own_FinV p e below s _ _ _ (T169.setTop (mkF m 65 #[.val (.int p1), .val (.int p2), .val (.int p3), .val (.int (p2 &&& (3 : Int32))), .val (.int (206 : Int32)), .val (.ref b169), .unset, .unset, .unset, .unset, .unset, .unset, .unset, .unset, .unset, .unset, .unset, .unset, .unset, .unset] []))
    refine own_FinV.step (fun _ => XS.iconst X169.here hx rfl (hb hby at_65)) ?_
    show own_FinV p e below s _ _ _ (T169.setTop (mkF m 66 #[.val (.int p1), .val (.int p2), .val (.int p3), .val (.int (p2 &&& (3 : Int32))), .val (.int (206 : Int32)), .val (.ref b169), .unset, .unset, .unset, .unset, .unset, .unset, .unset, .unset, .unset, .unset, .unset, .unset, .unset, .unset] [(.int (1 : Int32))]))
    refine own_FinV.step (fun _ => XS.goto X169.here hx rfl (pc0 := 66) (pc' := 70) rfl (hb hby at_66) (by decide) (by decide)) ?_
    show own_FinV p e below s _ _ _ (T169.setTop (mkF m 70 #[.val (.int p1), .val (.int p2), .val (.int p3), .val (.int (p2 &&& (3 : Int32))), .val (.int (206 : Int32)), .val (.ref b169), .unset, .unset, .unset, .unset, .unset, .unset, .unset, .unset, .unset, .unset, .unset, .unset, .unset, .unset] [(.int (1 : Int32))]))
    refine own_FinV.step (fun _ => XS.istore X169.here hx rfl (hb hby at_70) rfl (l' := #[.val (.int p1), .val (.int p2), .val (.int p3), .val (.int (p2 &&& (3 : Int32))), .val (.int (206 : Int32)), .val (.ref b169), .val (.int (1 : Int32)), .unset, .unset, .unset, .unset, .unset, .unset, .unset, .unset, .unset, .unset, .unset, .unset, .unset]) rfl) ?_
    show own_FinV p e below s _ _ _ (T169.setTop (mkF m 72 #[.val (.int p1), .val (.int p2), .val (.int p3), .val (.int (p2 &&& (3 : Int32))), .val (.int (206 : Int32)), .val (.ref b169), .val (.int (1 : Int32)), .unset, .unset, .unset, .unset, .unset, .unset, .unset, .unset, .unset, .unset, .unset, .unset, .unset] []))
    refine own_FinV.step (fun _ => XS.iload X169.here hx rfl (hb hby at_72) rfl) ?_
    show own_FinV p e below s _ _ _ (T169.setTop (mkF m 74 #[.val (.int p1), .val (.int p2), .val (.int p3), .val (.int (p2 &&& (3 : Int32))), .val (.int (206 : Int32)), .val (.ref b169), .val (.int (1 : Int32)), .unset, .unset, .unset, .unset, .unset, .unset, .unset, .unset, .unset, .unset, .unset, .unset, .unset] [(.int (206 : Int32))]))
    refine own_FinV.step (fun _ => XS.bipush X169.here hx rfl (hb hby at_74)) ?_
    show own_FinV p e below s _ _ _ (T169.setTop (mkF m 76 #[.val (.int p1), .val (.int p2), .val (.int p3), .val (.int (p2 &&& (3 : Int32))), .val (.int (206 : Int32)), .val (.ref b169), .val (.int (1 : Int32)), .unset, .unset, .unset, .unset, .unset, .unset, .unset, .unset, .unset, .unset, .unset, .unset, .unset] [(.int (15 : Int32)), (.int (206 : Int32))]))
    refine own_FinV.step (fun _ => XS.iand X169.here hx rfl (hb hby at_76) rfl) ?_
    show own_FinV p e below s _ _ _ (T169.setTop (mkF m 77 #[.val (.int p1), .val (.int p2), .val (.int p3), .val (.int (p2 &&& (3 : Int32))), .val (.int (206 : Int32)), .val (.ref b169), .val (.int (1 : Int32)), .unset, .unset, .unset, .unset, .unset, .unset, .unset, .unset, .unset, .unset, .unset, .unset, .unset] [(.int (14 : Int32))]))
    refine own_FinV.step (fun _ => XS.istore X169.here hx rfl (hb hby at_77) rfl (l' := #[.val (.int p1), .val (.int p2), .val (.int p3), .val (.int (p2 &&& (3 : Int32))), .val (.int (206 : Int32)), .val (.ref b169), .val (.int (1 : Int32)), .val (.int (14 : Int32)), .unset, .unset, .unset, .unset, .unset, .unset, .unset, .unset, .unset, .unset, .unset, .unset]) rfl) ?_
    show own_FinV p e below s _ _ _ (T169.setTop (mkF m 79 #[.val (.int p1), .val (.int p2), .val (.int p3), .val (.int (p2 &&& (3 : Int32))), .val (.int (206 : Int32)), .val (.ref b169), .val (.int (1 : Int32)), .val (.int (14 : Int32)), .unset, .unset, .unset, .unset, .unset, .unset, .unset, .unset, .unset, .unset, .unset, .unset] []))
    refine own_FinV.step (fun _ => XS.iload X169.here hx rfl (hb hby at_79) rfl) ?_
    show own_FinV p e below s _ _ _ (T169.setTop (mkF m 81 #[.val (.int p1), .val (.int p2), .val (.int p3), .val (.int (p2 &&& (3 : Int32))), .val (.int (206 : Int32)), .val (.ref b169), .val (.int (1 : Int32)), .val (.int (14 : Int32)), .unset, .unset, .unset, .unset, .unset, .unset, .unset, .unset, .unset, .unset, .unset, .unset] [(.int (1 : Int32))]))
    refine own_FinV.step (fun _ => XS.ifNo X169.here hx rfl (hb hby at_81) rfl (XT.i0_eq_f (by decide : ¬ ((1 : Int32) = (0 : Int32))))) ?_
    show own_FinV p e below s _ _ _ (T169.setTop (mkF m 84 #[.val (.int p1), .val (.int p2), .val (.int p3), .val (.int (p2 &&& (3 : Int32))), .val (.int (206 : Int32)), .val (.ref b169), .val (.int (1 : Int32)), .val (.int (14 : Int32)), .unset, .unset, .unset, .unset, .unset, .unset, .unset, .unset, .unset, .unset, .unset, .unset] []))
    refine own_FinV.step (fun _ => XS.iload X169.here hx rfl (hb hby at_84) rfl) ?_
    show own_FinV p e below s _ _ _ (T169.setTop (mkF m 86 #[.val (.int p1), .val (.int p2), .val (.int p3), .val (.int (p2 &&& (3 : Int32))), .val (.int (206 : Int32)), .val (.ref b169), .val (.int (1 : Int32)), .val (.int (14 : Int32)), .unset, .unset, .unset, .unset, .unset, .unset, .unset, .unset, .unset, .unset, .unset, .unset] [(.int (14 : Int32))]))
    refine own_FinV.step (fun _ => XS.iconst X169.here hx rfl (hb hby at_86)) ?_
    show own_FinV p e below s _ _ _ (T169.setTop (mkF m 87 #[.val (.int p1), .val (.int p2), .val (.int p3), .val (.int (p2 &&& (3 : Int32))), .val (.int (206 : Int32)), .val (.ref b169), .val (.int (1 : Int32)), .val (.int (14 : Int32)), .unset, .unset, .unset, .unset, .unset, .unset, .unset, .unset, .unset, .unset, .unset, .unset] [(.int (4 : Int32)), (.int (14 : Int32))]))
    refine own_FinV.step (fun _ => XS.icmpNo X169.here hx rfl (hb hby at_87) rfl (XT.ii_eq_f (by decide : ¬ ((14 : Int32) = (4 : Int32))))) ?_
    show own_FinV p e below s _ _ _ (T169.setTop (mkF m 90 #[.val (.int p1), .val (.int p2), .val (.int p3), .val (.int (p2 &&& (3 : Int32))), .val (.int (206 : Int32)), .val (.ref b169), .val (.int (1 : Int32)), .val (.int (14 : Int32)), .unset, .unset, .unset, .unset, .unset, .unset, .unset, .unset, .unset, .unset, .unset, .unset] []))
    refine own_FinV.step (fun _ => XS.iload X169.here hx rfl (hb hby at_90) rfl) ?_
    show own_FinV p e below s _ _ _ (T169.setTop (mkF m 92 #[.val (.int p1), .val (.int p2), .val (.int p3), .val (.int (p2 &&& (3 : Int32))), .val (.int (206 : Int32)), .val (.ref b169), .val (.int (1 : Int32)), .val (.int (14 : Int32)), .unset, .unset, .unset, .unset, .unset, .unset, .unset, .unset, .unset, .unset, .unset, .unset] [(.int (14 : Int32))]))
    refine own_FinV.step (fun _ => XS.bipush X169.here hx rfl (hb hby at_92)) ?_
    show own_FinV p e below s _ _ _ (T169.setTop (mkF m 94 #[.val (.int p1), .val (.int p2), .val (.int p3), .val (.int (p2 &&& (3 : Int32))), .val (.int (206 : Int32)), .val (.ref b169), .val (.int (1 : Int32)), .val (.int (14 : Int32)), .unset, .unset, .unset, .unset, .unset, .unset, .unset, .unset, .unset, .unset, .unset, .unset] [(.int (8 : Int32)), (.int (14 : Int32))]))
    refine own_FinV.step (fun _ => XS.icmpNo X169.here hx rfl (hb hby at_94) rfl (XT.ii_eq_f (by decide : ¬ ((14 : Int32) = (8 : Int32))))) ?_
    show own_FinV p e below s _ _ _ (T169.setTop (mkF m 97 #[.val (.int p1), .val (.int p2), .val (.int p3), .val (.int (p2 &&& (3 : Int32))), .val (.int (206 : Int32)), .val (.ref b169), .val (.int (1 : Int32)), .val (.int (14 : Int32)), .unset, .unset, .unset, .unset, .unset, .unset, .unset, .unset, .unset, .unset, .unset, .unset] []))
    refine own_FinV.step (fun _ => XS.iload X169.here hx rfl (hb hby at_97) rfl) ?_
    show own_FinV p e below s _ _ _ (T169.setTop (mkF m 99 #[.val (.int p1), .val (.int p2), .val (.int p3), .val (.int (p2 &&& (3 : Int32))), .val (.int (206 : Int32)), .val (.ref b169), .val (.int (1 : Int32)), .val (.int (14 : Int32)), .unset, .unset, .unset, .unset, .unset, .unset, .unset, .unset, .unset, .unset, .unset, .unset] [(.int (14 : Int32))]))
    refine own_FinV.step (fun _ => XS.bipush X169.here hx rfl (hb hby at_99)) ?_
    show own_FinV p e below s _ _ _ (T169.setTop (mkF m 101 #[.val (.int p1), .val (.int p2), .val (.int p3), .val (.int (p2 &&& (3 : Int32))), .val (.int (206 : Int32)), .val (.ref b169), .val (.int (1 : Int32)), .val (.int (14 : Int32)), .unset, .unset, .unset, .unset, .unset, .unset, .unset, .unset, .unset, .unset, .unset, .unset] [(.int (12 : Int32)), (.int (14 : Int32))]))
    refine own_FinV.step (fun _ => XS.icmpNo X169.here hx rfl (hb hby at_101) rfl (XT.ii_eq_f (by decide : ¬ ((14 : Int32) = (12 : Int32))))) ?_
    show own_FinV p e below s _ _ _ (T169.setTop (mkF m 104 #[.val (.int p1), .val (.int p2), .val (.int p3), .val (.int (p2 &&& (3 : Int32))), .val (.int (206 : Int32)), .val (.ref b169), .val (.int (1 : Int32)), .val (.int (14 : Int32)), .unset, .unset, .unset, .unset, .unset, .unset, .unset, .unset, .unset, .unset, .unset, .unset] []))
    refine own_FinV.step (fun _ => XS.iconst X169.here hx rfl (hb hby at_104)) ?_
    show own_FinV p e below s _ _ _ (T169.setTop (mkF m 105 #[.val (.int p1), .val (.int p2), .val (.int p3), .val (.int (p2 &&& (3 : Int32))), .val (.int (206 : Int32)), .val (.ref b169), .val (.int (1 : Int32)), .val (.int (14 : Int32)), .unset, .unset, .unset, .unset, .unset, .unset, .unset, .unset, .unset, .unset, .unset, .unset] [(.int (1 : Int32))]))
    refine own_FinV.step (fun _ => XS.goto X169.here hx rfl (pc0 := 105) (pc' := 109) rfl (hb hby at_105) (by decide) (by decide)) ?_
    show own_FinV p e below s _ _ _ (T169.setTop (mkF m 109 #[.val (.int p1), .val (.int p2), .val (.int p3), .val (.int (p2 &&& (3 : Int32))), .val (.int (206 : Int32)), .val (.ref b169), .val (.int (1 : Int32)), .val (.int (14 : Int32)), .unset, .unset, .unset, .unset, .unset, .unset, .unset, .unset, .unset, .unset, .unset, .unset] [(.int (1 : Int32))]))
    refine own_FinV.step (fun _ => XS.istore X169.here hx rfl (hb hby at_109) rfl (l' := #[.val (.int p1), .val (.int p2), .val (.int p3), .val (.int (p2 &&& (3 : Int32))), .val (.int (206 : Int32)), .val (.ref b169), .val (.int (1 : Int32)), .val (.int (14 : Int32)), .val (.int (1 : Int32)), .unset, .unset, .unset, .unset, .unset, .unset, .unset, .unset, .unset, .unset, .unset]) rfl) ?_
    show own_FinV p e below s _ _ _ (T169.setTop (mkF m 111 #[.val (.int p1), .val (.int p2), .val (.int p3), .val (.int (p2 &&& (3 : Int32))), .val (.int (206 : Int32)), .val (.ref b169), .val (.int (1 : Int32)), .val (.int (14 : Int32)), .val (.int (1 : Int32)), .unset, .unset, .unset, .unset, .unset, .unset, .unset, .unset, .unset, .unset, .unset] []))
    refine own_FinV.step (fun _ => XS.iload X169.here hx rfl (hb hby at_111) rfl) ?_
    show own_FinV p e below s _ _ _ (T169.setTop (mkF m 113 #[.val (.int p1), .val (.int p2), .val (.int p3), .val (.int (p2 &&& (3 : Int32))), .val (.int (206 : Int32)), .val (.ref b169), .val (.int (1 : Int32)), .val (.int (14 : Int32)), .val (.int (1 : Int32)), .unset, .unset, .unset, .unset, .unset, .unset, .unset, .unset, .unset, .unset, .unset] [(.int (1 : Int32))]))
    refine own_FinV.step (fun _ => XS.ifYes X169.here hx rfl (pc0 := 113) (pc' := 127) rfl (hb hby at_113) rfl (XT.i0_ne_t (by decide : ¬ ((1 : Int32) = (0 : Int32)))) (by decide) (by decide)) ?_
    show own_FinV p e below s _ _ _ (T169.setTop (mkF m 127 #[.val (.int p1), .val (.int p2), .val (.int p3), .val (.int (p2 &&& (3 : Int32))), .val (.int (206 : Int32)), .val (.ref b169), .val (.int (1 : Int32)), .val (.int (14 : Int32)), .val (.int (1 : Int32)), .unset, .unset, .unset, .unset, .unset, .unset, .unset, .unset, .unset, .unset, .unset] []))
    refine own_FinV.step (fun _ => XS.aload X169.here hx rfl (hb hby at_127) rfl rfl) ?_
    show own_FinV p e below s _ _ _ (T169.setTop (mkF m 129 #[.val (.int p1), .val (.int p2), .val (.int p3), .val (.int (p2 &&& (3 : Int32))), .val (.int (206 : Int32)), .val (.ref b169), .val (.int (1 : Int32)), .val (.int (14 : Int32)), .val (.int (1 : Int32)), .unset, .unset, .unset, .unset, .unset, .unset, .unset, .unset, .unset, .unset, .unset] [(.ref b169)]))
    refine own_FinV.step (fun _ => XS.ifnonnullYes X169.here hx rfl (pc0 := 129) (pc' := 134) rfl (hb hby at_129) rfl (by decide) (by decide)) ?_
    show own_FinV p e below s _ _ _ (T169.setTop (mkF m 134 #[.val (.int p1), .val (.int p2), .val (.int p3), .val (.int (p2 &&& (3 : Int32))), .val (.int (206 : Int32)), .val (.ref b169), .val (.int (1 : Int32)), .val (.int (14 : Int32)), .val (.int (1 : Int32)), .unset, .unset, .unset, .unset, .unset, .unset, .unset, .unset, .unset, .unset, .unset] []))
    refine own_FinV.step (fun _ => XS.iload X169.here hx rfl (hb hby at_134) rfl) ?_
    show own_FinV p e below s _ _ _ (T169.setTop (mkF m 136 #[.val (.int p1), .val (.int p2), .val (.int p3), .val (.int (p2 &&& (3 : Int32))), .val (.int (206 : Int32)), .val (.ref b169), .val (.int (1 : Int32)), .val (.int (14 : Int32)), .val (.int (1 : Int32)), .unset, .unset, .unset, .unset, .unset, .unset, .unset, .unset, .unset, .unset, .unset] [(.int (14 : Int32))]))
    refine own_FinV.step (fun _ => XS.iconst X169.here hx rfl (hb hby at_136)) ?_
    show own_FinV p e below s _ _ _ (T169.setTop (mkF m 137 #[.val (.int p1), .val (.int p2), .val (.int p3), .val (.int (p2 &&& (3 : Int32))), .val (.int (206 : Int32)), .val (.ref b169), .val (.int (1 : Int32)), .val (.int (14 : Int32)), .val (.int (1 : Int32)), .unset, .unset, .unset, .unset, .unset, .unset, .unset, .unset, .unset, .unset, .unset] [(.int (4 : Int32)), (.int (14 : Int32))]))
    refine own_FinV.step (fun _ => XS.iand X169.here hx rfl (hb hby at_137) rfl) ?_
    show own_FinV p e below s _ _ _ (T169.setTop (mkF m 138 #[.val (.int p1), .val (.int p2), .val (.int p3), .val (.int (p2 &&& (3 : Int32))), .val (.int (206 : Int32)), .val (.ref b169), .val (.int (1 : Int32)), .val (.int (14 : Int32)), .val (.int (1 : Int32)), .unset, .unset, .unset, .unset, .unset, .unset, .unset, .unset, .unset, .unset, .unset] [(.int (4 : Int32))]))
    refine own_FinV.step (fun _ => XS.ifNo X169.here hx rfl (hb hby at_138) rfl (XT.i0_eq_f (by decide : ¬ ((4 : Int32) = (0 : Int32))))) ?_
    show own_FinV p e below s _ _ _ (T169.setTop (mkF m 141 #[.val (.int p1), .val (.int p2), .val (.int p3), .val (.int (p2 &&& (3 : Int32))), .val (.int (206 : Int32)), .val (.ref b169), .val (.int (1 : Int32)), .val (.int (14 : Int32)), .val (.int (1 : Int32)), .unset, .unset, .unset, .unset, .unset, .unset, .unset, .unset, .unset, .unset, .unset] []))
    refine own_FinV.step (fun _ => XS.iconst X169.here hx rfl (hb hby at_141)) ?_
    show own_FinV p e below s _ _ _ (T169.setTop (mkF m 142 #[.val (.int p1), .val (.int p2), .val (.int p3), .val (.int (p2 &&& (3 : Int32))), .val (.int (206 : Int32)), .val (.ref b169), .val (.int (1 : Int32)), .val (.int (14 : Int32)), .val (.int (1 : Int32)), .unset, .unset, .unset, .unset, .unset, .unset, .unset, .unset, .unset, .unset, .unset] [(.int (1 : Int32))]))
    refine own_FinV.step (fun _ => XS.goto X169.here hx rfl (pc0 := 142) (pc' := 146) rfl (hb hby at_142) (by decide) (by decide)) ?_
    show own_FinV p e below s _ _ _ (T169.setTop (mkF m 146 #[.val (.int p1), .val (.int p2), .val (.int p3), .val (.int (p2 &&& (3 : Int32))), .val (.int (206 : Int32)), .val (.ref b169), .val (.int (1 : Int32)), .val (.int (14 : Int32)), .val (.int (1 : Int32)), .unset, .unset, .unset, .unset, .unset, .unset, .unset, .unset, .unset, .unset, .unset] [(.int (1 : Int32))]))
    refine own_FinV.step (fun _ => XS.istore X169.here hx rfl (hb hby at_146) rfl (l' := #[.val (.int p1), .val (.int p2), .val (.int p3), .val (.int (p2 &&& (3 : Int32))), .val (.int (206 : Int32)), .val (.ref b169), .val (.int (1 : Int32)), .val (.int (14 : Int32)), .val (.int (1 : Int32)), .val (.int (1 : Int32)), .unset, .unset, .unset, .unset, .unset, .unset, .unset, .unset, .unset, .unset]) rfl) ?_
    show own_FinV p e below s _ _ _ (T169.setTop (mkF m 148 #[.val (.int p1), .val (.int p2), .val (.int p3), .val (.int (p2 &&& (3 : Int32))), .val (.int (206 : Int32)), .val (.ref b169), .val (.int (1 : Int32)), .val (.int (14 : Int32)), .val (.int (1 : Int32)), .val (.int (1 : Int32)), .unset, .unset, .unset, .unset, .unset, .unset, .unset, .unset, .unset, .unset] []))
    refine own_FinV.step (fun _ => XS.iload X169.here hx rfl (hb hby at_148) rfl) ?_
    show own_FinV p e below s _ _ _ (T169.setTop (mkF m 150 #[.val (.int p1), .val (.int p2), .val (.int p3), .val (.int (p2 &&& (3 : Int32))), .val (.int (206 : Int32)), .val (.ref b169), .val (.int (1 : Int32)), .val (.int (14 : Int32)), .val (.int (1 : Int32)), .val (.int (1 : Int32)), .unset, .unset, .unset, .unset, .unset, .unset, .unset, .unset, .unset, .unset] [(.int (14 : Int32))]))
    refine own_FinV.step (fun _ => XS.bipush X169.here hx rfl (hb hby at_150)) ?_
    show own_FinV p e below s _ _ _ (T169.setTop (mkF m 152 #[.val (.int p1), .val (.int p2), .val (.int p3), .val (.int (p2 &&& (3 : Int32))), .val (.int (206 : Int32)), .val (.ref b169), .val (.int (1 : Int32)), .val (.int (14 : Int32)), .val (.int (1 : Int32)), .val (.int (1 : Int32)), .unset, .unset, .unset, .unset, .unset, .unset, .unset, .unset, .unset, .unset] [(.int (8 : Int32)), (.int (14 : Int32))]))
    refine own_FinV.step (fun _ => XS.iand X169.here hx rfl (hb hby at_152) rfl) ?_
    show own_FinV p e below s _ _ _ (T169.setTop (mkF m 153 #[.val (.int p1), .val (.int p2), .val (.int p3), .val (.int (p2 &&& (3 : Int32))), .val (.int (206 : Int32)), .val (.ref b169), .val (.int (1 : Int32)), .val (.int (14 : Int32)), .val (.int (1 : Int32)), .val (.int (1 : Int32)), .unset, .unset, .unset, .unset, .unset, .unset, .unset, .unset, .unset, .unset] [(.int (8 : Int32))]))
    refine own_FinV.step (fun _ => XS.ifNo X169.here hx rfl (hb hby at_153) rfl (XT.i0_eq_f (by decide : ¬ ((8 : Int32) = (0 : Int32))))) ?_
    show own_FinV p e below s _ _ _ (T169.setTop (mkF m 156 #[.val (.int p1), .val (.int p2), .val (.int p3), .val (.int (p2 &&& (3 : Int32))), .val (.int (206 : Int32)), .val (.ref b169), .val (.int (1 : Int32)), .val (.int (14 : Int32)), .val (.int (1 : Int32)), .val (.int (1 : Int32)), .unset, .unset, .unset, .unset, .unset, .unset, .unset, .unset, .unset, .unset] []))
    refine own_FinV.step (fun _ => XS.iconst X169.here hx rfl (hb hby at_156)) ?_
    show own_FinV p e below s _ _ _ (T169.setTop (mkF m 157 #[.val (.int p1), .val (.int p2), .val (.int p3), .val (.int (p2 &&& (3 : Int32))), .val (.int (206 : Int32)), .val (.ref b169), .val (.int (1 : Int32)), .val (.int (14 : Int32)), .val (.int (1 : Int32)), .val (.int (1 : Int32)), .unset, .unset, .unset, .unset, .unset, .unset, .unset, .unset, .unset, .unset] [(.int (1 : Int32))]))
    refine own_FinV.step (fun _ => XS.goto X169.here hx rfl (pc0 := 157) (pc' := 161) rfl (hb hby at_157) (by decide) (by decide)) ?_
    show own_FinV p e below s _ _ _ (T169.setTop (mkF m 161 #[.val (.int p1), .val (.int p2), .val (.int p3), .val (.int (p2 &&& (3 : Int32))), .val (.int (206 : Int32)), .val (.ref b169), .val (.int (1 : Int32)), .val (.int (14 : Int32)), .val (.int (1 : Int32)), .val (.int (1 : Int32)), .unset, .unset, .unset, .unset, .unset, .unset, .unset, .unset, .unset, .unset] [(.int (1 : Int32))]))
    refine own_FinV.step (fun _ => XS.istore X169.here hx rfl (hb hby at_161) rfl (l' := #[.val (.int p1), .val (.int p2), .val (.int p3), .val (.int (p2 &&& (3 : Int32))), .val (.int (206 : Int32)), .val (.ref b169), .val (.int (1 : Int32)), .val (.int (14 : Int32)), .val (.int (1 : Int32)), .val (.int (1 : Int32)), .val (.int (1 : Int32)), .unset, .unset, .unset, .unset, .unset, .unset, .unset, .unset, .unset]) rfl) ?_
    show own_FinV p e below s _ _ _ (T169.setTop (mkF m 163 #[.val (.int p1), .val (.int p2), .val (.int p3), .val (.int (p2 &&& (3 : Int32))), .val (.int (206 : Int32)), .val (.ref b169), .val (.int (1 : Int32)), .val (.int (14 : Int32)), .val (.int (1 : Int32)), .val (.int (1 : Int32)), .val (.int (1 : Int32)), .unset, .unset, .unset, .unset, .unset, .unset, .unset, .unset, .unset] []))
    refine own_FinV.step (fun _ => XS.iload X169.here hx rfl (hb hby at_163) rfl) ?_
    show own_FinV p e below s _ _ _ (T169.setTop (mkF m 165 #[.val (.int p1), .val (.int p2), .val (.int p3), .val (.int (p2 &&& (3 : Int32))), .val (.int (206 : Int32)), .val (.ref b169), .val (.int (1 : Int32)), .val (.int (14 : Int32)), .val (.int (1 : Int32)), .val (.int (1 : Int32)), .val (.int (1 : Int32)), .unset, .unset, .unset, .unset, .unset, .unset, .unset, .unset, .unset] [(.int (14 : Int32))]))
    refine own_FinV.step (fun _ => XS.iconst X169.here hx rfl (hb hby at_165)) ?_
    show own_FinV p e below s _ _ _ (T169.setTop (mkF m 166 #[.val (.int p1), .val (.int p2), .val (.int p3), .val (.int (p2 &&& (3 : Int32))), .val (.int (206 : Int32)), .val (.ref b169), .val (.int (1 : Int32)), .val (.int (14 : Int32)), .val (.int (1 : Int32)), .val (.int (1 : Int32)), .val (.int (1 : Int32)), .unset, .unset, .unset, .unset, .unset, .unset, .unset, .unset, .unset] [(.int (3 : Int32)), (.int (14 : Int32))]))
    refine own_FinV.step (fun _ => XS.iand X169.here hx rfl (hb hby at_166) rfl) ?_
    show own_FinV p e below s _ _ _ (T169.setTop (mkF m 167 #[.val (.int p1), .val (.int p2), .val (.int p3), .val (.int (p2 &&& (3 : Int32))), .val (.int (206 : Int32)), .val (.ref b169), .val (.int (1 : Int32)), .val (.int (14 : Int32)), .val (.int (1 : Int32)), .val (.int (1 : Int32)), .val (.int (1 : Int32)), .unset, .unset, .unset, .unset, .unset, .unset, .unset, .unset, .unset] [(.int (2 : Int32))]))
    refine own_FinV.step (fun _ => XS.istore X169.here hx rfl (hb hby at_167) rfl (l' := #[.val (.int p1), .val (.int p2), .val (.int p3), .val (.int (p2 &&& (3 : Int32))), .val (.int (206 : Int32)), .val (.ref b169), .val (.int (1 : Int32)), .val (.int (14 : Int32)), .val (.int (1 : Int32)), .val (.int (1 : Int32)), .val (.int (1 : Int32)), .val (.int (2 : Int32)), .unset, .unset, .unset, .unset, .unset, .unset, .unset, .unset]) rfl) ?_
    show own_FinV p e below s _ _ _ (T169.setTop (mkF m 169 #[.val (.int p1), .val (.int p2), .val (.int p3), .val (.int (p2 &&& (3 : Int32))), .val (.int (206 : Int32)), .val (.ref b169), .val (.int (1 : Int32)), .val (.int (14 : Int32)), .val (.int (1 : Int32)), .val (.int (1 : Int32)), .val (.int (1 : Int32)), .val (.int (2 : Int32)), .unset, .unset, .unset, .unset, .unset, .unset, .unset, .unset] []))
    refine own_FinV.step (fun _ => XS.iload X169.here hx rfl (hb hby at_169) rfl) ?_
    show own_FinV p e below s _ _ _ (T169.setTop (mkF m 171 #[.val (.int p1), .val (.int p2), .val (.int p3), .val (.int (p2 &&& (3 : Int32))), .val (.int (206 : Int32)), .val (.ref b169), .val (.int (1 : Int32)), .val (.int (14 : Int32)), .val (.int (1 : Int32)), .val (.int (1 : Int32)), .val (.int (1 : Int32)), .val (.int (2 : Int32)), .unset, .unset, .unset, .unset, .unset, .unset, .unset, .unset] [(.int (1 : Int32))]))
    refine own_FinV.step (fun _ => XS.ifNo X169.here hx rfl (hb hby at_171) rfl (XT.i0_eq_f (by decide : ¬ ((1 : Int32) = (0 : Int32))))) ?_
    show own_FinV p e below s _ _ _ (T169.setTop (mkF m 174 #[.val (.int p1), .val (.int p2), .val (.int p3), .val (.int (p2 &&& (3 : Int32))), .val (.int (206 : Int32)), .val (.ref b169), .val (.int (1 : Int32)), .val (.int (14 : Int32)), .val (.int (1 : Int32)), .val (.int (1 : Int32)), .val (.int (1 : Int32)), .val (.int (2 : Int32)), .unset, .unset, .unset, .unset, .unset, .unset, .unset, .unset] []))
    obtain ⟨b171, T171, h171, k171, X171, e171, E171, hS171, hk171, hZ171, hown171, St171, C171, st171⟩ := own_ldcV (s := s) (vm0 := T169.vm) X169 hx hZ hown (own_w hw 59 rfl) own_wS rfl hS hk hEL (List.mem_of_getElem? (i := 13) rfl) C169 (by decide) (g := (mkF m 174 #[.val (.int p1), .val (.int p2), .val (.int p3), .val (.int (p2 &&& (3 : Int32))), .val (.int (206 : Int32)), .val (.ref b169), .val (.int (1 : Int32)), .val (.int (14 : Int32)), .val (.int (1 : Int32)), .val (.int (1 : Int32)), .val (.int (1 : Int32)), .val (.int (2 : Int32)), .unset, .unset, .unset, .unset, .unset, .unset, .unset, .unset] [])) rfl (hb hby at_174) (n := 52) (by decide) (by decide) (by decide) (by decide)
    have hS := hS171
    have hk := hk171
    have hZ := hZ171
    have hown := hown171
    have f172 := f170.ext E171
    have f173 := St169.ext E171
    have Z171 : n0 ≤ h171.size := Nat.le_trans Z169 E171.1
    refine own_FinV.step st171 ?_
    show own_FinV p e below s _ _ _ (T171.setTop (mkF m 176 #[.val (.int p1), .val (.int p2), .val (.int p3), .val (.int (p2 &&& (3 : Int32))), .val (.int (206 : Int32)), .val (.ref b169), .val (.int (1 : Int32)), .val (.int (14 : Int32)), .val (.int (1 : Int32)), .val (.int (1 : Int32)), .val (.int (1 : Int32)), .val (.int (2 : Int32)), .unset, .unset, .unset, .unset, .unset, .unset, .unset, .unset] [(.ref b171)]))
    refine own_FinV.step (fun _ => XS.goto X171.here hx rfl (pc0 := 176) (pc' := 181) rfl (hb hby at_176) (by decide) (by decide)) ?_
    show own_FinV p e below s _ _ _ (T171.setTop (mkF m 181 #[.val (.int p1), .val (.int p2), .val (.int p3), .val (.int (p2 &&& (3 : Int32))), .val (.int (206 : Int32)), .val (.ref b169), .val (.int (1 : Int32)), .val (.int (14 : Int32)), .val (.int (1 : Int32)), .val (.int (1 : Int32)), .val (.int (1 : Int32)), .val (.int (2 : Int32)), .unset, .unset, .unset, .unset, .unset, .unset, .unset, .unset] [(.ref b171)]))
    refine own_FinV.step (fun _ => XS.astore X171.here hx rfl (hb hby at_181) rfl rfl (l' := #[.val (.int p1), .val (.int p2), .val (.int p3), .val (.int (p2 &&& (3 : Int32))), .val (.int (206 : Int32)), .val (.ref b169), .val (.int (1 : Int32)), .val (.int (14 : Int32)), .val (.int (1 : Int32)), .val (.int (1 : Int32)), .val (.int (1 : Int32)), .val (.int (2 : Int32)), .val (.ref b171), .unset, .unset, .unset, .unset, .unset, .unset, .unset]) rfl) ?_
    show own_FinV p e below s _ _ _ (T171.setTop (mkF m 183 #[.val (.int p1), .val (.int p2), .val (.int p3), .val (.int (p2 &&& (3 : Int32))), .val (.int (206 : Int32)), .val (.ref b169), .val (.int (1 : Int32)), .val (.int (14 : Int32)), .val (.int (1 : Int32)), .val (.int (1 : Int32)), .val (.int (1 : Int32)), .val (.int (2 : Int32)), .val (.ref b171), .unset, .unset, .unset, .unset, .unset, .unset, .unset] []))
    refine own_FinV.step (fun _ => XS.iload X171.here hx rfl (hb hby at_183) rfl) ?_
    show own_FinV p e below s _ _ _ (T171.setTop (mkF m 185 #[.val (.int p1), .val (.int p2), .val (.int p3), .val (.int (p2 &&& (3 : Int32))), .val (.int (206 : Int32)), .val (.ref b169), .val (.int (1 : Int32)), .val (.int (14 : Int32)), .val (.int (1 : Int32)), .val (.int (1 : Int32)), .val (.int (1 : Int32)), .val (.int (2 : Int32)), .val (.ref b171), .unset, .unset, .unset, .unset, .unset, .unset, .unset] [(.int (2 : Int32))]))
    refine own_FinV.step (fun _ => XS.ifYes X171.here hx rfl (pc0 := 185) (pc' := 195) rfl (hb hby at_185) rfl (XT.i0_ne_t (by decide : ¬ ((2 : Int32) = (0 : Int32)))) (by decide) (by decide)) ?_
    show own_FinV p e below s _ _ _ (T171.setTop (mkF m 195 #[.val (.int p1), .val (.int p2), .val (.int p3), .val (.int (p2 &&& (3 : Int32))), .val (.int (206 : Int32)), .val (.ref b169), .val (.int (1 : Int32)), .val (.int (14 : Int32)), .val (.int (1 : Int32)), .val (.int (1 : Int32)), .val (.int (1 : Int32)), .val (.int (2 : Int32)), .val (.ref b171), .unset, .unset, .unset, .unset, .unset, .unset, .unset] []))
    refine own_FinV.step (fun _ => XS.iload X171.here hx rfl (hb hby at_195) rfl) ?_
    show own_FinV p e below s _ _ _ (T171.setTop (mkF m 197 #[.val (.int p1), .val (.int p2), .val (.int p3), .val (.int (p2 &&& (3 : Int32))), .val (.int (206 : Int32)), .val (.ref b169), .val (.int (1 : Int32)), .val (.int (14 : Int32)), .val (.int (1 : Int32)), .val (.int (1 : Int32)), .val (.int (1 : Int32)), .val (.int (2 : Int32)), .val (.ref b171), .unset, .unset, .unset, .unset, .unset, .unset, .unset] [(.int (2 : Int32))]))
    refine own_FinV.step (fun _ => XS.iconst X171.here hx rfl (hb hby at_197)) ?_
    show own_FinV p e below s _ _ _ (T171.setTop (mkF m 198 #[.val (.int p1), .val (.int p2), .val (.int p3), .val (.int (p2 &&& (3 : Int32))), .val (.int (206 : Int32)), .val (.ref b169), .val (.int (1 : Int32)), .val (.int (14 : Int32)), .val (.int (1 : Int32)), .val (.int (1 : Int32)), .val (.int (1 : Int32)), .val (.int (2 : Int32)), .val (.ref b171), .unset, .unset, .unset, .unset, .unset, .unset, .unset] [(.int (1 : Int32)), (.int (2 : Int32))]))
    refine own_FinV.step (fun _ => XS.icmpYes X171.here hx rfl (pc0 := 198) (pc' := 218) rfl (hb hby at_198) rfl (XT.ii_ne_t (by decide : ¬ ((2 : Int32) = (1 : Int32)))) (by decide) (by decide)) ?_
    show own_FinV p e below s _ _ _ (T171.setTop (mkF m 218 #[.val (.int p1), .val (.int p2), .val (.int p3), .val (.int (p2 &&& (3 : Int32))), .val (.int (206 : Int32)), .val (.ref b169), .val (.int (1 : Int32)), .val (.int (14 : Int32)), .val (.int (1 : Int32)), .val (.int (1 : Int32)), .val (.int (1 : Int32)), .val (.int (2 : Int32)), .val (.ref b171), .unset, .unset, .unset, .unset, .unset, .unset, .unset] []))
    refine own_FinV.step (fun _ => XS.iload X171.here hx rfl (hb hby at_218) rfl) ?_
    show own_FinV p e below s _ _ _ (T171.setTop (mkF m 220 #[.val (.int p1), .val (.int p2), .val (.int p3), .val (.int (p2 &&& (3 : Int32))), .val (.int (206 : Int32)), .val (.ref b169), .val (.int (1 : Int32)), .val (.int (14 : Int32)), .val (.int (1 : Int32)), .val (.int (1 : Int32)), .val (.int (1 : Int32)), .val (.int (2 : Int32)), .val (.ref b171), .unset, .unset, .unset, .unset, .unset, .unset, .unset] [(.int (2 : Int32))]))
    refine own_FinV.step (fun _ => XS.iconst X171.here hx rfl (hb hby at_220)) ?_
    show own_FinV p e below s _ _ _ (T171.setTop (mkF m 221 #[.val (.int p1), .val (.int p2), .val (.int p3), .val (.int (p2 &&& (3 : Int32))), .val (.int (206 : Int32)), .val (.ref b169), .val (.int (1 : Int32)), .val (.int (14 : Int32)), .val (.int (1 : Int32)), .val (.int (1 : Int32)), .val (.int (1 : Int32)), .val (.int (2 : Int32)), .val (.ref b171), .unset, .unset, .unset, .unset, .unset, .unset, .unset] [(.int (2 : Int32)), (.int (2 : Int32))]))
    refine own_FinV.step (fun _ => XS.icmpNo X171.here hx rfl (hb hby at_221) rfl (XT.ii_ne_f (by decide : (2 : Int32) = (2 : Int32)))) ?_
    show own_FinV p e below s _ _ _ (T171.setTop (mkF m 224 #[.val (.int p1), .val (.int p2), .val (.int p3), .val (.int (p2 &&& (3 : Int32))), .val (.int (206 : Int32)), .val (.ref b169), .val (.int (1 : Int32)), .val (.int (14 : Int32)), .val (.int (1 : Int32)), .val (.int (1 : Int32)), .val (.int (1 : Int32)), .val (.int (2 : Int32)), .val (.ref b171), .unset, .unset, .unset, .unset, .unset, .unset, .unset] []))
    obtain ⟨b174, T174, h174, k174, X174, e174, E174, hS174, hk174, hZ174, hown174, St174, C174, st174⟩ := own_ldcV (s := s) (vm0 := T171.vm) X171 hx hZ hown (own_w hw 51 rfl) own_wS e171 hS hk hEL (List.mem_of_getElem? (i := 18) rfl) C171 (by decide) (g := (mkF m 224 #[.val (.int p1), .val (.int p2), .val (.int p3), .val (.int (p2 &&& (3 : Int32))), .val (.int (206 : Int32)), .val (.ref b169), .val (.int (1 : Int32)), .val (.int (14 : Int32)), .val (.int (1 : Int32)), .val (.int (1 : Int32)), .val (.int (1 : Int32)), .val (.int (2 : Int32)), .val (.ref b171), .unset, .unset, .unset, .unset, .unset, .unset, .unset] [])) rfl (hb hby at_224) (n := 44) (by decide) (by decide) (by decide) (by decide)
    have hS := hS174
    have hk := hk174
    have hZ := hZ174
    have hown := hown174
    have f175 := f172.ext E174
    have f176 := f173.ext E174
    have f177 := St171.ext E174
    have Z174 : n0 ≤ h174.size := Nat.le_trans Z171 E174.1
    refine own_FinV.step st174 ?_
    show own_FinV p e below s _ _ _ (T174.setTop (mkF m 226 #[.val (.int p1), .val (.int p2), .val (.int p3), .val (.int (p2 &&& (3 : Int32))), .val (.int (206 : Int32)), .val (.ref b169), .val (.int (1 : Int32)), .val (.int (14 : Int32)), .val (.int (1 : Int32)), .val (.int (1 : Int32)), .val (.int (1 : Int32)), .val (.int (2 : Int32)), .val (.ref b171), .unset, .unset, .unset, .unset, .unset, .unset, .unset] [(.ref b174)]))
    refine own_FinV.step (fun _ => XS.astore X174.here hx rfl (hb hby at_226) rfl rfl (l' := #[.val (.int p1), .val (.int p2), .val (.int p3), .val (.int (p2 &&& (3 : Int32))), .val (.int (206 : Int32)), .val (.ref b169), .val (.int (1 : Int32)), .val (.int (14 : Int32)), .val (.int (1 : Int32)), .val (.int (1 : Int32)), .val (.int (1 : Int32)), .val (.int (2 : Int32)), .val (.ref b171), .val (.ref b174), .unset, .unset, .unset, .unset, .unset, .unset]) rfl) ?_
    show own_FinV p e below s _ _ _ (T174.setTop (mkF m 228 #[.val (.int p1), .val (.int p2), .val (.int p3), .val (.int (p2 &&& (3 : Int32))), .val (.int (206 : Int32)), .val (.ref b169), .val (.int (1 : Int32)), .val (.int (14 : Int32)), .val (.int (1 : Int32)), .val (.int (1 : Int32)), .val (.int (1 : Int32)), .val (.int (2 : Int32)), .val (.ref b171), .val (.ref b174), .unset, .unset, .unset, .unset, .unset, .unset] []))
    refine own_FinV.step (fun _ => XS.goto X174.here hx rfl (pc0 := 228) (pc' := 235) rfl (hb hby at_228) (by decide) (by decide)) ?_
    show own_FinV p e below s _ _ _ (T174.setTop (mkF m 235 #[.val (.int p1), .val (.int p2), .val (.int p3), .val (.int (p2 &&& (3 : Int32))), .val (.int (206 : Int32)), .val (.ref b169), .val (.int (1 : Int32)), .val (.int (14 : Int32)), .val (.int (1 : Int32)), .val (.int (1 : Int32)), .val (.int (1 : Int32)), .val (.int (2 : Int32)), .val (.ref b171), .val (.ref b174), .unset, .unset, .unset, .unset, .unset, .unset] []))
    refine own_FinV.step (fun _ => XS.iload X174.here hx rfl (hb hby at_235) rfl) ?_
    show own_FinV p e below s _ _ _ (T174.setTop (mkF m 237 #[.val (.int p1), .val (.int p2), .val (.int p3), .val (.int (p2 &&& (3 : Int32))), .val (.int (206 : Int32)), .val (.ref b169), .val (.int (1 : Int32)), .val (.int (14 : Int32)), .val (.int (1 : Int32)), .val (.int (1 : Int32)), .val (.int (1 : Int32)), .val (.int (2 : Int32)), .val (.ref b171), .val (.ref b174), .unset, .unset, .unset, .unset, .unset, .unset] [(.int (1 : Int32))]))
    refine own_FinV.step (fun _ => XS.ifNo X174.here hx rfl (hb hby at_237) rfl (XT.i0_eq_f (by decide : ¬ ((1 : Int32) = (0 : Int32))))) ?_
    show own_FinV p e below s _ _ _ (T174.setTop (mkF m 240 #[.val (.int p1), .val (.int p2), .val (.int p3), .val (.int (p2 &&& (3 : Int32))), .val (.int (206 : Int32)), .val (.ref b169), .val (.int (1 : Int32)), .val (.int (14 : Int32)), .val (.int (1 : Int32)), .val (.int (1 : Int32)), .val (.int (1 : Int32)), .val (.int (2 : Int32)), .val (.ref b171), .val (.ref b174), .unset, .unset, .unset, .unset, .unset, .unset] []))
    obtain ⟨b178, T178, h178, k178, X178, e178, E178, hS178, hk178, hZ178, hown178, St178, C178, st178⟩ := own_ldcV (s := s) (vm0 := T174.vm) X174 hx hZ hown (own_w hw 55 rfl) own_wS e174 hS hk hEL (List.mem_of_getElem? (i := 20) rfl) C174 (by decide) (g := (mkF m 240 #[.val (.int p1), .val (.int p2), .val (.int p3), .val (.int (p2 &&& (3 : Int32))), .val (.int (206 : Int32)), .val (.ref b169), .val (.int (1 : Int32)), .val (.int (14 : Int32)), .val (.int (1 : Int32)), .val (.int (1 : Int32)), .val (.int (1 : Int32)), .val (.int (2 : Int32)), .val (.ref b171), .val (.ref b174), .unset, .unset, .unset, .unset, .unset, .unset] [])) rfl (hb hby at_240) (n := 72) (by decide) (by decide) (by decide) (by decide)
    have hS := hS178
    have hk := hk178
    have hZ := hZ178
    have hown := hown178
    have f179 := f175.ext E178
    have f180 := f176.ext E178
    have f181 := f177.ext E178
    have f182 := St174.ext E178
    have Z178 : n0 ≤ h178.size := Nat.le_trans Z174 E178.1
    refine own_FinV.step st178 ?_
    show own_FinV p e below s _ _ _ (T178.setTop (mkF m 242 #[.val (.int p1), .val (.int p2), .val (.int p3), .val (.int (p2 &&& (3 : Int32))), .val (.int (206 : Int32)), .val (.ref b169), .val (.int (1 : Int32)), .val (.int (14 : Int32)), .val (.int (1 : Int32)), .val (.int (1 : Int32)), .val (.int (1 : Int32)), .val (.int (2 : Int32)), .val (.ref b171), .val (.ref b174), .unset, .unset, .unset, .unset, .unset, .unset] [(.ref b178)]))
    refine own_FinV.step (fun _ => XS.goto X178.here hx rfl (pc0 := 242) (pc' := 247) rfl (hb hby at_242) (by decide) (by decide)) ?_
    show own_FinV p e below s _ _ _ (T178.setTop (mkF m 247 #[.val (.int p1), .val (.int p2), .val (.int p3), .val (.int (p2 &&& (3 : Int32))), .val (.int (206 : Int32)), .val (.ref b169), .val (.int (1 : Int32)), .val (.int (14 : Int32)), .val (.int (1 : Int32)), .val (.int (1 : Int32)), .val (.int (1 : Int32)), .val (.int (2 : Int32)), .val (.ref b171), .val (.ref b174), .unset, .unset, .unset, .unset, .unset, .unset] [(.ref b178)]))
    refine own_FinV.step (fun _ => XS.astore X178.here hx rfl (hb hby at_247) rfl rfl (l' := #[.val (.int p1), .val (.int p2), .val (.int p3), .val (.int (p2 &&& (3 : Int32))), .val (.int (206 : Int32)), .val (.ref b169), .val (.int (1 : Int32)), .val (.int (14 : Int32)), .val (.int (1 : Int32)), .val (.int (1 : Int32)), .val (.int (1 : Int32)), .val (.int (2 : Int32)), .val (.ref b171), .val (.ref b174), .val (.ref b178), .unset, .unset, .unset, .unset, .unset]) rfl) ?_
    have hcat : own_bs "differential progressive, arithmetic-coded" = own_bs "differential " ++ own_bs "progressive" ++ own_bs ", arithmetic-coded" := by decide +kernel
    rw [hcat] at f180
    exact own_tail hw X178 hx hby hml hown hret hlk hZ Z178 N169 e178 hS hk C178 hcs rv f179 f180 f181 f182 St178 (by decide) (by decide) (by decide) (by decide) (by decide) (by decide)
  ·
    show own_FinV p e below s _ _ _ (s₁.setTop (mkF m 42 #[.val (.int p1), .val (.int p2), .val (.int p3), .val (.int (p2 &&& (3 : Int32))), .val (.int (207 : Int32)), .unset, .unset, .unset, .unset, .unset, .unset, .unset, .unset, .unset, .unset, .unset, .unset, .unset, .unset, .unset] []))
    refine own_FinV.step (fun _ => XS.iload X0.here hx rfl (hb hby at_42) rfl) ?_
    show own_FinV p e below s _ _ _ (s₁.setTop (mkF m 44 #[.val (.int p1), .val (.int p2), .val (.int p3), .val (.int (p2 &&& (3 : Int32))), .val (.int (207 : Int32)), .unset, .unset, .unset, .unset, .unset, .unset, .unset, .unset, .unset, .unset, .unset, .unset, .unset, .unset, .unset] [(.int (207 : Int32))]))
    obtain ⟨_, T183, L183, k183, X183, ⟨b183, rfl, N183q, E183, St183⟩, hS183, hk183, hZ183, hown183, C183, st183⟩ := own_callSV (s := s) (vm0 := s.vm) X0 hx hZ hown (own_w hw 0 rfl) (own_w hw 1 rfl) (own_w hw 2 rfl) (own_w hw 3 rfl) (by decide) (rm8_207 l Z a0 hw  h0 n0 Z0 ) (by decide) (by decide) hS hk hEL C0 e0 (W := 0) (g := (mkF m 44 #[.val (.int p1), .val (.int p2), .val (.int p3), .val (.int (p2 &&& (3 : Int32))), .val (.int (207 : Int32)), .unset, .unset, .unset, .unset, .unset, .unset, .unset, .unset, .unset, .unset, .unset, .unset, .unset, .unset, .unset] [(.int (207 : Int32))])) rfl (by rw [hml]; rfl) (argsL := [(.int (207 : Int32))]) (rest := []) (lenOf pd_7 rfl) rfl rfl (by show 2 * 0 + _ ≤ _; exact Nat.le_of_eq rfl) (hb hby at_44) (by decide) (by decide)
    have hS := hS183
    have hk := hk183
    have hZ := hZ183
    have hown := hown183
    have N183 := Fr.app N0 N183q
    have Z183 : n0 ≤ T183.heap.size := Nat.le_trans Z0 E183.1
    have f184 := SS.ext E183
    refine own_FinV.step st183 ?_
    show own_FinV p e below s _ _ _ (T183.setTop (mkF m 47 #[.val (.int p1), .val (.int p2), .val (.int p3), .val (.int (p2 &&& (3 : Int32))), .val (.int (207 : Int32)), .unset, .unset, .unset, .unset, .unset, .unset, .unset, .unset, .unset, .unset, .unset, .unset, .unset, .unset, .unset] [(.ref b183)]))
    refine own_FinV.step (fun _ => XS.astore X183.here hx rfl (hb hby at_47) rfl rfl (l' := #[.val (.int p1), .val (.int p2), .val (.int p3), .val (.int (p2 &&& (3 : Int32))), .val (.int (207 : Int32)), .val (.ref b183), .unset, .unset, .unset, .unset, .unset, .unset, .unset, .unset, .unset, .unset, .unset, .unset, .unset, .unset]) rfl) ?_
    show own_FinV p e below s _ _ _ (T183.setTop (mkF m 49 #[.val (.int p1), .val (.int p2), .val (.int p3), .val (.int (p2 &&& (3 : Int32))), .val (.int (207 : Int32)), .val (.ref b183), .unset, .unset, .unset, .unset, .unset, .unset, .unset, .unset, .unset, .unset, .unset, .unset, .unset, .unset] []))
    refine own_FinV.step (fun _ => XS.iload X183.here hx rfl (hb hby at_49) rfl) ?_
    show own_FinV p e below s _ _ _ (T183.setTop (mkF m 51 #[.val (.int p1), .val (.int p2), .val (.int p3), .val (.int (p2 &&& (3 : Int32))), .val (.int (207 : Int32)), .val (.ref b183), .unset, .unset, .unset, .unset, .unset, .unset, .unset, .unset, .unset, .unset, .unset, .unset, .unset, .unset] [(.int (207 : Int32))]))
    refine own_FinV.step (fun _ => XS.sipush X183.here hx rfl (hb hby at_51)) ?_
    show own_FinV p e below s _ _ _ (T183.setTop (mkF m 54 #[.val (.int p1), .val (.int p2), .val (.int p3), .val (.int (p2 &&& (3 : Int32))), .val (.int (207 : Int32)), .val (.ref b183), .unset, .unset, .unset, .unset, .unset, .unset, .unset, .unset, .unset, .unset, .unset, .unset, .unset, .unset] [(.int (192 : Int32)), (.int (207 : Int32))]))
    refine own_FinV.step (fun _ => XS.icmpNo X183.here hx rfl (hb hby at_54) rfl (XT.ii_lt_f (by decide : ¬ ((207 : Int32) < (192 : Int32))))) ?_
    show own_FinV p e below s _ _ _ (T183.setTop (mkF m 57 #[.val (.int p1), .val (.int p2), .val (.int p3), .val (.int (p2 &&& (3 : Int32))), .val (.int (207 : Int32)), .val (.ref b183), .unset, .unset, .unset, .unset, .unset, .unset, .unset, .unset, .unset, .unset, .unset, .unset, .unset, .unset] []))
    refine own_FinV.step (fun _ => XS.iload X183.here hx rfl (hb hby at_57) rfl) ?_
    show own_FinV p e below s _ _ _ (T183.setTop (mkF m 59 #[.val (.int p1), .val (.int p2), .val (.int p3), .val (.int (p2 &&& (3 : Int32))), .val (.int (207 : Int32)), .val (.ref b183), .unset, .unset, .unset, .unset, .unset, .unset, .unset, .unset, .unset, .unset, .unset, .unset, .unset, .unset] [(.int (207 : Int32))]))
    refine own_FinV.step (fun _ => XS.sipush X183.here hx rfl (hb hby at_59)) ?_
    show own_FinV p e below s _ _ _ (T183.setTop (mkF m 62 #[.val (.int p1), .val (.int p2), .val (.int p3), .val (.int (p2 &&& (3 : Int32))), .val (.int (207 : Int32)), .val (.ref b183), .unset, .unset, .unset, .unset, .unset, .unset, .unset, .unset, .unset, .unset, .unset, .unset, .unset, .unset] [(.int (207 : Int32)), (.int (207 : Int32))]))
    refine own_FinV.step (fun _ => XS.icmpNo X183.here hx rfl (hb hby at_62) rfl (XT.ii_gt_f (by decide : ¬ ((207 : Int32) < (207 : Int32))))) ?_
    show own_FinV p e below s _ _ _ (T183.setTop (mkF m 65 #[.val (.int p1), .val (.int p2), .val (.int p3), .val (.int (p2 &&& (3 : Int32))), .val (.int (207 : Int32)), .val (.ref b183), .unset, .unset, .unset, .unset, .unset, .unset, .unset, .unset, .unset, .unset, .unset, .unset, .unset, .unset] []))
    refine own_FinV.step (fun _ => XS.iconst X183.here hx rfl (hb hby at_65)) ?_
    show own_FinV p e below s _ _ _ (T183.setTop (mkF m 66 #[.val (.int p1), .val (.int p2), .val (.int p3), .val (.int (p2 &&& (3 : Int32))), .val (.int (207 : Int32)), .val (.ref b183), .unset, .unset, .unset, .unset, .unset, .unset, .unset, .unset, .unset, .unset, .unset, .unset, .unset, .unset] [(.int (1 : Int32))]))
    refine own_FinV.step (fun _ => XS.goto X183.here hx rfl (pc0 := 66) (pc' := 70) rfl (hb hby at_66) (by decide) (by decide)) ?_
    show own_FinV p e below s _ _ _ (T183.setTop (mkF m 70 #[.val (.int p1), .val (.int p2), .val (.int p3), .val (.int (p2 &&& (3 : Int32))), .val (.int (207 : Int32)), .val (.ref b183), .unset, .unset, .unset, .unset, .unset, .unset, .unset, .unset, .unset, .unset, .unset, .unset, .unset, .unset] [(.int (1 : Int32))]))
    refine own_FinV.step (fun _ => XS.istore X183.here hx rfl (hb hby at_70) rfl (l' := #[.val (.int p1), .val (.int p2), .val (.int p3), .val (.int (p2 &&& (3 : Int32))), .val (.int (207 : Int32)), .val (.ref b183), .val (.int (1 : Int32)), .unset, .unset, .unset, .unset, .unset, .unset, .unset, .unset, .unset, .unset, .unset, .unset, .unset]) rfl) ?_
    show own_FinV p e below s _ _ _ (T183.setTop (mkF m 72 #[.val (.int p1), .val (.int p2), .val (.int p3), .val (.int (p2 &&& (3 : Int32))), .val (.int (207 : Int32)), .val (.ref b183), .val (.int (1 : Int32)), .unset, .unset, .unset, .unset, .unset, .unset, .unset, .unset, .unset, .unset, .unset, .unset, .unset] []))
    refine own_FinV.step (fun _ => XS.iload X183.here hx rfl (hb hby at_72) rfl) ?_
    show own_FinV p e below s _ _ _ (T183.setTop (mkF m 74 #[.val (.int p1), .val (.int p2), .val (.int p3), .val (.int (p2 &&& (3 : Int32))), .val (.int (207 : Int32)), .val (.ref b183), .val (.int (1 : Int32)), .unset, .unset, .unset, .unset, .unset, .unset, .unset, .unset, .unset, .unset, .unset, .unset, .unset] [(.int (207 : Int32))]))
    refine own_FinV.step (fun _ => XS.bipush X183.here hx rfl (hb hby at_74)) ?_
    show own_FinV p e below s _ _ _ (T183.setTop (mkF m 76 #[.val (.int p1), .val (.int p2), .val (.int p3), .val (.int (p2 &&& (3 : Int32))), .val (.int (207 : Int32)), .val (.ref b183), .val (.int (1 : Int32)), .unset, .unset, .unset, .unset, .unset, .unset, .unset, .unset, .unset, .unset, .unset, .unset, .unset] [(.int (15 : Int32)), (.int (207 : Int32))]))
    refine own_FinV.step (fun _ => XS.iand X183.here hx rfl (hb hby at_76) rfl) ?_
    show own_FinV p e below s _ _ _ (T183.setTop (mkF m 77 #[.val (.int p1), .val (.int p2), .val (.int p3), .val (.int (p2 &&& (3 : Int32))), .val (.int (207 : Int32)), .val (.ref b183), .val (.int (1 : Int32)), .unset, .unset, .unset, .unset, .unset, .unset, .unset, .unset, .unset, .unset, .unset, .unset, .unset] [(.int (15 : Int32))]))
    refine own_FinV.step (fun _ => XS.istore X183.here hx rfl (hb hby at_77) rfl (l' := #[.val (.int p1), .val (.int p2), .val (.int p3), .val (.int (p2 &&& (3 : Int32))), .val (.int (207 : Int32)), .val (.ref b183), .val (.int (1 : Int32)), .val (.int (15 : Int32)), .unset, .unset, .unset, .unset, .unset, .unset, .unset, .unset, .unset, .unset, .unset, .unset]) rfl) ?_
    show own_FinV p e below s _ _ _ (T183.setTop (mkF m 79 #[.val (.int p1), .val (.int p2), .val (.int p3), .val (.int (p2 &&& (3 : Int32))), .val (.int (207 : Int32)), .val (.ref b183), .val (.int (1 : Int32)), .val (.int (15 : Int32)), .unset, .unset, .unset, .unset, .unset, .unset, .unset, .unset, .unset, .unset, .unset, .unset] []))
    refine own_FinV.step (fun _ => XS.iload X183.here hx rfl (hb hby at_79) rfl) ?_
    show own_FinV p e below s _ _ _ (T183.setTop (mkF m 81 #[.val (.int p1), .val (.int p2), .val (.int p3), .val (.int (p2 &&& (3 : Int32))), .val (.int (207 : Int32)), .val (.ref b183), .val (.int (1 : Int32)), .val (.int (15 : Int32)), .unset, .unset, .unset, .unset, .unset, .unset, .unset, .unset, .unset, .unset, .unset, .unset] [(.int (1 : Int32))]))
    refine own_FinV.step (fun _ => XS.ifNo X183.here hx rfl (hb hby at_81) rfl (XT.i0_eq_f (by decide : ¬ ((1 : Int32) = (0 : Int32))))) ?_
    show own_FinV p e below s _ _ _ (T183.setTop (mkF m 84 #[.val (.int p1), .val (.int p2), .val (.int p3), .val (.int (p2 &&& (3 : Int32))), .val (.int (207 : Int32)), .val (.ref b183), .val (.int (1 : Int32)), .val (.int (15 : Int32)), .unset, .unset, .unset, .unset, .unset, .unset, .unset, .unset, .unset, .unset, .unset, .unset] []))
    refine own_FinV.step (fun _ => XS.iload X183.here hx rfl (hb hby at_84) rfl) ?_
    show own_FinV p e below s _ _ _ (T183.setTop (mkF m 86 #[.val (.int p1), .val (.int p2), .val (.int p3), .val (.int (p2 &&& (3 : Int32))), .val (.int (207 : Int32)), .val (.ref b183), .val (.int (1 : Int32)), .val (.int (15 : Int32)), .unset, .unset, .unset, .unset, .unset, .unset, .unset, .unset, .unset, .unset, .unset, .unset] [(.int (15 : Int32))]))
    refine own_FinV.step (fun _ => XS.iconst X183.here hx rfl (hb hby at_86)) ?_
    show own_FinV p e below s _ _ _ (T183.setTop (mkF m 87 #[.val (.int p1), .val (.int p2), .val (.int p3), .val (.int (p2 &&& (3 : Int32))), .val (.int (207 : Int32)), .val (.ref b183), .val (.int (1 : Int32)), .val (.int (15 : Int32)), .unset, .unset, .unset, .unset, .unset, .unset, .unset, .unset, .unset, .unset, .unset, .unset] [(.int (4 : Int32)), (.int (15 : Int32))]))
    refine own_FinV.step (fun _ => XS.icmpNo X183.here hx rfl (hb hby at_87) rfl (XT.ii_eq_f (by decide : ¬ ((15 : Int32) = (4 : Int32))))) ?_
    show own_FinV p e below s _ _ _ (T183.setTop (mkF m 90 #[.val (.int p1), .val (.int p2), .val (.int p3), .val (.int (p2 &&& (3 : Int32))), .val (.int (207 : Int32)), .val (.ref b183), .val (.int (1 : Int32)), .val (.int (15 : Int32)), .unset, .unset, .unset, .unset, .unset, .unset, .unset, .unset, .unset, .unset, .unset, .unset] []))
    refine own_FinV.step (fun _ => XS.iload X183.here hx rfl (hb hby at_90) rfl) ?_
    show own_FinV p e below s _ _ _ (T183.setTop (mkF m 92 #[.val (.int p1), .val (.int p2), .val (.int p3), .val (.int (p2 &&& (3 : Int32))), .val (.int (207 : Int32)), .val (.ref b183), .val (.int (1 : Int32)), .val (.int (15 : Int32)), .unset, .unset, .unset, .unset, .unset, .unset, .unset, .unset, .unset, .unset, .unset, .unset] [(.int (15 : Int32))]))
    refine own_FinV.step (fun _ => XS.bipush X183.here hx rfl (hb hby at_92)) ?_
    show own_FinV p e below s _ _ _ (T183.setTop (mkF m 94 #[.val (.int p1), .val (.int p2), .val (.int p3), .val (.int (p2 &&& (3 : Int32))), .val (.int (207 : Int32)), .val (.ref b183), .val (.int (1 : Int32)), .val (.int (15 : Int32)), .unset, .unset, .unset, .unset, .unset, .unset, .unset, .unset, .unset, .unset, .unset, .unset] [(.int (8 : Int32)), (.int (15 : Int32))]))
    refine own_FinV.step (fun _ => XS.icmpNo X183.here hx rfl (hb hby at_94) rfl (XT.ii_eq_f (by decide : ¬ ((15 : Int32) = (8 : Int32))))) ?_
    show own_FinV p e below s _ _ _ (T183.setTop (mkF m 97 #[.val (.int p1), .val (.int p2), .val (.int p3), .val (.int (p2 &&& (3 : Int32))), .val (.int (207 : Int32)), .val (.ref b183), .val (.int (1 : Int32)), .val (.int (15 : Int32)), .unset, .unset, .unset, .unset, .unset, .unset, .unset, .unset, .unset, .unset, .unset, .unset] []))
    refine own_FinV.step (fun _ => XS.iload X183.here hx rfl (hb hby at_97) rfl) ?_
    show own_FinV p e below s _ _ _ (T183.setTop (mkF m 99 #[.val (.int p1), .val (.int p2), .val (.int p3), .val (.int (p2 &&& (3 : Int32))), .val (.int (207 : Int32)), .val (.ref b183), .val (.int (1 : Int32)), .val (.int (15 : Int32)), .unset, .unset, .unset, .unset, .unset, .unset, .unset, .unset, .unset, .unset, .unset, .unset] [(.int (15 : Int32))]))
    refine own_FinV.step (fun _ => XS.bipush X183.here hx rfl (hb hby at_99)) ?_
    show own_FinV p e below s _ _ _ (T183.setTop (mkF m 101 #[.val (.int p1), .val (.int p2), .val (.int p3), .val (.int (p2 &&& (3 : Int32))), .val (.int (207 : Int32)), .val (.ref b183), .val (.int (1 : Int32)), .val (.int (15 : Int32)), .unset, .unset, .unset, .unset, .unset, .unset, .unset, .unset, .unset, .unset, .unset, .unset] [(.int (12 : Int32)), (.int (15 : Int32))]))
    refine own_FinV.step (fun _ => XS.icmpNo X183.here hx rfl (hb hby at_101) rfl (XT.ii_eq_f (by decide : ¬ ((15 : Int32) = (12 : Int32))))) ?_
    show own_FinV p e below s _ _ _ (T183.setTop (mkF m 104 #[.val (.int p1), .val (.int p2), .val (.int p3), .val (.int (p2 &&& (3 : Int32))), .val (.int (207 : Int32)), .val (.ref b183), .val (.int (1 : Int32)), .val (.int (15 : Int32)), .unset, .unset, .unset, .unset, .unset, .unset, .unset, .unset, .unset, .unset, .unset, .unset] []))
    refine own_FinV.step (fun _ => XS.iconst X183.here hx rfl (hb hby at_104)) ?_
    show own_FinV p e below s _ _ _ (T183.setTop (mkF m 105 #[.val (.int p1), .val (.int p2), .val (.int p3), .val (.int (p2 &&& (3 : Int32))), .val (.int (207 : Int32)), .val (.ref b183), .val (.int (1 : Int32)), .val (.int (15 : Int32)), .unset, .unset, .unset, .unset, .unset, .unset, .unset, .unset, .unset, .unset, .unset, .unset] [(.int (1 : Int32))]))
    refine own_FinV.step (fun _ => XS.goto X183.here hx rfl (pc0 := 105) (pc' := 109) rfl (hb hby at_105) (by decide) (by decide)) ?_
    show own_FinV p e below s _ _ _ (T183.setTop (mkF m 109 #[.val (.int p1), .val (.int p2), .val (.int p3), .val (.int (p2 &&& (3 : Int32))), .val (.int (207 : Int32)), .val (.ref b183), .val (.int (1 : Int32)), .val (.int (15 : Int32)), .unset, .unset, .unset, .unset, .unset, .unset, .unset, .unset, .unset, .unset, .unset, .unset] [(.int (1 : Int32))]))
    refine own_FinV.step (fun _ => XS.istore X183.here hx rfl (hb hby at_109) rfl (l' := #[.val (.int p1), .val (.int p2), .val (.int p3), .val (.int (p2 &&& (3 : Int32))), .val (.int (207 : Int32)), .val (.ref b183), .val (.int (1 : Int32)), .val (.int (15 : Int32)), .val (.int (1 : Int32)), .unset, .unset, .unset, .unset, .unset, .unset, .unset, .unset, .unset, .unset, .unset]) rfl) ?_
    show own_FinV p e below s _ _ _ (T183.setTop (mkF m 111 #[.val (.int p1), .val (.int p2), .val (.int p3), .val (.int (p2 &&& (3 : Int32))), .val (.int (207 : Int32)), .val (.ref b183), .val (.int (1 : Int32)), .val (.int (15 : Int32)), .val (.int (1 : Int32)), .unset, .unset, .unset, .unset, .unset, .unset, .unset, .unset, .unset, .unset, .unset] []))
    refine own_FinV.step (fun _ => XS.iload X183.here hx rfl (hb hby at_111) rfl) ?_
    show own_FinV p e below s _ _ _ (T183.setTop (mkF m 113 #[.val (.int p1), .val (.int p2), .val (.int p3), .val (.int (p2 &&& (3 : Int32))), .val (.int (207 : Int32)), .val (.ref b183), .val (.int (1 : Int32)), .val (.int (15 : Int32)), .val (.int (1 : Int32)), .unset, .unset, .unset, .unset, .unset, .unset, .unset, .unset, .unset, .unset, .unset] [(.int (1 : Int32))]))
    refine own_FinV.step (fun _ => XS.ifYes X183.here hx rfl (pc0 := 113) (pc' := 127) rfl (hb hby at_113) rfl (XT.i0_ne_t (by decide : ¬ ((1 : Int32) = (0 : Int32)))) (by decide) (by decide)) ?_
    show own_FinV p e below s _ _ _ (T183.setTop (mkF m 127 #[.val (.int p1), .val (.int p2), .val (.int p3), .val (.int (p2 &&& (3 : Int32))), .val (.int (207 : Int32)), .val (.ref b183), .val (.int (1 : Int32)), .val (.int (15 : Int32)), .val (.int (1 : Int32)), .unset, .unset, .unset, .unset, .unset, .unset, .unset, .unset, .unset, .unset, .unset] []))
    refine own_FinV.step (fun _ => XS.aload X183.here hx rfl (hb hby at_127) rfl rfl) ?_
    show own_FinV p e below s _ _ _ (T183.setTop (mkF m 129 #[.val (.int p1), .val (.int p2), .val (.int p3), .val (.int (p2 &&& (3 : Int32))), .val (.int (207 : Int32)), .val (.ref b183), .val (.int (1 : Int32)), .val (.int (15 : Int32)), .val (.int (1 : Int32)), .unset, .unset, .unset, .unset, .unset, .unset, .unset, .unset, .unset, .unset, .unset] [(.ref b183)]))
    refine own_FinV.step (fun _ => XS.ifnonnullYes X183.here hx rfl (pc0 := 129) (pc' := 134) rfl (hb hby at_129) rfl (by decide) (by decide)) ?_
    show own_FinV p e below s _ _ _ (T183.setTop (mkF m 134 #[.val (.int p1), .val (.int p2), .val (.int p3), .val (.int (p2 &&& (3 : Int32))), .val (.int (207 : Int32)), .val (.ref b183), .val (.int (1 : Int32)), .val (.int (15 : Int32)), .val (.int (1 : Int32)), .unset, .unset, .unset, .unset, .unset, .unset, .unset, .unset, .unset, .unset, .unset] []))
    refine own_FinV.step (fun _ => XS.iload X183.here hx rfl (hb hby at_134) rfl) ?_
    show own_FinV p e below s _ _ _ (T183.setTop (mkF m 136 #[.val (.int p1), .val (.int p2), .val (.int p3), .val (.int (p2 &&& (3 : Int32))), .val (.int (207 : Int32)), .val (.ref b183), .val (.int (1 : Int32)), .val (.int (15 : Int32)), .val (.int (1 : Int32)), .unset, .unset, .unset, .unset, .unset, .unset, .unset, .unset, .unset, .unset, .unset] [(.int (15 : Int32))]))
    refine own_FinV.step (fun _ => XS.iconst X183.here hx rfl (hb hby at_136)) ?_
    show own_FinV p e below s _ _ _ (T183.setTop (mkF m 137 #[.val (.int p1), .val (.int p2), .val (.int p3), .val (.int (p2 &&& (3 : Int32))), .val (.int (207 : Int32)), .val (.ref b183), .val (.int (1 : Int32)), .val (.int (15 : Int32)), .val (.int (1 : Int32)), .unset, .unset, .unset, .unset, .unset, .unset, .unset, .unset, .unset, .unset, .unset] [(.int (4 : Int32)), (.int (15 : Int32))]))
    refine own_FinV.step (fun _ => XS.iand X183.here hx rfl (hb hby at_137) rfl) ?_
    show own_FinV p e below s _ _ _ (T183.setTop (mkF m 138 #[.val (.int p1), .val (.int p2), .val (.int p3), .val (.int (p2 &&& (3 : Int32))), .val (.int (207 : Int32)), .val (.ref b183), .val (.int (1 : Int32)), .val (.int (15 : Int32)), .val (.int (1 : Int32)), .unset, .unset, .unset, .unset, .unset, .unset, .unset, .unset, .unset, .unset, .unset] [(.int (4 : Int32))]))
    refine own_FinV.step (fun _ => XS.ifNo X183.here hx rfl (hb hby at_138) rfl (XT.i0_eq_f (by decide : ¬ ((4 : Int32) = (0 : Int32))))) ?_
    show own_FinV p e below s _ _ _ (T183.setTop (mkF m 141 #[.val (.int p1), .val (.int p2), .val (.int p3), .val (.int (p2 &&& (3 : Int32))), .val (.int (207 : Int32)), .val (.ref b183), .val (.int (1 : Int32)), .val (.int (15 : Int32)), .val (.int (1 : Int32)), .unset, .unset, .unset, .unset, .unset, .unset, .unset, .unset, .unset, .unset, .unset] []))
    refine own_FinV.step (fun _ => XS.iconst X183.here hx rfl (hb hby at_141)) ?_
    show own_FinV p e below s _ _ _ (T183.setTop (mkF m 142 #[.val (.int p1), .val (.int p2), .val (.int p3), .val (.int (p2 &&& (3 : Int32))), .val (.int (207 : Int32)), .val (.ref b183), .val (.int (1 : Int32)), .val (.int (15 : Int32)), .val (.int (1 : Int32)), .unset, .unset, .unset, .unset, .unset, .unset, .unset, .unset, .unset, .unset, .unset] [(.int (1 : Int32))]))
    refine own_FinV.step (fun _ => XS.goto X183.here hx rfl (pc0 := 142) (pc' := 146) rfl (hb hby at_142) (by decide) (by decide)) ?_
    show own_FinV p e below s _ _ _ (T183.setTop (mkF m 146 #[.val (.int p1), .val (.int p2), .val (.int p3), .val (.int (p2 &&& (3 : Int32))), .val (.int (207 : Int32)), .val (.ref b183), .val (.int (1 : Int32)), .val (.int (15 : Int32)), .val (.int (1 : Int32)), .unset, .unset, .unset, .unset, .unset, .unset, .unset, .unset, .unset, .unset, .unset] [(.int (1 : Int32))]))
    refine own_FinV.step (fun _ => XS.istore X183.here hx rfl (hb hby at_146) rfl (l' := #[.val (.int p1), .val (.int p2), .val (.int p3), .val (.int (p2 &&& (3 : Int32))), .val (.int (207 : Int32)), .val (.ref b183), .val (.int (1 : Int32)), .val (.int (15 : Int32)), .val (.int (1 : Int32)), .val (.int (1 : Int32)), .unset, .unset, .unset, .unset, .unset, .unset, .unset, .unset, .unset, .unset]) rfl) ?_
    show own_FinV p e below s _ _ _ (T183.setTop (mkF m 148 #[.val (.int p1), .val (.int p2), .val (.int p3), .val (.int (p2 &&& (3 : Int32))), .val (.int (207 : Int32)), .val (.ref b183), .val (.int (1 : Int32)), .val (.int (15 : Int32)), .val (.int (1 : Int32)), .val (.int (1 : Int32)), .unset, .unset, .unset, .unset, .unset, .unset, .unset, .unset, .unset, .unset] []))
    refine own_FinV.step (fun _ => XS.iload X183.here hx rfl (hb hby at_148) rfl) ?_
    show own_FinV p e below s _ _ _ (T183.setTop (mkF m 150 #[.val (.int p1), .val (.int p2), .val (.int p3), .val (.int (p2 &&& (3 : Int32))), .val (.int (207 : Int32)), .val (.ref b183), .val (.int (1 : Int32)), .val (.int (15 : Int32)), .val (.int (1 : Int32)), .val (.int (1 : Int32)), .unset, .unset, .unset, .unset, .unset, .unset, .unset, .unset, .unset, .unset] [(.int (15 : Int32))]))
    refine own_FinV.step (fun _ => XS.bipush X183.here hx rfl (hb hby at_150)) ?_
    show own_FinV p e below s _ _ _ (T183.setTop (mkF m 152 #[.val (.int p1), .val (.int p2), .val (.int p3), .val (.int (p2 &&& (3 : Int32))), .val (.int (207 : Int32)), .val (.ref b183), .val (.int (1 : Int32)), .val (.int (15 : Int32)), .val (.int (1 : Int32)), .val (.int (1 : Int32)), .unset, .unset, .unset, .unset, .unset, .unset, .unset, .unset, .unset, .unset] [(.int (8 : Int32)), (.int (15 : Int32))]))
    refine own_FinV.step (fun _ => XS.iand X183.here hx rfl (hb hby at_152) rfl) ?_
    show own_FinV p e below s _ _ _ (T183.setTop (mkF m 153 #[.val (.int p1), .val (.int p2), .val (.int p3), .val (.int (p2 &&& (3 : Int32))), .val (.int (207 : Int32)), .val (.ref b183), .val (.int (1 : Int32)), .val (.int (15 : Int32)), .val (.int (1 : Int32)), .val (.int (1 : Int32)), .unset, .unset, .unset, .unset, .unset, .unset, .unset, .unset, .unset, .unset] [(.int (8 : Int32))]))
    refine own_FinV.step (fun _ => XS.ifNo X183.here hx rfl (hb hby at_153) rfl (XT.i0_eq_f (by decide : ¬ ((8 : Int32) = (0 : Int32))))) ?_
    show own_FinV p e below s _ _ _ (T183.setTop (mkF m 156 #[.val (.int p1), .val (.int p2), .val (.int p3), .val (.int (p2 &&& (3 : Int32))), .val (.int (207 : Int32)), .val (.ref b183), .val (.int (1 : Int32)), .val (.int (15 : Int32)), .val (.int (1 : Int32)), .val (.int (1 : Int32)), .unset, .unset, .unset, .unset, .unset, .unset, .unset, .unset, .unset, .unset] []))
    refine own_FinV.step (fun _ => XS.iconst X183.here hx rfl (hb hby at_156)) ?_
    show own_FinV p e below s _ _ _ (T183.setTop (mkF m 157 #[.val (.int p1), .val (.int p2), .val (.int p3), .val (.int (p2 &&& (3 : Int32))), .val (.int (207 : Int32)), .val (.ref b183), .val (.int (1 : Int32)), .val (.int (15 : Int32)), .val (.int (1 : Int32)), .val (.int (1 : Int32)), .unset, .unset, .unset, .unset, .unset, .unset, .unset, .unset, .unset, .unset] [(.int (1 : Int32))]))
    refine own_FinV.step (fun _ => XS.goto X183.here hx rfl (pc0 := 157) (pc' := 161) rfl (hb hby at_157) (by decide) (by decide)) ?_
    show own_FinV p e below s _ _ _ (T183.setTop (mkF m 161 #[.val (.int p1), .val (.int p2), .val (.int p3), .val (.int (p2 &&& (3 : Int32))), .val (.int (207 : Int32)), .val (.ref b183), .val (.int (1 : Int32)), .val (.int (15 : Int32)), .val (.int (1 : Int32)), .val (.int (1 : Int32)), .unset, .unset, .unset, .unset, .unset, .unset, .unset, .unset, .unset, .unset] [(.int (1 : Int32))]))
    refine own_FinV.step (fun _ => XS.istore X183.here hx rfl (hb hby at_161) rfl (l' := #[.val (.int p1), .val (.int p2), .val (.int p3), .val (.int (p2 &&& (3 : Int32))), .val (.int (207 : Int32)), .val (.ref b183), .val (.int (1 : Int32)), .val (.int (15 : Int32)), .val (.int (1 : Int32)), .val (.int (1 : Int32)), .val (.int (1 : Int32)), .unset, .unset, .unset, .unset, .unset, .unset, .unset, .unset, .unset]) rfl) ?_
    show own_FinV p e below s _ _ _ (T183.setTop (mkF m 163 #[.val (.int p1), .val (.int p2), .val (.int p3), .val (.int (p2 &&& (3 : Int32))), .val (.int (207 : Int32)), .val (.ref b183), .val (.int (1 : Int32)), .val (.int (15 : Int32)), .val (.int (1 : Int32)), .val (.int (1 : Int32)), .val (.int (1 : Int32)), .unset, .unset, .unset, .unset, .unset, .unset, .unset, .unset, .unset] []))
    refine own_FinV.step (fun _ => XS.iload X183.here hx rfl (hb hby at_163) rfl) ?_
    show own_FinV p e below s _ _ _ (T183.setTop (mkF m 165 #[.val (.int p1), .val (.int p2), .val (.int p3), .val (.int (p2 &&& (3 : Int32))), .val (.int (207 : Int32)), .val (.ref b183), .val (.int (1 : Int32)), .val (.int (15 : Int32)), .val (.int (1 : Int32)), .val (.int (1 : Int32)), .val (.int (1 : Int32)), .unset, .unset, .unset, .unset, .unset, .unset, .unset, .unset, .unset] [(.int (15 : Int32))]))
    refine own_FinV.step (fun _ => XS.iconst X183.here hx rfl (hb hby at_165)) ?_
    show own_FinV p e below s _ _ _ (T183.setTop (mkF m 166 #[.val (.int p1), .val (.int p2), .val (.int p3), .val (.int (p2 &&& (3 : Int32))), .val (.int (207 : Int32)), .val (.ref b183), .val (.int (1 : Int32)), .val (.int (15 : Int32)), .val (.int (1 : Int32)), .val (.int (1 : Int32)), .val (.int (1 : Int32)), .unset, .unset, .unset, .unset, .unset, .unset, .unset, .unset, .unset] [(.int (3 : Int32)), (.int (15 : Int32))]))
    refine own_FinV.step (fun _ => XS.iand X183.here hx rfl (hb hby at_166) rfl) ?_
    show own_FinV p e below s _ _ _ (T183.setTop (mkF m 167 #[.val (.int p1), .val (.int p2), .val (.int p3), .val (.int (p2 &&& (3 : Int32))), .val (.int (207 : Int32)), .val (.ref b183), .val (.int (1 : Int32)), .val (.int (15 : Int32)), .val (.int (1 : Int32)), .val (.int (1 : Int32)), .val (.int (1 : Int32)), .unset, .unset, .unset, .unset, .unset, .unset, .unset, .unset, .unset] [(.int (3 : Int32))]))
    refine own_FinV.step (fun _ => XS.istore X183.here hx rfl (hb hby at_167) rfl (l' := #[.val (.int p1), .val (.int p2), .val (.int p3), .val (.int (p2 &&& (3 : Int32))), .val (.int (207 : Int32)), .val (.ref b183), .val (.int (1 : Int32)), .val (.int (15 : Int32)), .val (.int (1 : Int32)), .val (.int (1 : Int32)), .val (.int (1 : Int32)), .val (.int (3 : Int32)), .unset, .unset, .unset, .unset, .unset, .unset, .unset, .unset]) rfl) ?_
    show own_FinV p e below s _ _ _ (T183.setTop (mkF m 169 #[.val (.int p1), .val (.int p2), .val (.int p3), .val (.int (p2 &&& (3 : Int32))), .val (.int (207 : Int32)), .val (.ref b183), .val (.int (1 : Int32)), .val (.int (15 : Int32)), .val (.int (1 : Int32)), .val (.int (1 : Int32)), .val (.int (1 : Int32)), .val (.int (3 : Int32)), .unset, .unset, .unset, .unset, .unset, .unset, .unset, .unset] []))
    refine own_FinV.step (fun _ => XS.iload X183.here hx rfl (hb hby at_169) rfl) ?_
    show own_FinV p e below s _ _ _ (T183.setTop (mkF m 171 #[.val (.int p1), .val (.int p2), .val (.int p3), .val (.int (p2 &&& (3 : Int32))), .val (.int (207 : Int32)), .val (.ref b183), .val (.int (1 : Int32)), .val (.int (15 : Int32)), .val (.int (1 : Int32)), .val (.int (1 : Int32)), .val (.int (1 : Int32)), .val (.int (3 : Int32)), .unset, .unset, .unset, .unset, .unset, .unset, .unset, .unset] [(.int (1 : Int32))]))
    refine own_FinV.step (fun _ => XS.ifNo X183.here hx rfl (hb hby at_171) rfl (XT.i0_eq_f (by decide : ¬ ((1 : Int32) = (0 : Int32))))) ?_
    show own_FinV p e below s _ _ _ (T183.setTop (mkF m 174 #[.val (.int p1), .val (.int p2), .val (.int p3), .val (.int (p2 &&& (3 : Int32))), .val (.int (207 : Int32)), .val (.ref b183), .val (.int (1 : Int32)), .val (.int (15 : Int32)), .val (.int (1 : Int32)), .val (.int (1 : Int32)), .val (.int (1 : Int32)), .val (.int (3 : Int32)), .unset, .unset, .unset, .unset, .unset, .unset, .unset, .unset] []))
    obtain ⟨b185, T185, h185, k185, X185, e185, E185, hS185, hk185, hZ185, hown185, St185, C185, st185⟩ := own_ldcV (s := s) (vm0 := T183.vm) X183 hx hZ hown (own_w hw 59 rfl) own_wS rfl hS hk hEL (List.mem_of_getElem? (i := 13) rfl) C183 (by decide) (g := (mkF m 174 #[.val (.int p1), .val (.int p2), .val (.int p3), .val (.int (p2 &&& (3 : Int32))), .val (.int (207 : Int32)), .val (.ref b183), .val (.int (1 : Int32)), .val (.int (15 : Int32)), .val (.int (1 : Int32)), .val (.int (1 : Int32)), .val (.int (1 : Int32)), .val (.int (3 : Int32)), .unset, .unset, .unset, .unset, .unset, .unset, .unset, .unset] [])) rfl (hb hby at_174) (n := 52) (by decide) (by decide) (by decide) (by decide)
    have hS := hS185
    have hk := hk185
    have hZ := hZ185
    have hown := hown185
    have f186 := f184.ext E185
    have f187 := St183.ext E185
    have Z185 : n0 ≤ h185.size := Nat.le_trans Z183 E185.1
    refine own_FinV.step st185 ?_
    show own_FinV p e below s _ _ _ (T185.setTop (mkF m 176 #[.val (.int p1), .val (.int p2), .val (.int p3), .val (.int (p2 &&& (3 : Int32))), .val (.int (207 : Int32)), .val (.ref b183), .val (.int (1 : Int32)), .val (.int (15 : Int32)), .val (.int (1 : Int32)), .val (.int (1 : Int32)), .val (.int (1 : Int32)), .val (.int (3 : Int32)), .unset, .unset, .unset, .unset, .unset, .unset, .unset, .unset] [(.ref b185)]))
    refine own_FinV.step (fun _ => XS.goto X185.here hx rfl (pc0 := 176) (pc' := 181) rfl (hb hby at_176) (by decide) (by decide)) ?_
    show own_FinV p e below s _ _ _ (T185.setTop (mkF m 181 #[.val (.int p1), .val (.int p2), .val (.int p3), .val (.int (p2 &&& (3 : Int32))), .val (.int (207 : Int32)), .val (.ref b183), .val (.int (1 : Int32)), .val (.int (15 : Int32)), .val (.int (1 : Int32)), .val (.int (1 : Int32)), .val (.int (1 : Int32)), .val (.int (3 : Int32)), .unset, .unset, .unset, .unset, .unset, .unset, .unset, .unset] [(.ref b185)]))
    refine own_FinV.step (fun _ => XS.astore X185.here hx rfl (hb hby at_181) rfl rfl (l' := #[.val (.int p1), .val (.int p2), .val (.int p3), .val (.int (p2 &&& (3 : Int32))), .val (.int (207 : Int32)), .val (.ref b183), .val (.int (1 : Int32)), .val (.int (15 : Int32)), .val (.int (1 : Int32)), .val (.int (1 : Int32)), .val (.int (1 : Int32)), .val (.int (3 : Int32)), .val (.ref b185), .unset, .unset, .unset, .unset, .unset, .unset, .unset]) rfl) ?_
    show own_FinV p e below s _ _ _ (T185.setTop (mkF m 183 #[.val (.int p1), .val (.int p2), .val (.int p3), .val (.int (p2 &&& (3 : Int32))), .val (.int (207 : Int32)), .val (.ref b183), .val (.int (1 : Int32)), .val (.int (15 : Int32)), .val (.int (1 : Int32)), .val (.int (1 : Int32)), .val (.int (1 : Int32)), .val (.int (3 : Int32)), .val (.ref b185), .unset, .unset, .unset, .unset, .unset, .unset, .unset] []))
    refine own_FinV.step (fun _ => XS.iload X185.here hx rfl (hb hby at_183) rfl) ?_
    show own_FinV p e below s _ _ _ (T185.setTop (mkF m 185 #[.val (.int p1), .val (.int p2), .val (.int p3), .val (.int (p2 &&& (3 : Int32))), .val (.int (207 : Int32)), .val (.ref b183), .val (.int (1 : Int32)), .val (.int (15 : Int32)), .val (.int (1 : Int32)), .val (.int (1 : Int32)), .val (.int (1 : Int32)), .val (.int (3 : Int32)), .val (.ref b185), .unset, .unset, .unset, .unset, .unset, .unset, .unset] [(.int (3 : Int32))]))
    refine own_FinV.step (fun _ => XS.ifYes X185.here hx rfl (pc0 := 185) (pc' := 195) rfl (hb hby at_185) rfl (XT.i0_ne_t (by decide : ¬ ((3 : Int32) = (0 : Int32)))) (by decide) (by decide)) ?_
    show own_FinV p e below s _ _ _ (T185.setTop (mkF m 195 #[.val (.int p1), .val (.int p2), .val (.int p3), .val (.int (p2 &&& (3 : Int32))), .val (.int (207 : Int32)), .val (.ref b183), .val (.int (1 : Int32)), .val (.int (15 : Int32)), .val (.int (1 : Int32)), .val (.int (1 : Int32)), .val (.int (1 : Int32)), .val (.int (3 : Int32)), .val (.ref b185), .unset, .unset, .unset, .unset, .unset, .unset, .unset] []))
    refine own_FinV.step (fun _ => XS.iload X185.here hx rfl (hb hby at_195) rfl) ?_
    show own_FinV p e below s _ _ _ (T185.setTop (mkF m 197 #[.val (.int p1), .val (.int p2), .val (.int p3), .val (.int (p2 &&& (3 : Int32))), .val (.int (207 : Int32)), .val (.ref b183), .val (.int (1 : Int32)), .val (.int (15 : Int32)), .val (.int (1 : Int32)), .val (.int (1 : Int32)), .val (.int (1 : Int32)), .val (.int (3 : Int32)), .val (.ref b185), .unset, .unset, .unset, .unset, .unset, .unset, .unset] [(.int (3 : Int32))]))
    refine own_FinV.step (fun _ => XS.iconst X185.here hx rfl (hb hby at_197)) ?_
    show own_FinV p e below s _ _ _ (T185.setTop (mkF m 198 #[.val (.int p1), .val (.int p2), .val (.int p3), .val (.int (p2 &&& (3 : Int32))), .val (.int (207 : Int32)), .val (.ref b183), .val (.int (1 : Int32)), .val (.int (15 : Int32)), .val (.int (1 : Int32)), .val (.int (1 : Int32)), .val (.int (1 : Int32)), .val (.int (3 : Int32)), .val (.ref b185), .unset, .unset, .unset, .unset, .unset, .unset, .unset] [(.int (1 : Int32)), (.int (3 : Int32))]))
    refine own_FinV.step (fun _ => XS.icmpYes X185.here hx rfl (pc0 := 198) (pc' := 218) rfl (hb hby at_198) rfl (XT.ii_ne_t (by decide : ¬ ((3 : Int32) = (1 : Int32)))) (by decide) (by decide)) ?_
    show own_FinV p e below s _ _ _ (T185.setTop (mkF m 218 #[.val (.int p1), .val (.int p2), .val (.int p3), .val (.int (p2 &&& (3 : Int32))), .val (.int (207 : Int32)), .val (.ref b183), .val (.int (1 : Int32)), .val (.int (15 : Int32)), .val (.int (1 : Int32)), .val (.int (1 : Int32)), .val (.int (1 : Int32)), .val (.int (3 : Int32)), .val (.ref b185), .unset, .unset, .unset, .unset, .unset, .unset, .unset] []))
    refine own_FinV.step (fun _ => XS.iload X185.here hx rfl (hb hby at_218) rfl) ?_
    show own_FinV p e below s _ _ _ (T185.setTop (mkF m 220 #[.val (.int p1), .val (.int p2), .val (.int p3), .val (.int (p2 &&& (3 : Int32))), .val (.int (207 : Int32)), .val (.ref b183), .val (.int (1 : Int32)), .val (.int (15 : Int32)), .val (.int (1 : Int32)), .val (.int (1 : Int32)), .val (.int (1 : Int32)), .val (.int (3 : Int32)), .val (.ref b185), .unset, .unset, .unset, .unset, .unset, .unset, .unset] [(.int (3 : Int32))]))
    refine own_FinV.step (fun _ => XS.iconst X185.here hx rfl (hb hby at_220)) ?_
    show own_FinV p e below s _ _ _ (T185.setTop (mkF m 221 #[.val (.int p1), .val (.int p2), .val (.int p3), .val (.int (p2 &&& (3 : Int32))), .val (.int (207 : Int32)), .val (.ref b183), .val (.int (1 : Int32)), .val (.int (15 : Int32)), .val (.int (1 : Int32)), .val (.int (1 : Int32)), .val (.int (1 : Int32)), .val (.int (3 : Int32)), .val (.ref b185), .unset, .unset, .unset, .unset, .unset, .unset, .unset] [(.int (2 : Int32)), (.int (3 : Int32))]))
    refine own_FinV.step (fun _ => XS.icmpYes X185.here hx rfl (pc0 := 221) (pc' := 231) rfl (hb hby at_221) rfl (XT.ii_ne_t (by decide : ¬ ((3 : Int32) = (2 : Int32)))) (by decide) (by decide)) ?_
    show own_FinV p e below s _ _ _ (T185.setTop (mkF m 231 #[.val (.int p1), .val (.int p2), .val (.int p3), .val (.int (p2 &&& (3 : Int32))), .val (.int (207 : Int32)), .val (.ref b183), .val (.int (1 : Int32)), .val (.int (15 : Int32)), .val (.int (1 : Int32)), .val (.int (1 : Int32)), .val (.int (1 : Int32)), .val (.int (3 : Int32)), .val (.ref b185), .unset, .unset, .unset, .unset, .unset, .unset, .unset] []))
    obtain ⟨b188, T188, h188, k188, X188, e188, E188, hS188, hk188, hZ188, hown188, St188, C188, st188⟩ := own_ldcV (s := s) (vm0 := T185.vm) X185 hx hZ hown (own_w hw 53 rfl) own_wS e185 hS hk hEL (List.mem_of_getElem? (i := 19) rfl) C185 (by decide) (g := (mkF m 231 #[.val (.int p1), .val (.int p2), .val (.int p3), .val (.int (p2 &&& (3 : Int32))), .val (.int (207 : Int32)), .val (.ref b183), .val (.int (1 : Int32)), .val (.int (15 : Int32)), .val (.int (1 : Int32)), .val (.int (1 : Int32)), .val (.int (1 : Int32)), .val (.int (3 : Int32)), .val (.ref b185), .unset, .unset, .unset, .unset, .unset, .unset, .unset] [])) rfl (hb hby at_231) (n := 32) (by decide) (by decide) (by decide) (by decide)
    have hS := hS188
    have hk := hk188
    have hZ := hZ188
    have hown := hown188
    have f189 := f186.ext E188
    have f190 := f187.ext E188
    have f191 := St185.ext E188
    have Z188 : n0 ≤ h188.size := Nat.le_trans Z185 E188.1
    refine own_FinV.step st188 ?_
    show own_FinV p e below s _ _ _ (T188.setTop (mkF m 233 #[.val (.int p1), .val (.int p2), .val (.int p3), .val (.int (p2 &&& (3 : Int32))), .val (.int (207 : Int32)), .val (.ref b183), .val (.int (1 : Int32)), .val (.int (15 : Int32)), .val (.int (1 : Int32)), .val (.int (1 : Int32)), .val (.int (1 : Int32)), .val (.int (3 : Int32)), .val (.ref b185), .unset, .unset, .unset, .unset, .unset, .unset, .unset] [(.ref b188)]))
    refine own_FinV.step (fun _ => XS.astore X188.here hx rfl (hb hby at_233) rfl rfl (l' := #[.val (.int p1), .val (.int p2), .val (.int p3), .val (.int (p2 &&& (3 : Int32))), .val (.int (207 : Int32)), .val (.ref b183), .val (.int (1 : Int32)), .val (.int (15 : Int32)), .val (.int (1 : Int32)), .val (.int (1 : Int32)), .val (.int (1 : Int32)), .val (.int (3 : Int32)), .val (.ref b185), .val (.ref b188), .unset, .unset, .unset, .unset, .unset, .unset]) rfl) ?_
    show own_FinV p e below s _ _ _ (T188.setTop (mkF m 235 #[.val (.int p1), .val (.int p2), .val (.int p3), .val (.int (p2 &&& (3 : Int32))), .val (.int (207 : Int32)), .val (.ref b183), .val (.int (1 : Int32)), .val (.int (15 : Int32)), .val (.int (1 : Int32)), .val (.int (1 : Int32)), .val (.int (1 : Int32)), .val (.int (3 : Int32)), .val (.ref b185), .val (.ref b188), .unset, .unset, .unset, .unset, .unset, .unset] []))
    refine own_FinV.step (fun _ => XS.iload X188.here hx rfl (hb hby at_235) rfl) ?_
    show own_FinV p e below s _ _ _ (T188.setTop (mkF m 237 #[.val (.int p1), .val (.int p2), .val (.int p3), .val (.int (p2 &&& (3 : Int32))), .val (.int (207 : Int32)), .val (.ref b183), .val (.int (1 : Int32)), .val (.int (15 : Int32)), .val (.int (1 : Int32)), .val (.int (1 : Int32)), .val (.int (1 : Int32)), .val (.int (3 : Int32)), .val (.ref b185), .val (.ref b188), .unset, .unset, .unset, .unset, .unset, .unset] [(.int (1 : Int32))]))
    refine own_FinV.step (fun _ => XS.ifNo X188.here hx rfl (hb hby at_237) rfl (XT.i0_eq_f (by decide : ¬ ((1 : Int32) = (0 : Int32))))) ?_
    show own_FinV p e below s _ _ _ (T188.setTop (mkF m 240 #[.val (.int p1), .val (.int p2), .val (.int p3), .val (.int (p2 &&& (3 : Int32))), .val (.int (207 : Int32)), .val (.ref b183), .val (.int (1 : Int32)), .val (.int (15 : Int32)), .val (.int (1 : Int32)), .val (.int (1 : Int32)), .val (.int (1 : Int32)), .val (.int (3 : Int32)), .val (.ref b185), .val (.ref b188), .unset, .unset, .unset, .unset, .unset, .unset] []))
    obtain ⟨b192, T192, h192, k192, X192, e192, E192, hS192, hk192, hZ192, hown192, St192, C192, st192⟩ := own_ldcV (s := s) (vm0 := T188.vm) X188 hx hZ hown (own_w hw 55 rfl) own_wS e188 hS hk hEL (List.mem_of_getElem? (i := 20) rfl) C188 (by decide) (g := (mkF m 240 #[.val (.int p1), .val (.int p2), .val (.int p3), .val (.int (p2 &&& (3 : Int32))), .val (.int (207 : Int32)), .val (.ref b183), .val (.int (1 : Int32)), .val (.int (15 : Int32)), .val (.int (1 : Int32)), .val (.int (1 : Int32)), .val (.int (1 : Int32)), .val (.int (3 : Int32)), .val (.ref b185), .val (.ref b188), .unset, .unset, .unset, .unset, .unset, .unset] [])) rfl (hb hby at_240) (n := 72) (by decide) (by decide) (by decide) (by decide)
    have hS := hS192
    have hk := hk192
    have hZ := hZ192
    have hown := hown192
    have f193 := f189.ext E192
    have f194 := f190.ext E192
    have f195 := f191.ext E192
    have f196 := St188.ext E192
    have Z192 : n0 ≤ h192.size := Nat.le_trans Z188 E192.1
    refine own_FinV.step st192 ?_
    show own_FinV p e below s _ _ _ (T192.setTop (mkF m 242 #[.val (.int p1), .val (.int p2), .val (.int p3), .val (.int (p2 &&& (3 : Int32))), .val (.int (207 : Int32)), .val (.ref b183), .val (.int (1 : Int32)), .val (.int (15 : Int32)), .val (.int (1 : Int32)), .val (.int (1 : Int32)), .val (.int (1 : Int32)), .val (.int (3 : Int32)), .val (.ref b185), .val (.ref b188), .unset, .unset, .unset, .unset, .unset, .unset] [(.ref b192)]))
    refine own_FinV.step (fun _ => XS.goto X192.here hx rfl (pc0 := 242) (pc' := 247) rfl (hb hby at_242) (by decide) (by decide)) ?_
    show own_FinV p e below s _ _ _ (T192.setTop (mkF m 247 #[.val (.int p1), .val (.int p2), .val (.int p3), .val (.int (p2 &&& (3 : Int32))), .val (.int (207 : Int32)), .val (.ref b183), .val (.int (1 : Int32)), .val (.int (15 : Int32)), .val (.int (1 : Int32)), .val (.int (1 : Int32)), .val (.int (1 : Int32)), .val (.int (3 : Int32)), .val (.ref b185), .val (.ref b188), .unset, .unset, .unset, .unset, .unset, .unset] [(.ref b192)]))
    refine own_FinV.step (fun _ => XS.astore X192.here hx rfl (hb hby at_247) rfl rfl (l' := #[.val (.int p1), .val (.int p2), .val (.int p3), .val (.int (p2 &&& (3 : Int32))), .val (.int (207 : Int32)), .val (.ref b183), .val (.int (1 : Int32)), .val (.int (15 : Int32)), .val (.int (1 : Int32)), .val (.int (1 : Int32)), .val (.int (1 : Int32)), .val (.int (3 : Int32)), .val (.ref b185), .val (.ref b188), .val (.ref b192), .unset, .unset, .unset, .unset, .unset]) rfl) ?_
    have hcat : own_bs "differential lossless, arithmetic-coded" = own_bs "differential " ++ own_bs "lossless" ++ own_bs ", arithmetic-coded" := by decide +kernel
    rw [hcat] at f194
    exact own_tail hw X192 hx hby hml hown hret hlk hZ Z192 N183 e192 hS hk C192 hcs rv f193 f194 f195 f196 St192 (by decide) (by decide) (by decide) (by decide) (by decide) (by decide)
set_option maxRecDepth 65536 in
set_option maxHeartbeats 40000000 in
theorem comes_1 {Post : Tables → Env → Array Value → State → Outcome → State → Prop} (hpost : ∀ tb e args s v u, (limb_1_1.after args s (.returned v) u = true ∧ limb_1_2.after args s (.returned v) u = true ∧ True) → ReturnedEndW s (.returned v) u (Jvm.fieldLocs frame_1_writes args s ++ Jvm.arrayLocs frame_1_arrays args s ++ Jvm.staticLocs frame_1_statics s) 48 21632 → Post tb e args s (.returned v) u) :
    ArmFor flags0 classFile x code maxLocals ret World_1 tables_1 room_1 Calls_1 rest_1 Pre_1 Post := by
  intro l hfl _ _ p e ha hc hk s m args below hf hA hF happ hP
  obtain ⟨hcalls, hrest, hpre⟩ := hP
  obtain ⟨-, -, -, hnamed, -, -, -, hat⟩ := (Spec.applies_iff hf).mp happ
  obtain ⟨hg, hn⟩ := and_e (Cond.before_iff.mp (show (Jvm.Cond.and given_1 narrow_1).before args s = true from hpre))
  obtain ⟨hcount, g0⟩ := and_e hg
  obtain ⟨a0, g1⟩ := and_e g0
  obtain ⟨a1, g2⟩ := and_e g1
  have a2 := g2
  obtain ⟨w0, w1, w2, rfl⟩ : ∃ w0 w1 w2 : Value, args = #[w0, w1, w2] := by
    have hs : args.size = 3 := by simpa [Cond.value, given_1] using hcount
    obtain ⟨L⟩ := args
    match L, hs with
    | [w0, w1, w2], _ => exact ⟨w0, w1, w2, rfl⟩
  have hw := fun d (hd : d ∈ tables_1) => atoms_spec (ws := Jvm.Cond.code x code maxLocals ret :: tables_1) hat d (List.mem_cons_of_mem _ hd)
  obtain ⟨i0, ei0⟩ := is_v a0
  obtain rfl : w0 = (.int i0) := Option.some.inj ei0
  obtain ⟨i1, ei1⟩ := is_v a1
  obtain rfl : w1 = (.int i1) := Option.some.inj ei1
  obtain ⟨i2, ei2⟩ := is_v a2
  obtain rfl : w2 = (.int i2) := Option.some.inj ei2
  obtain ⟨hsets, hown0⟩ := atoms_of _ (rest_1_c_eq ▸ (show rest_1_c.before _ s = true from hrest))
  have n5 := not_v (Cond.before_iff.mp (hsets _ (List.mem_of_getElem? (i := 2) rfl)))
  obtain ⟨i11, e10⟩ := is_v (Cond.before_iff.mp (hsets _ (List.mem_of_getElem? (i := 1) rfl)))
  have S12 : Sta s s.heap "java/lang/String" "COMPACT_STRINGS" "Z" (.int i11) := Sta.start e10 (Or.inl (hsets _ (List.mem_of_getElem? (i := 0) rfl)))
  obtain ⟨v13, e14, r15⟩ := isR_v (Cond.before_iff.mp (hsets _ (List.mem_of_getElem? (i := 8) rfl)))
  have S16 : Sta s s.heap "jdk/internal/util/Preconditions" "SIOOBE_FORMATTER" "Ljava/util/function/BiFunction;" v13 := Sta.start e14 (Or.inl (hsets _ (List.mem_of_getElem? (i := 7) rfl)))
  have c17 : ¬ (i11 = (0 : Int32)) := gotF (Cond.eq_ints e10 (Term.int_eval (0))) n5
  obtain ⟨n, o, h1, h2, h3, _, L, rfl, ⟨rfl, N⟩, -, hq⟩ := rm0 l s _ hw i0 i1 i2 i11 v13 s.heap s.heap.size (Nat.le_refl _) c17 r15 ⟨S12, S16⟩  p e ha hc hk s m _ below hf ((Spec.applies_iff_loose hf).mp happ).1 ⟨rfl, State.Warmed39.refl s, rfl, CHv.start (own_EW hw) (fun p hp => hcalls.1 p hp) (hsets _ (List.mem_of_getElem? (i := 2) rfl)) (own_w hw 7 rfl) (own_w hw 6 rfl)⟩ trivial
  refine ⟨n, _, h1, h2, h3, hpost _ _ _ _ _ _ ⟨Cond.after_iff.mpr rfl, Cond.after_iff.mpr (eq_i res_at (Term.int_eval (1)) rfl), trivial⟩ ⟨hq.1, hq.2.1, hq.2.2.1, (hq.2.2.2.sift fun y hy => Or.inr (N y hy)).mono (by decide) (by decide)⟩⟩
theorem main_1_1 : Claimed_1_1 := comes_1 fun _ _ _ _ _ _ h hF => ⟨h.1, hF⟩
theorem main_1_2 : Claimed_1_2 := comes_1 fun _ _ _ _ _ _ h hF => ⟨h.2.1, hF⟩
end Jvm.Pilot.@@N@@
namespace Jvm.Pilot.@@N@@
open Jvm Jvm.ClassFile Sem Op Lib Jvm.Free Jvm.Stand Jvm.Pilot.@@N@@.Jvm.D
/-! MADE BY PROGRAM (witnessworld.py) out of the Statement's table words and the real class files: 17 classes; the members and pool entries that the words name. The judged class is class 1, her method 1. -/
namespace start1
open Jvm.ClassFile
def u (s : String) : CpInfo := .utf8 (stringToUtf16 s)
/-- a pool by its gaps: so many unusable entries, then the entry; so many at the end -/
def gap : Nat → List CpInfo → List CpInfo
  | 0, r => r
  | n + 1, r => .unusable :: gap n r
def poolList (es : List (Nat × CpInfo)) (last : Nat) : List CpInfo := es.foldr (fun e r => gap e.1 (e.2 :: r)) (gap last [])
def pool (es : List (Nat × CpInfo)) (last : Nat) : Array CpInfo := ⟨poolList es last⟩
def fileOf (pool : Array CpInfo) (this : Nat) (attrs : Array Attribute := #[]) (ms : Array MethodInfo := #[]) (fl : Nat := 33) (sup : Nat := 0) (ifs : Array Nat := #[]) (fds : Array FieldInfo := #[]) : ClassFile where
  minorVersion := 0
  majorVersion := 65
  constantPool := pool
  accessFlags := fl
  thisClass := this
  superClass := sup
  interfaces := ifs
  fields := fds
  methods := ms
  attributes := attrs
def plain (name : String) (sup : Option ClassId) : Class where
  name := name
  kind := .ordinary
  loader := none
  accessFlags := 33
  super := sup
  interfaces := #[]
  cf := none
  fields := #[]
  methods := #[]
  instanceTypes := #[]
  staticTypes := #[]
  resolved := #[]
  callSites := []
  init := .initialized
  statics := none
  mirror := none

def pool0 : Array CpInfo := pool [(5, u "<init>"), (0, u "()V"), (1, .class_ 10), (1, u "java/lang/Object")] 113

def k0m0 : Method := { name := "<init>", desc := "()V", sig := { parameters := [], returnType := none }, accessFlags := 1, code := none }
/-- java/lang/Object -/
def k0 : Class := { plain "java/lang/Object" none with
  accessFlags := 33
  interfaces := #[]
  cf := some (fileOf pool0 8 #[] #[{ accessFlags := 1, nameIndex := 5, descriptorIndex := 6, attributes := #[] }] 33 0 #[] #[])
  fields := #[]
  methods := #[k0m0]
  instanceTypes := #[]
  staticTypes := #[]
  resolved := Array.replicate 124 none
  statics := none }

def pool1 : Array CpInfo := pool [(2, .class_ 4), (1, u "java/lang/Object"), (0, u "<init>"), (0, u "()V"), (0, .methodref 8 9), (0, .class_ 10), (0, .nameAndType 11 12), (0, u "com/example/libcoef/libcoef/JpegMarker"), (0, u "process"), (0, u "(I)Ljava/lang/String;"), (0, .string 14), (0, u "differential "), (0, .string 16), (0, u ""), (0, .string 18), (0, u "baseline"), (0, .string 20), (0, u "sequential"), (0, .string 22), (0, u "extended sequential"), (0, .string 24), (0, u "progressive"), (0, .string 26), (0, u "lossless"), (0, .string 28), (0, u ", arithmetic-coded"), (0, .methodref 30 31), (0, .class_ 32), (0, .nameAndType 33 34), (0, u "java/lang/String"), (0, u "length"), (0, u "()I"), (0, .integer 2147483647), (0, .methodref 30 37), (0, .nameAndType 38 39), (0, u "charAt"), (0, u "(I)C"), (0, .class_ 41), (0, u "com/example/libcoef/libcoef/JpegMarkerProcessPinLaw"), (2, u "law"), (0, u "(III)Z")] 3

def k1m0 : Method := { name := "<init>", desc := "()V", sig := { parameters := [], returnType := none }, accessFlags := 2, code := none }
def k1c1 : Code := { maxStack := 3, maxLocals := 20, code := code, exceptionTable := #[], attributes := #[] }
def k1m1 : Method := { name := "law", desc := "(III)Z", sig := { parameters := [.int, .int, .int], returnType := some .boolean }, accessFlags := 9, code := some k1c1 }
/-- com/example/libcoef/libcoef/JpegMarkerProcessPinLaw -/
def k1 : Class := { plain "com/example/libcoef/libcoef/JpegMarkerProcessPinLaw" (some 0) with
  accessFlags := 49
  interfaces := #[]
  cf := some (fileOf pool1 40 #[] #[{ accessFlags := 2, nameIndex := 5, descriptorIndex := 6, attributes := #[] }, { accessFlags := 9, nameIndex := 44, descriptorIndex := 45, attributes := #[] }] 49 2 #[] #[])
  fields := #[]
  methods := #[k1m0, k1m1]
  instanceTypes := #[]
  staticTypes := #[]
  resolved := Array.replicate 49 none
  statics := none }

def pool2 : Array CpInfo := pool [(2, .class_ 4), (1, u "java/lang/Object"), (0, u "<init>"), (0, u "()V"), (0, .class_ 8), (0, u "com/example/libcoef/libcoef/JpegMarker"), (4, .string 14), (0, u "baseline"), (0, .string 16), (0, u "extended sequential"), (0, .string 18), (0, u "progressive"), (0, .string 20), (0, u "lossless"), (0, .string 22), (0, u "differential sequential"), (0, .string 24), (0, u "differential progressive"), (0, .string 26), (0, u "differential lossless"), (0, .string 28), (0, u "extended sequential, arithmetic-coded"), (0, .string 30), (0, u "progressive, arithmetic-coded"), (0, .string 32), (0, u "lossless, arithmetic-coded"), (0, .string 34), (0, u "differential sequential, arithmetic-coded"), (0, .string 36), (0, u "differential progressive, arithmetic-coded"), (0, .string 38), (0, u "differential lossless, arithmetic-coded"), (0, u "SOF0"), (0, u "I"), (2, u "SOF1"), (1, u "SOF2"), (1, u "DHT"), (1, u "SOI"), (1, u "EOI"), (1, u "SOS"), (1, u "DQT"), (1, u "DRI"), (1, u "APP0"), (1, u "APP14"), (1, u "RST0"), (1, u "JFIF"), (0, u "Ljava/lang/String;"), (2, u "ADOBE"), (2, u "RST7"), (1, u "TEM"), (1, u "DAC"), (1, u "DNL"), (1, u "APP15"), (1, u "COM"), (6, u "process"), (0, u "(I)Ljava/lang/String;")] 4

def k2m0 : Method := { name := "<init>", desc := "()V", sig := { parameters := [], returnType := none }, accessFlags := 2, code := none }
def k2c1 : Code := { maxStack := 1, maxLocals := 1, code := prog_42_method_5_code, exceptionTable := #[], attributes := #[] }
def k2m1 : Method := { name := "process", desc := "(I)Ljava/lang/String;", sig := { parameters := [.int], returnType := some (.object "java/lang/String") }, accessFlags := 8, code := some k2c1 }
/-- com/example/libcoef/libcoef/JpegMarker -/
def k2 : Class := { plain "com/example/libcoef/libcoef/JpegMarker" (some 0) with
  accessFlags := 32
  interfaces := #[]
  cf := some (fileOf pool2 7 #[] #[{ accessFlags := 2, nameIndex := 5, descriptorIndex := 6, attributes := #[] }, { accessFlags := 8, nameIndex := 89, descriptorIndex := 90, attributes := #[] }] 32 2 #[] #[{ accessFlags := 24, nameIndex := 39, descriptorIndex := 40, attributes := #[] }, { accessFlags := 24, nameIndex := 43, descriptorIndex := 40, attributes := #[] }, { accessFlags := 24, nameIndex := 45, descriptorIndex := 40, attributes := #[] }, { accessFlags := 24, nameIndex := 47, descriptorIndex := 40, attributes := #[] }, { accessFlags := 24, nameIndex := 49, descriptorIndex := 40, attributes := #[] }, { accessFlags := 24, nameIndex := 51, descriptorIndex := 40, attributes := #[] }, { accessFlags := 24, nameIndex := 53, descriptorIndex := 40, attributes := #[] }, { accessFlags := 24, nameIndex := 55, descriptorIndex := 40, attributes := #[] }, { accessFlags := 24, nameIndex := 57, descriptorIndex := 40, attributes := #[] }, { accessFlags := 24, nameIndex := 59, descriptorIndex := 40, attributes := #[] }, { accessFlags := 24, nameIndex := 61, descriptorIndex := 40, attributes := #[] }, { accessFlags := 24, nameIndex := 63, descriptorIndex := 40, attributes := #[] }, { accessFlags := 24, nameIndex := 65, descriptorIndex := 66, attributes := #[] }, { accessFlags := 24, nameIndex := 69, descriptorIndex := 66, attributes := #[] }, { accessFlags := 26, nameIndex := 72, descriptorIndex := 40, attributes := #[] }, { accessFlags := 26, nameIndex := 74, descriptorIndex := 40, attributes := #[] }, { accessFlags := 26, nameIndex := 76, descriptorIndex := 40, attributes := #[] }, { accessFlags := 26, nameIndex := 78, descriptorIndex := 40, attributes := #[] }, { accessFlags := 26, nameIndex := 80, descriptorIndex := 40, attributes := #[] }, { accessFlags := 26, nameIndex := 82, descriptorIndex := 40, attributes := #[] }])
  fields := #[{ name := "SOF0", type := .int, accessFlags := 24, slot := 0, constantValue := 0 }, { name := "SOF1", type := .int, accessFlags := 24, slot := 1, constantValue := 0 }, { name := "SOF2", type := .int, accessFlags := 24, slot := 2, constantValue := 0 }, { name := "DHT", type := .int, accessFlags := 24, slot := 3, constantValue := 0 }, { name := "SOI", type := .int, accessFlags := 24, slot := 4, constantValue := 0 }, { name := "EOI", type := .int, accessFlags := 24, slot := 5, constantValue := 0 }, { name := "SOS", type := .int, accessFlags := 24, slot := 6, constantValue := 0 }, { name := "DQT", type := .int, accessFlags := 24, slot := 7, constantValue := 0 }, { name := "DRI", type := .int, accessFlags := 24, slot := 8, constantValue := 0 }, { name := "APP0", type := .int, accessFlags := 24, slot := 9, constantValue := 0 }, { name := "APP14", type := .int, accessFlags := 24, slot := 10, constantValue := 0 }, { name := "RST0", type := .int, accessFlags := 24, slot := 11, constantValue := 0 }, { name := "JFIF", type := (.object "java/lang/String"), accessFlags := 24, slot := 12, constantValue := 0 }, { name := "ADOBE", type := (.object "java/lang/String"), accessFlags := 24, slot := 13, constantValue := 0 }, { name := "RST7", type := .int, accessFlags := 26, slot := 14, constantValue := 0 }, { name := "TEM", type := .int, accessFlags := 26, slot := 15, constantValue := 0 }, { name := "DAC", type := .int, accessFlags := 26, slot := 16, constantValue := 0 }, { name := "DNL", type := .int, accessFlags := 26, slot := 17, constantValue := 0 }, { name := "APP15", type := .int, accessFlags := 26, slot := 18, constantValue := 0 }, { name := "COM", type := .int, accessFlags := 26, slot := 19, constantValue := 0 }]
  methods := #[k2m0, k2m1]
  instanceTypes := #[]
  staticTypes := #[.int, .int, .int, .int, .int, .int, .int, .int, .int, .int, .int, .int, (.object "java/lang/String"), (.object "java/lang/String"), .int, .int, .int, .int, .int, .int]
  resolved := Array.replicate 95 none
  statics := none }

def pool3 : Array CpInfo := pool [(1, .class_ 2), (0, u "java/io/Serializable"), (0, .class_ 4), (0, u "java/lang/Object")] 2

/-- java/io/Serializable -/
def k3 : Class := { plain "java/io/Serializable" (some 0) with
  accessFlags := 1537
  interfaces := #[]
  cf := some (fileOf pool3 1 #[] #[] 1537 3 #[] #[])
  fields := #[]
  methods := #[]
  instanceTypes := #[]
  staticTypes := #[]
  resolved := Array.replicate 7 none
  statics := none }

def pool4 : Array CpInfo := pool [(1, .class_ 2), (0, u "java/lang/Comparable"), (0, .class_ 4), (0, u "java/lang/Object")] 7

/-- java/lang/Comparable -/
def k4 : Class := { plain "java/lang/Comparable" (some 0) with
  accessFlags := 1537
  interfaces := #[]
  cf := some (fileOf pool4 1 #[] #[] 1537 3 #[] #[])
  fields := #[]
  methods := #[]
  instanceTypes := #[]
  staticTypes := #[]
  resolved := Array.replicate 12 none
  statics := none }

def pool5 : Array CpInfo := pool [(2, .class_ 4), (1, u "java/lang/CharSequence"), (42, .class_ 48), (0, u "java/lang/CharSequence$1CodePointIterator"), (10, .class_ 60), (0, u "java/lang/CharSequence$1CharIterator"), (5, .class_ 67), (0, u "java/lang/Object")] 63

/-- java/lang/CharSequence -/
def k5 : Class := { plain "java/lang/CharSequence" (some 0) with
  accessFlags := 1537
  interfaces := #[]
  cf := some (fileOf pool5 2 #[.nestMembers #[47, 59]] #[] 1537 66 #[] #[])
  fields := #[]
  methods := #[]
  instanceTypes := #[]
  staticTypes := #[]
  resolved := Array.replicate 131 none
  statics := none }

def pool6 : Array CpInfo := pool [(1, .class_ 2), (0, u "java/lang/constant/Constable"), (0, .class_ 4), (0, u "java/lang/Object")] 6

/-- java/lang/constant/Constable -/
def k6 : Class := { plain "java/lang/constant/Constable" (some 0) with
  accessFlags := 1537
  interfaces := #[]
  cf := some (fileOf pool6 1 #[] #[] 1537 3 #[] #[])
  fields := #[]
  methods := #[]
  instanceTypes := #[]
  staticTypes := #[]
  resolved := Array.replicate 11 none
  statics := none }

def pool7 : Array CpInfo := pool [(1, .class_ 2), (0, u "java/lang/constant/ConstantDesc"), (0, .class_ 4), (0, u "java/lang/Object")] 32

/-- java/lang/constant/ConstantDesc -/
def k7 : Class := { plain "java/lang/constant/ConstantDesc" (some 0) with
  accessFlags := 1537
  interfaces := #[]
  cf := some (fileOf pool7 1 #[] #[] 1537 3 #[] #[])
  fields := #[]
  methods := #[]
  instanceTypes := #[]
  staticTypes := #[]
  resolved := Array.replicate 37 none
  statics := none }

def pool8 : Array CpInfo := pool [(2, .class_ 4), (1, u "java/lang/Object"), (0, u "<init>"), (0, u "()V"), (2, .fieldref 10 11), (0, .class_ 12), (0, .nameAndType 13 14), (0, u "java/lang/String"), (0, u "value"), (0, u "[B"), (0, .fieldref 10 16), (0, .nameAndType 17 18), (0, u "coder"), (0, u "B"), (2, u "hash"), (0, u "I"), (2, u "hashIsZero"), (0, u "Z"), (11, .fieldref 10 39), (0, .nameAndType 40 26), (0, u "COMPACT_STRINGS"), (66, .class_ 109), (1, u "java/lang/StringLatin1"), (32, u "()Z"), (191, u "()I"), (0, .methodref 10 336), (0, .nameAndType 17 337), (0, u "()B"), (25, u "([BI)C"), (27, u "(II)V"), (35, u "(I)C"), (64, .methodref 10 493), (0, .nameAndType 494 142), (0, u "isLatin1"), (0, .methodref 107 496), (0, .nameAndType 497 363), (0, u "charAt"), (3, u "checkIndex"), (5, u "length"), (67, .class_ 576), (0, u "java/lang/CharSequence"), (22, u "CASE_INSENSITIVE_ORDER"), (0, u "Ljava/util/Comparator;"), (452, .fieldref 1054 1055), (0, .class_ 1056), (0, .nameAndType 1057 1058), (0, u "jdk/internal/util/Preconditions"), (0, u "SIOOBE_FORMATTER"), (0, u "Ljava/util/function/BiFunction;"), (0, .methodref 1054 1060), (0, .nameAndType 501 1061), (0, u "(IILjava/util/function/BiFunction;)I"), (39, u "serialPersistentFields"), (0, u "[Ljava/io/ObjectStreamField;"), (0, .class_ 1104), (0, u "java/lang/String$CaseInsensitiveComparator"), (1, .class_ 1107), (0, u "java/io/Serializable"), (0, .class_ 1109), (0, u "java/lang/Comparable"), (0, .class_ 1111), (0, u "java/lang/constant/Constable"), (0, .class_ 1113), (0, u "java/lang/constant/ConstantDesc"), (2, u "serialVersionUID"), (0, u "J"), (3, u "REPL"), (0, u "C"), (2, u "LATIN1"), (1, u "UTF16")] 323

def k8m0 : Method := { name := "<init>", desc := "()V", sig := { parameters := [], returnType := none }, accessFlags := 1, code := none }
def k8c1 : Code := { maxStack := 2, maxLocals := 1, code := jdk_42_method_54_code, exceptionTable := #[], attributes := #[] }
def k8m1 : Method := { name := "length", desc := "()I", sig := { parameters := [], returnType := some .int }, accessFlags := 1, code := some k8c1 }
def k8c2 : Code := { maxStack := 2, maxLocals := 2, code := jdk_42_method_56_code, exceptionTable := #[], attributes := #[] }
def k8m2 : Method := { name := "charAt", desc := "(I)C", sig := { parameters := [.int], returnType := some .char }, accessFlags := 1, code := some k8c2 }
def k8c3 : Code := { maxStack := 1, maxLocals := 1, code := jdk_42_method_152_code, exceptionTable := #[], attributes := #[] }
def k8m3 : Method := { name := "coder", desc := "()B", sig := { parameters := [], returnType := some .byte }, accessFlags := 0, code := some k8c3 }
def k8c4 : Code := { maxStack := 1, maxLocals := 1, code := jdk_42_method_154_code, exceptionTable := #[], attributes := #[] }
def k8m4 : Method := { name := "isLatin1", desc := "()Z", sig := { parameters := [], returnType := some .boolean }, accessFlags := 0, code := some k8c4 }
def k8c5 : Code := { maxStack := 3, maxLocals := 2, code := jdk_42_method_155_code, exceptionTable := #[], attributes := #[] }
def k8m5 : Method := { name := "checkIndex", desc := "(II)V", sig := { parameters := [.int, .int], returnType := none }, accessFlags := 8, code := some k8c5 }
/-- java/lang/String -/
def k8 : Class := { plain "java/lang/String" (some 0) with
  accessFlags := 49
  interfaces := #[3, 4, 5, 6, 7]
  cf := some (fileOf pool8 10 #[.nestMembers #[1103]] #[{ accessFlags := 1, nameIndex := 5, descriptorIndex := 6, attributes := #[] }, { accessFlags := 1, nameIndex := 507, descriptorIndex := 334, attributes := #[] }, { accessFlags := 1, nameIndex := 497, descriptorIndex := 427, attributes := #[] }, { accessFlags := 0, nameIndex := 17, descriptorIndex := 337, attributes := #[] }, { accessFlags := 0, nameIndex := 494, descriptorIndex := 142, attributes := #[] }, { accessFlags := 8, nameIndex := 501, descriptorIndex := 391, attributes := #[] }] 49 2 #[1106, 1108, 575, 1110, 1112] #[{ accessFlags := 18, nameIndex := 13, descriptorIndex := 14, attributes := #[] }, { accessFlags := 18, nameIndex := 17, descriptorIndex := 18, attributes := #[] }, { accessFlags := 2, nameIndex := 21, descriptorIndex := 22, attributes := #[] }, { accessFlags := 2, nameIndex := 25, descriptorIndex := 26, attributes := #[] }, { accessFlags := 26, nameIndex := 1116, descriptorIndex := 1117, attributes := #[] }, { accessFlags := 24, nameIndex := 40, descriptorIndex := 26, attributes := #[] }, { accessFlags := 26, nameIndex := 1101, descriptorIndex := 1102, attributes := #[] }, { accessFlags := 26, nameIndex := 1121, descriptorIndex := 1122, attributes := #[] }, { accessFlags := 25, nameIndex := 599, descriptorIndex := 600, attributes := #[] }, { accessFlags := 24, nameIndex := 1125, descriptorIndex := 18, attributes := #[] }, { accessFlags := 24, nameIndex := 1127, descriptorIndex := 18, attributes := #[] }])
  fields := #[{ name := "value", type := (.array .byte), accessFlags := 18, slot := 0, constantValue := 0 }, { name := "coder", type := .byte, accessFlags := 18, slot := 1, constantValue := 0 }, { name := "hash", type := .int, accessFlags := 2, slot := 2, constantValue := 0 }, { name := "hashIsZero", type := .boolean, accessFlags := 2, slot := 3, constantValue := 0 }, { name := "serialVersionUID", type := .long, accessFlags := 26, slot := 0, constantValue := 0 }, { name := "COMPACT_STRINGS", type := .boolean, accessFlags := 24, slot := 1, constantValue := 0 }, { name := "serialPersistentFields", type := (.array (.object "java/io/ObjectStreamField")), accessFlags := 26, slot := 2, constantValue := 0 }, { name := "REPL", type := .char, accessFlags := 26, slot := 3, constantValue := 0 }, { name := "CASE_INSENSITIVE_ORDER", type := (.object "java/util/Comparator"), accessFlags := 25, slot := 4, constantValue := 0 }, { name := "LATIN1", type := .byte, accessFlags := 24, slot := 5, constantValue := 0 }, { name := "UTF16", type := .byte, accessFlags := 24, slot := 6, constantValue := 0 }]
  methods := #[k8m0, k8m1, k8m2, k8m3, k8m4, k8m5]
  instanceTypes := #[(.array .byte), .byte, .int, .boolean]
  staticTypes := #[.long, .boolean, (.array (.object "java/io/ObjectStreamField")), .char, (.object "java/util/Comparator"), .byte, .byte]
  resolved := Array.replicate 1451 none
  statics := some 0 }

def pool9 : Array CpInfo := pool [(1, .class_ 2), (0, u "java/lang/String"), (1, .class_ 6), (1, u "java/lang/Object"), (0, u "<init>"), (0, u "()V"), (0, .methodref 1 10), (0, .nameAndType 11 12), (0, u "checkIndex"), (0, u "(II)V"), (1, .class_ 16), (1, u "java/lang/StringLatin1"), (36, u "([BI)C"), (67, u "$assertionsDisabled"), (0, u "Z"), (98, .class_ 223), (1, u "java/lang/StringLatin1$LinesSpliterator"), (28, u "charAt"), (137, .class_ 391), (0, u "java/lang/StringLatin1$CharsSpliterator")] 3

def k9m0 : Method := { name := "<init>", desc := "()V", sig := { parameters := [], returnType := none }, accessFlags := 0, code := none }
def k9c1 : Code := { maxStack := 2, maxLocals := 2, code := jdk_43_method_2_code, exceptionTable := #[], attributes := #[] }
def k9m1 : Method := { name := "charAt", desc := "([BI)C", sig := { parameters := [(.array .byte), .int], returnType := some .char }, accessFlags := 9, code := some k9c1 }
/-- java/lang/StringLatin1 -/
def k9 : Class := { plain "java/lang/StringLatin1" (some 0) with
  accessFlags := 48
  interfaces := #[]
  cf := some (fileOf pool9 14 #[.nestMembers #[390, 221]] #[{ accessFlags := 0, nameIndex := 7, descriptorIndex := 8, attributes := #[] }, { accessFlags := 9, nameIndex := 252, descriptorIndex := 53, attributes := #[] }] 48 4 #[] #[{ accessFlags := 4120, nameIndex := 121, descriptorIndex := 122, attributes := #[] }])
  fields := #[{ name := "$assertionsDisabled", type := .boolean, accessFlags := 4120, slot := 0, constantValue := 0 }]
  methods := #[k9m0, k9m1]
  instanceTypes := #[]
  staticTypes := #[.boolean]
  resolved := Array.replicate 395 none
  statics := none }

def pool10 : Array CpInfo := pool [(2, .class_ 4), (1, u "java/lang/Object"), (0, u "<init>"), (0, u "()V"), (17, .class_ 26), (1, u "jdk/internal/util/Preconditions"), (6, u "checkIndex"), (21, .class_ 56), (0, u "jdk/internal/util/Preconditions$4"), (57, .class_ 115), (0, u "jdk/internal/util/Preconditions$1"), (7, u "SIOOBE_FORMATTER"), (0, u "Ljava/util/function/BiFunction;"), (0, .class_ 126), (0, u "jdk/internal/util/Preconditions$2"), (3, u "AIOOBE_FORMATTER"), (0, .class_ 132), (0, u "jdk/internal/util/Preconditions$3"), (3, u "IOOBE_FORMATTER"), (41, u "(IILjava/util/function/BiFunction;)I")] 15

def k10m0 : Method := { name := "<init>", desc := "()V", sig := { parameters := [], returnType := none }, accessFlags := 1, code := none }
def k10c1 : Code := { maxStack := 3, maxLocals := 3, code := jdk_41_method_11_code, exceptionTable := #[], attributes := #[] }
def k10m1 : Method := { name := "checkIndex", desc := "(IILjava/util/function/BiFunction;)I", sig := { parameters := [.int, .int, (.object "java/util/function/BiFunction")], returnType := some .int }, accessFlags := 9, code := some k10c1 }
/-- jdk/internal/util/Preconditions -/
def k10 : Class := { plain "jdk/internal/util/Preconditions" (some 0) with
  accessFlags := 33
  interfaces := #[]
  cf := some (fileOf pool10 24 #[.nestMembers #[55, 131, 125, 114]] #[{ accessFlags := 1, nameIndex := 5, descriptorIndex := 6, attributes := #[] }, { accessFlags := 9, nameIndex := 33, descriptorIndex := 178, attributes := #[] }] 33 2 #[] #[{ accessFlags := 25, nameIndex := 123, descriptorIndex := 124, attributes := #[] }, { accessFlags := 25, nameIndex := 130, descriptorIndex := 124, attributes := #[] }, { accessFlags := 25, nameIndex := 136, descriptorIndex := 124, attributes := #[] }])
  fields := #[{ name := "SIOOBE_FORMATTER", type := (.object "java/util/function/BiFunction"), accessFlags := 25, slot := 0, constantValue := 0 }, { name := "AIOOBE_FORMATTER", type := (.object "java/util/function/BiFunction"), accessFlags := 25, slot := 1, constantValue := 0 }, { name := "IOOBE_FORMATTER", type := (.object "java/util/function/BiFunction"), accessFlags := 25, slot := 2, constantValue := 0 }]
  methods := #[k10m0, k10m1]
  instanceTypes := #[]
  staticTypes := #[(.object "java/util/function/BiFunction"), (.object "java/util/function/BiFunction"), (.object "java/util/function/BiFunction")]
  resolved := Array.replicate 194 none
  statics := some 1 }

def pool11 : Array CpInfo := pool [(9, u "<init>"), (6, .class_ 18), (1, u "java/lang/Object"), (0, u "()V"), (1, .class_ 23), (1, u "jdk/internal/util/ArraysSupport"), (0, u "LOG2_ARRAY_LONG_INDEX_SCALE"), (0, u "I"), (2, u "U"), (0, u "Ljdk/internal/misc/Unsafe;"), (8, u "BIG_ENDIAN"), (0, u "Z"), (8, u "LOG2_BYTE_BIT_SIZE"), (4, u "LOG2_ARRAY_INT_INDEX_SCALE"), (54, u "JLA"), (0, u "Ljdk/internal/access/JavaLangAccess;"), (11, u "LOG2_ARRAY_BOOLEAN_INDEX_SCALE"), (9, u "LOG2_ARRAY_BYTE_INDEX_SCALE"), (5, u "LOG2_ARRAY_CHAR_INDEX_SCALE"), (5, u "LOG2_ARRAY_SHORT_INDEX_SCALE"), (18, u "LOG2_ARRAY_FLOAT_INDEX_SCALE"), (24, u "LOG2_ARRAY_DOUBLE_INDEX_SCALE"), (89, u "T_BOOLEAN"), (2, u "T_CHAR"), (1, u "T_FLOAT"), (1, u "T_DOUBLE"), (1, u "T_BYTE"), (1, u "T_SHORT"), (1, u "T_INT"), (1, u "T_LONG"), (1, u "SOFT_MAX_ARRAY_LENGTH")] 83

def k11m0 : Method := { name := "<init>", desc := "()V", sig := { parameters := [], returnType := none }, accessFlags := 2, code := none }
/-- jdk/internal/util/ArraysSupport -/
def k11 : Class := { plain "jdk/internal/util/ArraysSupport" (some 0) with
  accessFlags := 33
  interfaces := #[]
  cf := some (fileOf pool11 21 #[] #[{ accessFlags := 2, nameIndex := 9, descriptorIndex := 19, attributes := #[] }] 33 16 #[] #[{ accessFlags := 24, nameIndex := 28, descriptorIndex := 29, attributes := #[] }, { accessFlags := 26, nameIndex := 38, descriptorIndex := 39, attributes := #[] }, { accessFlags := 25, nameIndex := 121, descriptorIndex := 25, attributes := #[] }, { accessFlags := 25, nameIndex := 131, descriptorIndex := 25, attributes := #[] }, { accessFlags := 25, nameIndex := 137, descriptorIndex := 25, attributes := #[] }, { accessFlags := 25, nameIndex := 143, descriptorIndex := 25, attributes := #[] }, { accessFlags := 25, nameIndex := 53, descriptorIndex := 25, attributes := #[] }, { accessFlags := 25, nameIndex := 24, descriptorIndex := 25, attributes := #[] }, { accessFlags := 25, nameIndex := 162, descriptorIndex := 25, attributes := #[] }, { accessFlags := 25, nameIndex := 187, descriptorIndex := 25, attributes := #[] }, { accessFlags := 26, nameIndex := 48, descriptorIndex := 25, attributes := #[] }, { accessFlags := 25, nameIndex := 277, descriptorIndex := 25, attributes := #[] }, { accessFlags := 25, nameIndex := 280, descriptorIndex := 25, attributes := #[] }, { accessFlags := 25, nameIndex := 282, descriptorIndex := 25, attributes := #[] }, { accessFlags := 25, nameIndex := 284, descriptorIndex := 25, attributes := #[] }, { accessFlags := 25, nameIndex := 286, descriptorIndex := 25, attributes := #[] }, { accessFlags := 25, nameIndex := 288, descriptorIndex := 25, attributes := #[] }, { accessFlags := 25, nameIndex := 290, descriptorIndex := 25, attributes := #[] }, { accessFlags := 25, nameIndex := 292, descriptorIndex := 25, attributes := #[] }, { accessFlags := 26, nameIndex := 108, descriptorIndex := 109, attributes := #[] }, { accessFlags := 25, nameIndex := 294, descriptorIndex := 25, attributes := #[] }])
  fields := #[{ name := "U", type := (.object "jdk/internal/misc/Unsafe"), accessFlags := 24, slot := 0, constantValue := 0 }, { name := "BIG_ENDIAN", type := .boolean, accessFlags := 26, slot := 1, constantValue := 0 }, { name := "LOG2_ARRAY_BOOLEAN_INDEX_SCALE", type := .int, accessFlags := 25, slot := 2, constantValue := 0 }, { name := "LOG2_ARRAY_BYTE_INDEX_SCALE", type := .int, accessFlags := 25, slot := 3, constantValue := 0 }, { name := "LOG2_ARRAY_CHAR_INDEX_SCALE", type := .int, accessFlags := 25, slot := 4, constantValue := 0 }, { name := "LOG2_ARRAY_SHORT_INDEX_SCALE", type := .int, accessFlags := 25, slot := 5, constantValue := 0 }, { name := "LOG2_ARRAY_INT_INDEX_SCALE", type := .int, accessFlags := 25, slot := 6, constantValue := 0 }, { name := "LOG2_ARRAY_LONG_INDEX_SCALE", type := .int, accessFlags := 25, slot := 7, constantValue := 0 }, { name := "LOG2_ARRAY_FLOAT_INDEX_SCALE", type := .int, accessFlags := 25, slot := 8, constantValue := 0 }, { name := "LOG2_ARRAY_DOUBLE_INDEX_SCALE", type := .int, accessFlags := 25, slot := 9, constantValue := 0 }, { name := "LOG2_BYTE_BIT_SIZE", type := .int, accessFlags := 26, slot := 10, constantValue := 0 }, { name := "T_BOOLEAN", type := .int, accessFlags := 25, slot := 11, constantValue := 0 }, { name := "T_CHAR", type := .int, accessFlags := 25, slot := 12, constantValue := 0 }, { name := "T_FLOAT", type := .int, accessFlags := 25, slot := 13, constantValue := 0 }, { name := "T_DOUBLE", type := .int, accessFlags := 25, slot := 14, constantValue := 0 }, { name := "T_BYTE", type := .int, accessFlags := 25, slot := 15, constantValue := 0 }, { name := "T_SHORT", type := .int, accessFlags := 25, slot := 16, constantValue := 0 }, { name := "T_INT", type := .int, accessFlags := 25, slot := 17, constantValue := 0 }, { name := "T_LONG", type := .int, accessFlags := 25, slot := 18, constantValue := 0 }, { name := "JLA", type := (.object "jdk/internal/access/JavaLangAccess"), accessFlags := 26, slot := 19, constantValue := 0 }, { name := "SOFT_MAX_ARRAY_LENGTH", type := .int, accessFlags := 25, slot := 20, constantValue := 0 }]
  methods := #[k11m0]
  instanceTypes := #[]
  staticTypes := #[(.object "jdk/internal/misc/Unsafe"), .boolean, .int, .int, .int, .int, .int, .int, .int, .int, .int, .int, .int, .int, .int, .int, .int, .int, .int, (.object "jdk/internal/access/JavaLangAccess"), .int]
  resolved := Array.replicate 378 none
  statics := none }

def pool12 : Array CpInfo := pool [(1, u "java/lang/Cloneable"), (0, .class_ 1), (0, u "java/lang/Object"), (0, .class_ 3)] 3

/-- java/lang/Cloneable -/
def k12 : Class := { plain "java/lang/Cloneable" (some 0) with
  accessFlags := 1537
  interfaces := #[]
  cf := some (fileOf pool12 2 #[] #[] 1537 4 #[] #[])
  fields := #[]
  methods := #[]
  instanceTypes := #[]
  staticTypes := #[]
  resolved := Array.replicate 8 none
  statics := none }

/-- the primitive byte -/
def k13 : Class := { plain "byte" none with kind := .primitive 'B', accessFlags := 0x411 }
/-- [B -/
def k14 : Class := { plain "[B" (some 0) with kind := .array 13 .byte, interfaces := #[12, 3], accessFlags := 1041 }

/-- the primitive int -/
def k15 : Class := { plain "int" none with kind := .primitive 'I', accessFlags := 0x411 }
/-- [I -/
def k16 : Class := { plain "[I" (some 0) with kind := .array 15 .int, interfaces := #[12, 3], accessFlags := 1041 }

def heap : Heap := #[{ cls := 8, slots := #[.long 0, .int 1, .null, .int 0, .null, .int 0, .int 0], vm := .statics 8 },
  { cls := 10, slots := #[.null, .null, .null], vm := .statics 10 }]
def classes : Array Class := #[k0, k1, k2, k3, k4, k5, k6, k7, k8, k9, k10, k11, k12, k13, k14, k15, k16]
def interned : List (Array UInt16 × Addr) := []
def slotsUsed : Nat := 10
def theMethod : MethodId := ⟨1, 1⟩
def args0 : Array Value := #[.int 192, .int 2, .int 3]
def aboutOver (below : List Frame) : State where
  vm := { classes := classes, interned := interned.toArray }
  heap := heap
  slotsUsed := slotsUsed
  threads := #[{ frames := .invoking theMethod args0 :: below }]
def below0 : List Frame := [.native { method := ⟨0, 0⟩, args := #[] }]
def about1 : State := aboutOver below0
def p0 : Program := .bare "" "" ""
def e0 : Env := launch0.env 0 0 0
theorem w_frames : about1.frames = Frame.invoking theMethod args0 :: below0 := rfl
set_option maxRecDepth 65536 in
theorem w_args : argsFit about1.vm theMethod args0 = true := by decide +kernel
set_option maxRecDepth 65536 in
theorem w_heap : heapFits about1 = true := by decide +kernel
set_option maxRecDepth 65536 in
theorem w_runnable : about1.curStatus? = some .runnable := by decide +kernel
set_option maxRecDepth 65536 in
theorem w_alone : about1.alone = true := by decide +kernel
set_option maxRecDepth 65536 in
theorem w_named : about1.methodNamed? x = some theMethod := by decide +kernel
set_option maxRecDepth 65536 in
theorem w_hears : about1.hears theMethod below0 = true := by decide +kernel
set_option maxRecDepth 65536 in
theorem w_ripe : about1.ripe theMethod args0 below0 = true := by decide +kernel
theorem w_running : about1.status = .running := rfl
set_option maxRecDepth 65536 in
theorem w_room : about1.hasRoom e0.platform room_1 = true :=
  launch0.hasRoom_least _ room_1 (by decide +kernel) (by decide +kernel) (by decide +kernel) (by decide +kernel) (by decide +kernel) (by decide +kernel)
theorem allAtoms_all (ts : List Jvm.Cond) (a : Array Jvm.Value) (st : Jvm.State) : (allAtoms ts).before a st = ts.all (fun c => c.before a st) := by
  induction ts with
  | nil => rfl
  | cons c t ih =>
    show (Jvm.Cond.and c (allAtoms t)).before a st = _
    rw [Jvm.Cond.before_and, ih, List.all_cons]
def words1 : List Jvm.Cond := Jvm.Cond.code x code maxLocals ret :: tables_1
/-- a 'code' word, met by the world's own term for the bytes: nothing is compared byte by byte -/
theorem code_word {y : MethodName} {bytes : ByteArray} {mx : Nat} {rt : Option FieldType} {a : Array Value} {s : State} {m : MethodId} {meth : Method} {c : Code} (h1 : s.methodNamed? y = some m) (h2 : s.vm.method? m = some meth) (h3 : meth.code = some c) (h4 : c.code = bytes)
    (h5 : (c.maxLocals == mx && c.exceptionTable.isEmpty && decide (c.maxStack ≤ mostOperands) && decide (meth.sig.returnType = rt) && !meth.locks && decide (parseMethodDescriptor y.desc = some meth.sig)) = true) : (Jvm.Cond.code y bytes mx rt).before a s = true := by
  simp only [Bool.and_eq_true, beq_iff_eq, Bool.not_eq_true', decide_eq_true_eq] at h5
  obtain ⟨⟨⟨⟨⟨g1, g2⟩, g3⟩, g4⟩, g5⟩, g6⟩ := h5
  simp [Cond.before, Cond.holds, Cond.value, h1, h2, h3, h4, g1, g2, g3, g4, g5, g6]
def isCode : Jvm.Cond → Bool
  | .code _ _ _ _ => true
  | _ => false
theorem all_split {L : List Jvm.Cond} {P : Jvm.Cond → Bool} (h1 : L.all (fun c => isCode c || P c) = true) (h2 : ∀ c ∈ L.filter isCode, P c = true) : L.all P = true := by
  refine List.all_eq_true.mpr fun c hc => ?_
  have h := List.all_eq_true.mp h1 c hc
  rcases Bool.eq_false_or_eq_true (isCode c) with hi | hi
  · exact h2 c (List.mem_filter.mpr ⟨hc, hi⟩)
  · simpa [hi] using h
set_option maxRecDepth 65536 in
theorem w_c0 : (Jvm.Cond.code x code maxLocals ret).before args0 about1 = true := code_word (m := ⟨1, 1⟩) (meth := k1m1) (c := k1c1) (by decide +kernel) rfl rfl rfl (by decide +kernel)
set_option maxRecDepth 65536 in
theorem w_c1 : (Jvm.Cond.code ({ cls := "com/example/libcoef/libcoef/JpegMarker", name := "process", desc := "(I)Ljava/lang/String;" } : Jvm.MethodName) prog_42_method_5_code (1 : Nat) (Option.some (Jvm.ClassFile.FieldType.object "java/lang/String"))).before args0 about1 = true := code_word (m := ⟨2, 1⟩) (meth := k2m1) (c := k2c1) (by decide +kernel) rfl rfl rfl (by decide +kernel)
set_option maxRecDepth 65536 in
theorem w_c2 : (Jvm.Cond.code ({ cls := "java/lang/String", name := "length", desc := "()I" } : Jvm.MethodName) jdk_42_method_54_code (1 : Nat) (Option.some Jvm.ClassFile.FieldType.int)).before args0 about1 = true := code_word (m := ⟨8, 1⟩) (meth := k8m1) (c := k8c1) (by decide +kernel) rfl rfl rfl (by decide +kernel)
set_option maxRecDepth 65536 in
theorem w_c3 : (Jvm.Cond.code ({ cls := "java/lang/String", name := "coder", desc := "()B" } : Jvm.MethodName) jdk_42_method_152_code (1 : Nat) (Option.some Jvm.ClassFile.FieldType.byte)).before args0 about1 = true := code_word (m := ⟨8, 3⟩) (meth := k8m3) (c := k8c3) (by decide +kernel) rfl rfl rfl (by decide +kernel)
set_option maxRecDepth 65536 in
theorem w_c4 : (Jvm.Cond.code ({ cls := "java/lang/String", name := "charAt", desc := "(I)C" } : Jvm.MethodName) jdk_42_method_56_code (2 : Nat) (Option.some Jvm.ClassFile.FieldType.char)).before args0 about1 = true := code_word (m := ⟨8, 2⟩) (meth := k8m2) (c := k8c2) (by decide +kernel) rfl rfl rfl (by decide +kernel)
set_option maxRecDepth 65536 in
theorem w_c5 : (Jvm.Cond.code ({ cls := "java/lang/String", name := "isLatin1", desc := "()Z" } : Jvm.MethodName) jdk_42_method_154_code (1 : Nat) (Option.some Jvm.ClassFile.FieldType.boolean)).before args0 about1 = true := code_word (m := ⟨8, 4⟩) (meth := k8m4) (c := k8c4) (by decide +kernel) rfl rfl rfl (by decide +kernel)
set_option maxRecDepth 65536 in
theorem w_c6 : (Jvm.Cond.code ({ cls := "java/lang/StringLatin1", name := "charAt", desc := "([BI)C" } : Jvm.MethodName) jdk_43_method_2_code (2 : Nat) (Option.some Jvm.ClassFile.FieldType.char)).before args0 about1 = true := code_word (m := ⟨9, 1⟩) (meth := k9m1) (c := k9c1) (by decide +kernel) rfl rfl rfl (by decide +kernel)
set_option maxRecDepth 65536 in
theorem w_c7 : (Jvm.Cond.code ({ cls := "java/lang/String", name := "checkIndex", desc := "(II)V" } : Jvm.MethodName) jdk_42_method_155_code (2 : Nat) (Option.none : Option Jvm.ClassFile.FieldType)).before args0 about1 = true := code_word (m := ⟨8, 5⟩) (meth := k8m5) (c := k8c5) (by decide +kernel) rfl rfl rfl (by decide +kernel)
set_option maxRecDepth 65536 in
theorem w_c8 : (Jvm.Cond.code ({ cls := "jdk/internal/util/Preconditions", name := "checkIndex", desc := "(IILjava/util/function/BiFunction;)I" } : Jvm.MethodName) jdk_41_method_11_code (3 : Nat) (Option.some Jvm.ClassFile.FieldType.int)).before args0 about1 = true := code_word (m := ⟨10, 1⟩) (meth := k10m1) (c := k10c1) (by decide +kernel) rfl rfl rfl (by decide +kernel)
def codes1 : List Jvm.Cond := [Jvm.Cond.code x code maxLocals ret, Jvm.Cond.code ({ cls := "com/example/libcoef/libcoef/JpegMarker", name := "process", desc := "(I)Ljava/lang/String;" } : Jvm.MethodName) prog_42_method_5_code (1 : Nat) (Option.some (Jvm.ClassFile.FieldType.object "java/lang/String")), Jvm.Cond.code ({ cls := "java/lang/String", name := "length", desc := "()I" } : Jvm.MethodName) jdk_42_method_54_code (1 : Nat) (Option.some Jvm.ClassFile.FieldType.int), Jvm.Cond.code ({ cls := "java/lang/String", name := "coder", desc := "()B" } : Jvm.MethodName) jdk_42_method_152_code (1 : Nat) (Option.some Jvm.ClassFile.FieldType.byte), Jvm.Cond.code ({ cls := "java/lang/String", name := "charAt", desc := "(I)C" } : Jvm.MethodName) jdk_42_method_56_code (2 : Nat) (Option.some Jvm.ClassFile.FieldType.char), Jvm.Cond.code ({ cls := "java/lang/String", name := "isLatin1", desc := "()Z" } : Jvm.MethodName) jdk_42_method_154_code (1 : Nat) (Option.some Jvm.ClassFile.FieldType.boolean), Jvm.Cond.code ({ cls := "java/lang/StringLatin1", name := "charAt", desc := "([BI)C" } : Jvm.MethodName) jdk_43_method_2_code (2 : Nat) (Option.some Jvm.ClassFile.FieldType.char), Jvm.Cond.code ({ cls := "java/lang/String", name := "checkIndex", desc := "(II)V" } : Jvm.MethodName) jdk_42_method_155_code (2 : Nat) (Option.none : Option Jvm.ClassFile.FieldType), Jvm.Cond.code ({ cls := "jdk/internal/util/Preconditions", name := "checkIndex", desc := "(IILjava/util/function/BiFunction;)I" } : Jvm.MethodName) jdk_41_method_11_code (3 : Nat) (Option.some Jvm.ClassFile.FieldType.int)]
set_option maxRecDepth 65536 in
theorem codes_eq : words1.filter isCode = codes1 := rfl
theorem w_codes : ∀ c ∈ words1.filter isCode, c.before args0 about1 = true := by
  rw [codes_eq]
  intro c hc
  simp only [codes1, List.mem_cons, List.not_mem_nil, or_false] at hc
  rcases hc with rfl | rfl | rfl | rfl | rfl | rfl | rfl | rfl | rfl
  · exact w_c0
  · exact w_c1
  · exact w_c2
  · exact w_c3
  · exact w_c4
  · exact w_c5
  · exact w_c6
  · exact w_c7
  · exact w_c8
set_option maxRecDepth 65536 in
theorem w_t1 : (words1.take 24).all (fun c => isCode c || c.before args0 about1) = true := by decide +kernel
set_option maxRecDepth 65536 in
theorem w_t2 : ((words1.drop 24).take 24).all (fun c => isCode c || c.before args0 about1) = true := by decide +kernel
set_option maxRecDepth 65536 in
theorem w_t3 : ((words1.drop 24).drop 24).all (fun c => isCode c || c.before args0 about1) = true := by decide +kernel
theorem w_tables : (allAtoms (Jvm.Cond.code x code maxLocals ret :: tables_1)).before args0 about1 = true := by
  rw [allAtoms_all]
  show words1.all (fun c => c.before args0 about1) = true
  refine all_split ?_ w_codes
  rw [← List.take_append_drop 24 words1, List.all_append, w_t1, ← List.take_append_drop 24 (words1.drop 24), List.all_append, w_t2, w_t3]
  rfl
set_option maxRecDepth 65536 in
theorem w_rest : rest_1_c.before args0 about1 = true := by decide +kernel
set_option maxRecDepth 65536 in
theorem w_case : (Jvm.Cond.and given_1 narrow_1).before args0 about1 = true := by decide +kernel
set_option maxRecDepth 65536 in
theorem w_consts : constsHeld consts_1 about1 := Jvm.Lit.constsHeldB_iff.mp (by decide +kernel)
theorem w_applies : (headSpec (Jvm.Cond.code x code maxLocals ret :: tables_1) room_1).applies x e0.platform about1 = true :=
  (Spec.applies_iff w_frames).mpr ⟨w_running, w_runnable, w_alone, w_named, w_hears, w_ripe, w_room, w_tables⟩
theorem atStart : AtStart classFile x code maxLocals ret World_1 tables_1 room_1 Calls_1 rest_1 Pre_1 launch0 p0 e0 about1 theMethod args0 below0 :=
  ⟨lists_1, trivial, launch0.admits_env _ _ _, launch0.least_env, fairChoices_fair.cas, fairChoices_fair.clock, w_frames, w_args, w_heap, w_applies, ⟨w_consts, trivial⟩, w_rest, w_case⟩
end start1
theorem witness_1 : WitnessClaimed_1 := ⟨start1.p0, start1.e0, start1.about1, start1.theMethod, start1.args0, start1.below0, start1.atStart⟩
end Jvm.Pilot.@@N@@
