import JvmDerived
import JvmDerived.Pilot.@@N@@Statement
import JvmDerived.Pilot.@@N@@Code
set_option linter.unusedVariables false
set_option linter.unusedSimpArgs false
namespace Jvm.Pilot.@@N@@
open Jvm Jvm.ClassFile Sem Op Lib Jvm.Free Jvm.Stand Jvm.LawKit Jvm.RoadKit Bundle Jvm.Pilot.@@N@@.Jvm.D
theorem own_w {Z : State} {a0 : Array Value} (hw : ∀ d ∈ tables_1, d.before a0 Z = true) (k : Nat) {d : Jvm.Cond} (h : tables_1[k]? = some d) : d.before a0 Z = true := hw _ (List.mem_of_getElem? h)
/-- the run from U ends, and Q says what it leaves -/
def own_Fin (p : Program) (e : Env) (below : List Frame) (s : State) (Q : Option Value → Heap → List Loc → Prop) (k n : Nat) (U : State) : Prop :=
  ∃ s₂ o, Steps p.tables e below U s₂ ∧ s₂.status = .running ∧ Ended s₂ below o ∧ ∃ v L, o = .returned v ∧ Q v s₂.heap L ∧ FrameEnd s o s₂ L k n
theorem own_Fin.step {p : Program} {e : Env} {below : List Frame} {s : State} {Q : Option Value → Heap → List Loc → Prop} {k n : Nat} {U U' : State} (st : ∀ t, Steps p.tables e below U' t → Steps p.tables e below U t) (h : own_Fin p e below s Q k n U') : own_Fin p e below s Q k n U := by
  obtain ⟨s₂, o, h1, h2⟩ := h
  exact ⟨s₂, o, st _ h1, h2⟩
/-- a contract: called with as' at the heap h, the body leaves what Q says -/
abbrev own_Met (l : Launch) (Z : State) (ws : List Jvm.Cond) (y : MethodName) (bytes : ByteArray) (maxL : Nat) (ret : Option FieldType) (rm : Room) (as' : Array Value) (h : Heap) (Q : Option Value → Heap → List Loc → Prop) : Prop :=
  MetFree l y (head1 (Jvm.Cond.code y bytes maxL ret :: ws) rm) (fun a U => a = as' ∧ Z.Warmed39 U.vm ∧ U.heap = h) (fun _ _ _ _ _ => True) (fun _ U o U' => ∃ v L, o = .returned v ∧ Q v U'.heap L ∧ FrameEnd U o U' L rm.cells rm.slots)
/-- what a body leaves that returns w and writes nothing -/
def own_QP (w : Option Value) (h0 : Heap) (n0 : Nat) (v : Option Value) (h : Heap) (L : List Loc) : Prop := v = w ∧ Fr n0 L ∧ h = h0
/-- the law's own end -/
def own_Q0 (n0 : Nat) (v : Option Value) (h : Heap) (L : List Loc) : Prop := v = some (.int 1) ∧ Fr n0 L
theorem own_enter {l : Launch} {Z : State} {ws : List Jvm.Cond} {y : MethodName} {bytes : ByteArray} {maxL : Nat} {ret : Option FieldType} {rm : Room} {as' : Array Value} {h : Heap} {Q : Option Value → Heap → List Loc → Prop} (hp : plainFor y = true)
    (body : ∀ (p : Program) (e : Env) (s : State) (m : MethodId) (below : List Frame) (meth : Method) (c : Code) (s₁ : State), Stand p l e rm s m as' below meth c s₁ [] 0 0 → p.tables.exec = Jvm.exec → c.code = bytes → c.maxLocals = maxL → s.vm.findClass y.cls = some m.cls → meth.sig.returnType = ret → meth.locks = false → meth.name = y.name → Z.Warmed39 s.vm → s₁.heap = h →
      own_Fin p e below s Q rm.cells rm.slots (s₁.setTop (entryFrame m as' maxL))) : own_Met l Z ws y bytes maxL ret rm as' h Q := by
  refine MetFree.of_bodySF hp hisR ?_
  intro p e s m args below meth c s₁ Bd hml0 hP hK
  obtain ⟨rfl, hZ, hh⟩ := hP
  exact body p e s m below meth c s₁ (Stand.of_body Bd) Bd.exec Bd.bytes hml0 (findClass_of_methodNamed Bd.named) Bd.returns (BodyLoose.notSynchronized Bd) (name_of_methodNamed Bd.named Bd.method).1 hZ (by rw [← hh, Bd.state]; rfl)
section Own
variable {p : Program} {l : Launch} {e : Env} {R : Room} {s : State} {m : MethodId} {args : Array Value} {below : List Frame} {meth : Method} {c : Code} {T : State} {locs : List Loc} {cells slots : Nat} {Z : State} {a0 : Array Value} {h : Heap} {Q : Option Value → Heap → List Loc → Prop} {k n : Nat}
theorem own_retI (X : Stand p l e R s m args below meth c T locs cells slots) (hx : p.tables.exec = Jvm.exec) (hlk : meth.locks = false) {pc : Nat} {Ls : Array Slot} {z : Int32} {rest : List Value} (hret : meth.sig.returnType = some .int) (hd : decode c.code pc = .ok (.ireturn, 1)) (hQ : Q (some (.int z)) T.heap locs) (hk : cells ≤ k) (hn : slots ≤ n) :
    own_Fin p e below s Q k n (T.setTop (mkF m pc Ls (.int z :: rest))) := by
  obtain ⟨fs, hr, hrun, hended, hW, hsame⟩ := X.leave (v := some (.int z)) (fun h => by rw [hret] at h; cases h) hlk
  refine ⟨_, _, ?_, hrun, hended, _, _, rfl, hQ, ⟨_, rfl⟩, hW, hsame.mono hk hn⟩
  have hm' : T.vm.method? m = some meth := X.method'
  have hnn : narrow .int (.int z) = .int z := rfl
  show Steps p.tables e below (T.setTop { method := m, pc := pc, locals := Ls, stack := _ :: rest, locked := none }) _
  jvm_step X.here [X.here.top, hx, hd, hm', hret, hnn]
  first | (intro acts; rw [hr _ acts rfl rfl rfl]) | rw [hr _ _ rfl rfl rfl]
  exact Steps.refl _
theorem own_retN (X : Stand p l e R s m args below meth c T locs cells slots) (hx : p.tables.exec = Jvm.exec) (hlk : meth.locks = false) {pc : Nat} {Ls : Array Slot} {z : Int32} {t : FieldType} {rest : List Value} (hret : meth.sig.returnType = some t) (ht : t = .boolean ∨ t = .byte ∨ t = .char ∨ t = .short) (hd : decode c.code pc = .ok (.ireturn, 1)) (hQ : Q (some (.int (nar t z))) T.heap locs) (hk : cells ≤ k) (hn : slots ≤ n) :
    own_Fin p e below s Q k n (T.setTop (mkF m pc Ls (.int z :: rest))) := by
  obtain ⟨fs, hr, hrun, hended, hW, hsame⟩ := X.leave (v := some (.int (nar t z))) (fun h => by rw [hret] at h; cases h) hlk
  exact ⟨_, _, retN X hx hret ht hd hr, hrun, hended, _, _, rfl, hQ, ⟨_, rfl⟩, hW, hsame.mono hk hn⟩
theorem own_retJ (X : Stand p l e R s m args below meth c T locs cells slots) (hx : p.tables.exec = Jvm.exec) (hlk : meth.locks = false) {pc : Nat} {Ls : Array Slot} {z : Int64} (hret : meth.sig.returnType = some .long) (hd : decode c.code pc = .ok (.lreturn, 1)) (hQ : Q (some (.long z)) T.heap locs) (hk : cells ≤ k) (hn : slots ≤ n) :
    own_Fin p e below s Q k n (T.setTop (mkF m pc Ls [.long z])) := by
  obtain ⟨fs, hr, hrun, hended, hW, hsame⟩ := X.leave (v := some (.long z)) (fun h => by rw [hret] at h; cases h) hlk
  exact ⟨_, _, X.lreturnOut hx hret hd hr, hrun, hended, _, _, rfl, hQ, ⟨_, rfl⟩, hW, hsame.mono hk hn⟩
theorem own_retR (X : Stand p l e R s m args below meth c T locs cells slots) (hx : p.tables.exec = Jvm.exec) (hlk : meth.locks = false) {pc : Nat} {Ls : Array Slot} {w : Value} {t : FieldType} (hw : w.isRef = true) (hret : meth.sig.returnType = some t) (ht : t.isReference = true) (hd : decode c.code pc = .ok (.areturn, 1)) (hQ : Q (some w) T.heap locs) (hk : cells ≤ k) (hn : slots ≤ n) :
    own_Fin p e below s Q k n (T.setTop (mkF m pc Ls [w])) := by
  obtain ⟨fs, hr, hrun, hended, hW, hsame⟩ := X.leave (v := some w) (fun h => by rw [hret] at h; cases h) hlk
  exact ⟨_, _, X.areturnOut hx hw hret ht hd hr, hrun, hended, _, _, rfl, hQ, ⟨_, rfl⟩, hW, hsame.mono hk hn⟩
theorem own_ret0 (X : Stand p l e R s m args below meth c T locs cells slots) (hx : p.tables.exec = Jvm.exec) (hlk : meth.locks = false) {pc : Nat} {Ls : Array Slot} (hret : meth.sig.returnType = none) (hd : decode c.code pc = .ok (.return_, 1)) (hQ : Q none T.heap locs) (hk : cells ≤ k) (hn : slots ≤ n) :
    own_Fin p e below s Q k n (T.setTop (mkF m pc Ls [])) := by
  obtain ⟨fs, hr, hrun, hended, hW, hsame⟩ := X.leave (v := none) (fun _ => rfl) hlk
  exact ⟨_, _, X.returnOut hx hret hd hr, hrun, hended, _, _, rfl, hQ, ⟨_, rfl⟩, hW, hsame.mono hk hn⟩
theorem own_lrem {tb : Tables} [Ours tb] {target : State} {g : JFrame} (h : At T m c below) (hx : tb.exec = Jvm.exec) (hg : g.method = m) {x y : Int64} {rest : List Value} (hd : decode c.code g.pc = .ok (.lrem, 1)) (hs : g.stack = .long y :: .long x :: rest) (hy : y ≠ 0)
    (hr : Steps tb e below (T.setTop { g with pc := g.pc + 1, stack := .long (x % y) :: rest }) target) : Steps tb e below (T.setTop g) target := by
  have q : x - x / y * y = x % y := lrem_mod x y
  exact XS.lrem h hx hg hd hs hy (by rw [q]; exact hr)
theorem own_callS (X : Stand p l e R s m args below meth c T locs cells slots) (hx : p.tables.exec = Jvm.exec) (hZ : Z.Warmed39 s.vm) {own : String} {index : Nat} {y : MethodName} {bytes : ByteArray} {maxL : Nat} {ret : Option FieldType} {rm : Room} {as' : Array Value}
    (hown : s.vm.findClass own = some m.cls) (w1 : (Jvm.Cond.methodLink own index y).before a0 Z = true) (w2 : (Jvm.Cond.static y).before a0 Z = true) (w3 : (Jvm.Cond.initialized y.cls).before a0 Z = true) (w4 : (Jvm.Cond.code y bytes maxL ret).before a0 Z = true)
    (hy : y.cls ≠ "java/lang/invoke/MethodHandle" ∧ y.cls ≠ "java/lang/invoke/VarHandle") (hM : own_Met l Z [] y bytes maxL ret rm as' h Q) {W : Nat} (hf : rm.frames + 1 ≤ R.frames) (hl : W + (maxL + 11) + rm.locals ≤ R.locals) (eT : T.heap = h)
    {g : JFrame} (hg : g.method = m) (hsize : g.locals.size = c.maxLocals) {argsL rest : List Value} (hlen : ∀ sig, parseMethodDescriptor y.desc = some sig → argsL.length = sig.parameters.length) (has : argsL.toArray = as') (hstack : g.stack = argsL.reverse ++ rest) (hW : 2 * g.monitorRoom + (rest.map fun v => v.category).sum ≤ W)
    (hdg : decode c.code g.pc = .ok (.invokestatic index, 3)) (hc : cells + rm.cells ≤ R.cells) (hs : slots + rm.slots ≤ R.slots) :
    ∃ v T' L, Stand p l e R s m args below meth c T' (locs ++ L) (cells + rm.cells) (slots + rm.slots) ∧ Q v T'.heap L ∧ ∀ t, Steps p.tables e below (T'.setTop { g with pc := g.pc + 3, stack := v.toList ++ rest }) t → Steps p.tables e below (T.setTop g) t := by
  obtain ⟨v, vm1, ⟨T', L', k', n'⟩, -, X', ⟨Lc, hQ, l1, y1, z1⟩, st⟩ := Jvm.LawKit.callS X hx (y := y) hown (mvT hZ w1) (mvT hZ w2) (mvT hZ w3) (mvT hZ w4) hy (backOf (W := W) hM hZ w4 w3 hf hl) (g := g) hg hsize (argsL := argsL) (rest := rest) hlen hstack hW hdg (fun _ _ => ⟨has, eT, hc, hs⟩)
  dsimp only [Pt.U, Pt.locs, Pt.cells, Pt.slots] at X' l1 y1 z1 st hQ
  subst l1 y1 z1
  exact ⟨v, T', Lc, X', hQ, st⟩
theorem own_callN (X : Stand p l e R s m args below meth c T locs cells slots) (hx : p.tables.exec = Jvm.exec) (hZ : Z.Warmed39 s.vm) {own : String} {index : Nat} {y : MethodName} {bytes : ByteArray} {maxL : Nat} {rm : Room} {as' : Array Value} (hy1 : y.name = "<init>")
    (hown : s.vm.findClass own = some m.cls) (w1 : (Jvm.Cond.methodLink own index y).before a0 Z = true) (w2 : (Jvm.Cond.instanceMethod y).before a0 Z = true) (w3 : (Jvm.Cond.initialized y.cls).before a0 Z = true) (w4 : (Jvm.Cond.code y bytes maxL none).before a0 Z = true)
    (hy : y.cls ≠ "java/lang/invoke/MethodHandle" ∧ y.cls ≠ "java/lang/invoke/VarHandle") (hM : own_Met l Z [] y bytes maxL none rm as' h Q) {W : Nat} (hf : rm.frames + 1 ≤ R.frames) (hl : W + (maxL + 11) + rm.locals ≤ R.locals) {a : Addr} (eT : T.heap = h)
    {g : JFrame} (hg : g.method = m) (hsize : g.locals.size = c.maxLocals) {argsL rest : List Value} (hlen : ∀ sig, parseMethodDescriptor y.desc = some sig → argsL.length = sig.parameters.length) (has : (.ref a :: argsL).toArray = as') (hstack : g.stack = argsL.reverse ++ .ref a :: rest) (hW : 2 * g.monitorRoom + (rest.map fun v => v.category).sum ≤ W)
    (hdg : decode c.code g.pc = .ok (.invokespecial index, 3)) (hc : cells + rm.cells ≤ R.cells) (hs : slots + rm.slots ≤ R.slots) :
    ∃ v T' L, Stand p l e R s m args below meth c T' (locs ++ L) (cells + rm.cells) (slots + rm.slots) ∧ Q v T'.heap L ∧ ∀ t, Steps p.tables e below (T'.setTop { g with pc := g.pc + 3, stack := v.toList ++ rest }) t → Steps p.tables e below (T.setTop g) t := by
  obtain ⟨v, vm1, ⟨T', L', k', n'⟩, -, X', ⟨Lc, hQ, l1, y1, z1⟩, st⟩ := X.specialBack hx (y := y) hy1 hown (mvT hZ w1) (mvT hZ w2) (mvT hZ w4) hy (backOf (W := W) hM hZ w4 w3 hf hl) (g := g) hg hsize (Steps.refl _) (a := a) (argsL := argsL) (rest := rest) hlen hstack hW hdg (fun _ _ => ⟨has, eT, hc, hs⟩)
  dsimp only [Pt.U, Pt.locs, Pt.cells, Pt.slots] at X' l1 y1 z1 st hQ
  subst l1 y1 z1
  exact ⟨v, T', Lc, X', hQ, fun t k => st.trans k⟩
theorem own_callV (X : Stand p l e R s m args below meth c T locs cells slots) (hx : p.tables.exec = Jvm.exec) (hZ : Z.Warmed39 s.vm) {own C : String} {index : Nat} {y : MethodName} {bytes : ByteArray} {maxL : Nat} {ret : Option FieldType} {rm : Room} {as' : Array Value}
    (hown : s.vm.findClass own = some m.cls) (w1 : (Jvm.Cond.methodLink own index y).before a0 Z = true) (w2 : (Jvm.Cond.declares y).before a0 Z = true) (w5 : (Jvm.Cond.selects C y y).before a0 Z = true) (w6 : (Jvm.Cond.instanceMethod y).before a0 Z = true) (w3 : (Jvm.Cond.initialized y.cls).before a0 Z = true) (w4 : (Jvm.Cond.code y bytes maxL ret).before a0 Z = true)
    (hy : y.cls ≠ "java/lang/invoke/MethodHandle" ∧ y.cls ≠ "java/lang/invoke/VarHandle") (hM : own_Met l Z [] y bytes maxL ret rm as' h Q) {W : Nat} (hf : rm.frames + 1 ≤ R.frames) (hl : W + (maxL + 11) + rm.locals ≤ R.locals) {a : Addr} (E : Exa Z h a C) (eT : T.heap = h)
    {g : JFrame} (hg : g.method = m) (hsize : g.locals.size = c.maxLocals) {argsL rest : List Value} (hlen : ∀ sig, parseMethodDescriptor y.desc = some sig → argsL.length = sig.parameters.length) (has : (.ref a :: argsL).toArray = as') (hstack : g.stack = argsL.reverse ++ .ref a :: rest) (hW : 2 * g.monitorRoom + (rest.map fun v => v.category).sum ≤ W)
    (hdg : decode c.code g.pc = .ok (.invokevirtual index, 3)) (hc : cells + rm.cells ≤ R.cells) (hs : slots + rm.slots ≤ R.slots) :
    ∃ v T' L, Stand p l e R s m args below meth c T' (locs ++ L) (cells + rm.cells) (slots + rm.slots) ∧ Q v T'.heap L ∧ ∀ t, Steps p.tables e below (T'.setTop { g with pc := g.pc + 3, stack := v.toList ++ rest }) t → Steps p.tables e below (T.setTop g) t := by
  obtain ⟨cq, kq, qa, qb, qc⟩ := isOf hZ eT E
  obtain ⟨v, vm1, ⟨T', L', k', n'⟩, -, X', ⟨Lc, hQ, l1, y1, z1⟩, st⟩ := X.virtualBack hx (y := y) (z := y) hown (mvT hZ w1) (mvT hZ w2) (notFace_of_selects (args := #[]) (mvT hZ w5)) (mvT hZ w5) (mvT hZ w6) hy (backOf (W := W) hM hZ w4 w3 hf hl) qa qc (g := g) hg hsize (Steps.refl _) (argsL := argsL) (rest := rest) hlen hstack hW hdg (fun _ _ => ⟨has, eT, hc, hs⟩)
  dsimp only [Pt.U, Pt.locs, Pt.cells, Pt.slots] at X' l1 y1 z1 st hQ
  subst l1 y1 z1
  exact ⟨v, T', Lc, X', hQ, fun t k => st.trans k⟩
theorem own_newA (X : Stand p l e R s m args below meth c T locs cells slots) (hx : p.tables.exec = Jvm.exec) (hZ : Z.Warmed39 s.vm) {aty : ArrayType} (w : (Jvm.Cond.arrayClass (newarray.typeOf aty)).before a0 Z = true) (eT : T.heap = h) {ty : FieldType} {dv : Value} (hty : newarray.typeOf aty = ty) (hdv : defaultValue ty = dv)
    {g : JFrame} (hg : g.method = m) (hd : decode c.code g.pc = .ok (.newarray aty, 2)) {n : Int32} {rest : List Value} (hs : g.stack = .int n :: rest) (hn : ¬ n < 0) {cap : Nat} (hcap : n.toNatClampNeg ≤ cap) (hb : cap * 8 ≤ 536870912) (hc : cells + 1 ≤ R.cells) (hl : slots + cap ≤ R.slots) (N : Nat) :
    ∃ T' h' k a, Stand p l e R s m args below meth c T' locs (cells + 1) (slots + cap) ∧ T'.heap = h' ∧ Ext h h' ∧ a = h.size ∧ Arv Z h' a k ty n (List.replicate N dv) dv ∧
      ∀ t, Steps p.tables e below (T'.setTop { g with pc := g.pc + 2, stack := .ref a :: rest }) t → Steps p.tables e below (T.setTop g) t := by
  subst hty hdv
  obtain ⟨T', h', k, X', e', E, A, st⟩ := newP X hx hZ w eT hg hd hs hn hcap hb hc hl
  exact ⟨T', h', k, _, X', e', E, rfl, by simpa using (Arv.new A hn).pad (pad_rep [] _ N), st⟩
theorem own_stI (X : Stand p l e R s m args below meth c T locs cells slots) (hx : p.tables.exec = Jvm.exec) (hZ : Z.Warmed39 s.vm) (eT : T.heap = h) {a : Addr} {k : ClassId} {n : Int32} {vs : List Value} {dv : Value} (F : Arv Z h a k .int n vs dv) {j x : Int32} (hj : ¬ j < 0 ∧ j < n) (i : Nat) (hi : j.toNatClampNeg = i) (hl : i < vs.length)
    {g : JFrame} (hg : g.method = m) {rest : List Value} (hs : g.stack = .int x :: .int j :: .ref a :: rest) (hd : decode c.code g.pc = .ok (.iastore, 1)) :
    ∃ T' h', Stand p l e R s m args below meth c T' (locs ++ [⟨a, j.toNatClampNeg⟩]) cells slots ∧ T'.heap = h' ∧ Arv Z h' a k .int n (vs.set i (.int x)) dv ∧ Wr h h' a j.toNatClampNeg (.int x) ∧ ∀ t, Steps p.tables e below (T'.setTop { g with pc := g.pc + 1, stack := rest }) t → Steps p.tables e below (T.setTop g) t := by
  obtain ⟨cl, A, q1, q2, q3, H, G⟩ := F
  obtain ⟨T', h', X', e', W, st⟩ := stI X hx hZ eT A (j := j) (inb_of q2 hj) hg hs hd
  exact ⟨T', h', X', e', Arv.set A q1 q2 q3 H G rfl W i hi hl, W, st⟩
theorem own_stJ (X : Stand p l e R s m args below meth c T locs cells slots) (hx : p.tables.exec = Jvm.exec) (hZ : Z.Warmed39 s.vm) (eT : T.heap = h) {a : Addr} {k : ClassId} {n : Int32} {vs : List Value} {dv : Value} (F : Arv Z h a k .long n vs dv) {j : Int32} {x : Int64} (hj : ¬ j < 0 ∧ j < n) (i : Nat) (hi : j.toNatClampNeg = i) (hl : i < vs.length)
    {g : JFrame} (hg : g.method = m) {rest : List Value} (hs : g.stack = .long x :: .int j :: .ref a :: rest) (hd : decode c.code g.pc = .ok (.lastore, 1)) :
    ∃ T' h', Stand p l e R s m args below meth c T' (locs ++ [⟨a, j.toNatClampNeg⟩]) cells slots ∧ T'.heap = h' ∧ Arv Z h' a k .long n (vs.set i (.long x)) dv ∧ Wr h h' a j.toNatClampNeg (.long x) ∧ ∀ t, Steps p.tables e below (T'.setTop { g with pc := g.pc + 1, stack := rest }) t → Steps p.tables e below (T.setTop g) t := by
  obtain ⟨cl, A, q1, q2, q3, H, G⟩ := F
  obtain ⟨T', h', X', e', W, st⟩ := stJ X hx hZ eT A (j := j) (inb_of q2 hj) hg hs hd
  exact ⟨T', h', X', e', Arv.set A q1 q2 q3 H G rfl W i hi hl, W, st⟩
theorem own_stB (X : Stand p l e R s m args below meth c T locs cells slots) (hx : p.tables.exec = Jvm.exec) (hZ : Z.Warmed39 s.vm) (eT : T.heap = h) {a : Addr} {k : ClassId} {n : Int32} {vs : List Value} {dv : Value} (F : Arv Z h a k .byte n vs dv) {j x : Int32} (hj : ¬ j < 0 ∧ j < n) (i : Nat) (hi : j.toNatClampNeg = i) (hl : i < vs.length)
    {g : JFrame} (hg : g.method = m) {rest : List Value} (hs : g.stack = .int x :: .int j :: .ref a :: rest) (hd : decode c.code g.pc = .ok (.bastore, 1)) :
    ∃ T' h', Stand p l e R s m args below meth c T' (locs ++ [⟨a, j.toNatClampNeg⟩]) cells slots ∧ T'.heap = h' ∧ Arv Z h' a k .byte n (vs.set i (.int (nar .byte x))) dv ∧ Wr h h' a j.toNatClampNeg (.int (nar .byte x)) ∧ ∀ t, Steps p.tables e below (T'.setTop { g with pc := g.pc + 1, stack := rest }) t → Steps p.tables e below (T.setTop g) t := by
  obtain ⟨cl, A, q1, q2, q3, H, G⟩ := F
  obtain ⟨T', h', X', e', W, st⟩ := stB X hx hZ eT A (j := j) (inb_of q2 hj) hg hs hd
  exact ⟨T', h', X', e', Arv.set A q1 q2 q3 H G (fits_nar_byte x) W i hi hl, W, st⟩
theorem own_nar (y : Int32) : nar .byte y.toInt8.toInt32 = y.toInt8.toInt32 := by
  show y.toInt8.toInt32.toInt8.toInt32 = _
  simp
theorem own_stBn (X : Stand p l e R s m args below meth c T locs cells slots) (hx : p.tables.exec = Jvm.exec) (hZ : Z.Warmed39 s.vm) (eT : T.heap = h) {a : Addr} {k : ClassId} {n : Int32} {vs : List Value} {dv : Value} (F : Arv Z h a k .byte n vs dv) {j x : Int32} (hj : ¬ j < 0 ∧ j < n) (i : Nat) (hi : j.toNatClampNeg = i) (hl : i < vs.length)
    {g : JFrame} (hg : g.method = m) {rest : List Value} (hs : g.stack = .int x.toInt8.toInt32 :: .int j :: .ref a :: rest) (hd : decode c.code g.pc = .ok (.bastore, 1)) :
    ∃ T' h', Stand p l e R s m args below meth c T' (locs ++ [⟨a, j.toNatClampNeg⟩]) cells slots ∧ T'.heap = h' ∧ Arv Z h' a k .byte n (vs.set i (.int x.toInt8.toInt32)) dv ∧ Wr h h' a j.toNatClampNeg (.int x.toInt8.toInt32) ∧ ∀ t, Steps p.tables e below (T'.setTop { g with pc := g.pc + 1, stack := rest }) t → Steps p.tables e below (T.setTop g) t := by
  have h := own_stB X hx hZ eT F hj i hi hl hg hs hd
  rw [own_nar] at h
  exact h
theorem own_ldI (X : Stand p l e R s m args below meth c T locs cells slots) (hx : p.tables.exec = Jvm.exec) (hZ : Z.Warmed39 s.vm) (eT : T.heap = h) {a : Addr} {k : ClassId} {n : Int32} {vs : List Value} {dv v : Value} (F : Arv Z h a k .int n vs dv) {j : Int32} (hj : ¬ j < 0 ∧ j < n) (hv : vs.getD j.toNatClampNeg dv = v)
    {g : JFrame} (hg : g.method = m) {rest : List Value} (hs : g.stack = .int j :: .ref a :: rest) (hd : decode c.code g.pc = .ok (.iaload, 1)) :
    ∀ t, Steps p.tables e below (T.setTop { g with pc := g.pc + 1, stack := v :: rest }) t → Steps p.tables e below (T.setTop g) t := by
  obtain ⟨cl, A, q1, q2, q3, H, G⟩ := F
  have hin := inb_of q2 hj
  exact fun t kt => X.iaload hx (j := j) (v := v) (by rw [eT]; exact A.1) (State.isArrayOf_alike hZ.alike A.2.1) A.2.2 hin (H.at hin hv) hg hs hd _ kt
theorem own_ldJ (X : Stand p l e R s m args below meth c T locs cells slots) (hx : p.tables.exec = Jvm.exec) (hZ : Z.Warmed39 s.vm) (eT : T.heap = h) {a : Addr} {k : ClassId} {n : Int32} {vs : List Value} {dv v : Value} (F : Arv Z h a k .long n vs dv) {j : Int32} (hj : ¬ j < 0 ∧ j < n) (hv : vs.getD j.toNatClampNeg dv = v)
    {g : JFrame} (hg : g.method = m) {rest : List Value} (hs : g.stack = .int j :: .ref a :: rest) (hd : decode c.code g.pc = .ok (.laload, 1)) :
    ∀ t, Steps p.tables e below (T.setTop { g with pc := g.pc + 1, stack := v :: rest }) t → Steps p.tables e below (T.setTop g) t := by
  obtain ⟨cl, A, q1, q2, q3, H, G⟩ := F
  have hin := inb_of q2 hj
  exact fun t kt => X.laload hx (j := j) (v := v) (by rw [eT]; exact A.1) (State.isArrayOf_alike hZ.alike A.2.1) A.2.2 hin (H.at hin hv) hg hs hd _ kt
theorem own_ldB (X : Stand p l e R s m args below meth c T locs cells slots) (hx : p.tables.exec = Jvm.exec) (hZ : Z.Warmed39 s.vm) (eT : T.heap = h) {a : Addr} {k : ClassId} {n : Int32} {vs : List Value} {dv v : Value} (F : Arv Z h a k .byte n vs dv) {j : Int32} (hj : ¬ j < 0 ∧ j < n) (hv : vs.getD j.toNatClampNeg dv = v)
    {g : JFrame} (hg : g.method = m) {rest : List Value} (hs : g.stack = .int j :: .ref a :: rest) (hd : decode c.code g.pc = .ok (.baload, 1)) :
    ∀ t, Steps p.tables e below (T.setTop { g with pc := g.pc + 1, stack := v :: rest }) t → Steps p.tables e below (T.setTop g) t := by
  obtain ⟨cl, A, q1, q2, q3, H, G⟩ := F
  have hin := inb_of q2 hj
  exact fun t kt => X.baloadBytes hx (j := j) (v := v) (by rw [eT]; exact A.1) (State.isArrayOf_alike hZ.alike A.2.1) A.2.2 hin (H.at hin hv) hg hs hd _ kt
theorem own_len (X : Stand p l e R s m args below meth c T locs cells slots) (hx : p.tables.exec = Jvm.exec) (hZ : Z.Warmed39 s.vm) (eT : T.heap = h) {a : Addr} {k : ClassId} {ty : FieldType} {n : Int32} {vs : List Value} {dv : Value} (F : Arv Z h a k ty n vs dv)
    {g : JFrame} (hg : g.method = m) {rest : List Value} (hs : g.stack = .ref a :: rest) (hd : decode c.code g.pc = .ok (.arraylength, 1)) :
    ∀ t, Steps p.tables e below (T.setTop { g with pc := g.pc + 1, stack := .int n :: rest }) t → Steps p.tables e below (T.setTop g) t := by
  obtain ⟨cl, A, q1, q2, q3, H, G⟩ := F
  exact fun t kt => X.arraylength hx (by rw [eT]; exact A.1) (State.isArrayOf_alike hZ.alike A.2.1) hg hs hd _ (by rw [len_of q2 q3]; exact kt)
end Own
def own_f (q1 q2 : Int64) (p3 : Int32) : Int64 := q2 + (q1 * ((64 : Int64) + ((16 : Int64) * (p3.toInt64))))
theorem own_eq (r b : Int64) (c : Int32) : own_f r b c = (b + (r * (64 : Int64))) + ((r * c.toInt64) * (16 : Int64)) := by
  unfold own_f; grind
theorem own_sum (r b r' b' : Int64) (c : Int32) : own_f (r + r') (b + b') c = own_f r b c + own_f r' b' c := by
  unfold own_f; grind
theorem d1_0 : decode prog_54_method_4_code 0 = .ok (.lload_n 2, 1) := by decide +kernel
theorem d1_1 : decode prog_54_method_4_code 1 = .ok (.lload_n 0, 1) := by decide +kernel
theorem d1_2 : decode prog_54_method_4_code 2 = .ok (.ldc2_w 35, 3) := by decide +kernel
theorem d1_5 : decode prog_54_method_4_code 5 = .ok (.ldc2_w 37, 3) := by decide +kernel
theorem d1_8 : decode prog_54_method_4_code 8 = .ok (.iload 4, 2) := by decide +kernel
theorem d1_10 : decode prog_54_method_4_code 10 = .ok (.i2l, 1) := by decide +kernel
theorem d1_11 : decode prog_54_method_4_code 11 = .ok (.lmul, 1) := by decide +kernel
theorem d1_12 : decode prog_54_method_4_code 12 = .ok (.ladd, 1) := by decide +kernel
theorem d1_13 : decode prog_54_method_4_code 13 = .ok (.lmul, 1) := by decide +kernel
theorem d1_14 : decode prog_54_method_4_code 14 = .ok (.ladd, 1) := by decide +kernel
theorem d1_15 : decode prog_54_method_4_code 15 = .ok (.lreturn, 1) := by decide +kernel
theorem pn_1 : plainFor (⟨"com/example/runfold/runfold/table/SortSpace", "bytesToHold", "(JJI)J"⟩ : MethodName) = true := plainFor_of_name (by first | (simp [plainName, overriddenIn]; done) | decide +kernel)
theorem ef_1 (m : MethodId) (x0 : Int64) (x1 : Int64) (x2 : Int32) : entryFrame m #[(.long x0), (.long x1), (.int x2)] 5 = mkF m 0 #[.val (.long x0), .second, .val (.long x1), .second, .val (.int x2)] [] := by first | (simp [entryFrame, mkF, argsToLocals, Value.category]; done) | rfl
set_option maxRecDepth 65536 in
set_option maxHeartbeats 40000000 in
theorem rm1 (l : Launch) (Z : State) (a0 : Array Value) (hw : ∀ d ∈ tables_1, d.before a0 Z = true) (q1 : Int64) (q2 : Int64) (p3 : Int32)  (h0 : Heap) (n0 : Nat) (Z0 : n0 ≤ h0.size)  :
    own_Met l Z [] (⟨"com/example/runfold/runfold/table/SortSpace", "bytesToHold", "(JJI)J"⟩ : MethodName) prog_54_method_4_code 5 (some .long) ({ frames := 0, cells := 0, slots := 0, locals := 0 } : Room) #[(.long q1), (.long q2), (.int p3)] h0 (own_QP (some (.long (own_f q1 q2 p3))) h0 n0) := by
  refine own_enter pn_1 ?_
  intro p e s m below meth c s₁ X0 hx hby hml hown hret hlk hnm hZ e0
  have hml : c.maxLocals = 5 := hml
  have N0 := Fr.nil n0
  rw [ef_1 m q1 q2 p3]
  show own_Fin p e below s _ _ _ (s₁.setTop (mkF m 0 #[.val (.long q1), .second, .val (.long q2), .second, .val (.int p3)] []))
  refine own_Fin.step (fun _ => XS.lloadN X0.here hx rfl (hb hby d1_0) rfl) ?_
  show own_Fin p e below s _ _ _ (s₁.setTop (mkF m 1 #[.val (.long q1), .second, .val (.long q2), .second, .val (.int p3)] [(.long q2)]))
  refine own_Fin.step (fun _ => XS.lloadN X0.here hx rfl (hb hby d1_1) rfl) ?_
  show own_Fin p e below s _ _ _ (s₁.setTop (mkF m 2 #[.val (.long q1), .second, .val (.long q2), .second, .val (.int p3)] [(.long q1), (.long q2)]))
  refine own_Fin.step (X0.ldc2Long hx hown (mvT hZ (own_w hw 5 rfl)) (g := (mkF m 2 #[.val (.long q1), .second, .val (.long q2), .second, .val (.int p3)] [(.long q1), (.long q2)])) rfl (hb hby d1_2)) ?_
  show own_Fin p e below s _ _ _ (s₁.setTop (mkF m 5 #[.val (.long q1), .second, .val (.long q2), .second, .val (.int p3)] [(.long (64 : Int64)), (.long q1), (.long q2)]))
  refine own_Fin.step (X0.ldc2Long hx hown (mvT hZ (own_w hw 6 rfl)) (g := (mkF m 5 #[.val (.long q1), .second, .val (.long q2), .second, .val (.int p3)] [(.long (64 : Int64)), (.long q1), (.long q2)])) rfl (hb hby d1_5)) ?_
  show own_Fin p e below s _ _ _ (s₁.setTop (mkF m 8 #[.val (.long q1), .second, .val (.long q2), .second, .val (.int p3)] [(.long (16 : Int64)), (.long (64 : Int64)), (.long q1), (.long q2)]))
  refine own_Fin.step (fun _ => XS.iload X0.here hx rfl (hb hby d1_8) rfl) ?_
  show own_Fin p e below s _ _ _ (s₁.setTop (mkF m 10 #[.val (.long q1), .second, .val (.long q2), .second, .val (.int p3)] [(.int p3), (.long (16 : Int64)), (.long (64 : Int64)), (.long q1), (.long q2)]))
  refine own_Fin.step (fun _ => XS.i2l X0.here hx rfl (hb hby d1_10) rfl) ?_
  show own_Fin p e below s _ _ _ (s₁.setTop (mkF m 11 #[.val (.long q1), .second, .val (.long q2), .second, .val (.int p3)] [(.long (p3.toInt64)), (.long (16 : Int64)), (.long (64 : Int64)), (.long q1), (.long q2)]))
  refine own_Fin.step (fun _ => XS.lmul X0.here hx rfl (hb hby d1_11) rfl) ?_
  show own_Fin p e below s _ _ _ (s₁.setTop (mkF m 12 #[.val (.long q1), .second, .val (.long q2), .second, .val (.int p3)] [(.long ((16 : Int64) * (p3.toInt64))), (.long (64 : Int64)), (.long q1), (.long q2)]))
  refine own_Fin.step (fun _ => XS.ladd X0.here hx rfl (hb hby d1_12) rfl) ?_
  show own_Fin p e below s _ _ _ (s₁.setTop (mkF m 13 #[.val (.long q1), .second, .val (.long q2), .second, .val (.int p3)] [(.long ((64 : Int64) + ((16 : Int64) * (p3.toInt64)))), (.long q1), (.long q2)]))
  refine own_Fin.step (fun _ => XS.lmul X0.here hx rfl (hb hby d1_13) rfl) ?_
  show own_Fin p e below s _ _ _ (s₁.setTop (mkF m 14 #[.val (.long q1), .second, .val (.long q2), .second, .val (.int p3)] [(.long (q1 * ((64 : Int64) + ((16 : Int64) * (p3.toInt64))))), (.long q2)]))
  refine own_Fin.step (fun _ => XS.ladd X0.here hx rfl (hb hby d1_14) rfl) ?_
  show own_Fin p e below s _ _ _ (s₁.setTop (mkF m 15 #[.val (.long q1), .second, .val (.long q2), .second, .val (.int p3)] [(.long (q2 + (q1 * ((64 : Int64) + ((16 : Int64) * (p3.toInt64))))))]))
  exact own_retJ X0 hx hlk hret (hb hby d1_15) ⟨rfl, N0, e0⟩ (by decide) (by decide)
theorem pn_0 : plainFor (⟨"com/example/runfold/runfold/table/SortSpaceBytesToHoldPinLaw", "law", "(JJIJJ)Z"⟩ : MethodName) = true := plainFor_of_name (by first | (simp [plainName, overriddenIn]; done) | decide +kernel)
theorem ef_0 (m : MethodId) (x0 : Int64) (x1 : Int64) (x2 : Int32) (x3 : Int64) (x4 : Int64) : entryFrame m #[(.long x0), (.long x1), (.int x2), (.long x3), (.long x4)] maxLocals = mkF m 0 #[.val (.long x0), .second, .val (.long x1), .second, .val (.int x2), .val (.long x3), .second, .val (.long x4), .second, .unset, .unset, .unset, .unset, .unset, .unset, .unset, .unset, .unset, .unset, .unset, .unset, .unset] [] := by first | (simp [entryFrame, mkF, argsToLocals, Value.category, maxLocals]; done) | rfl
theorem pd_0 : parseMethodDescriptor "(JJI)J" = some ⟨[.long, .long, .int], some .long⟩ := by decide +kernel
set_option maxRecDepth 65536 in
set_option maxHeartbeats 40000000 in
theorem rm0 (l : Launch) (Z : State) (a0 : Array Value) (hw : ∀ d ∈ tables_1, d.before a0 Z = true) (q1 : Int64) (q2 : Int64) (p3 : Int32) (q4 : Int64) (q5 : Int64)  (h0 : Heap) (n0 : Nat) (Z0 : n0 ≤ h0.size)  :
    own_Met l Z tables_1 x code maxLocals ret room_1 #[(.long q1), (.long q2), (.int p3), (.long q4), (.long q5)] h0 (own_Q0 n0) := by
  refine own_enter pn_0 ?_
  intro p e s m below meth c s₁ X0 hx hby hml hown hret hlk hnm hZ e0
  have hml : c.maxLocals = 22 := hml
  have N0 := Fr.nil n0
  rw [ef_0 m q1 q2 p3 q4 q5]
  show own_Fin p e below s _ _ _ (s₁.setTop (mkF m 0 #[.val (.long q1), .second, .val (.long q2), .second, .val (.int p3), .val (.long q4), .second, .val (.long q5), .second, .unset, .unset, .unset, .unset, .unset, .unset, .unset, .unset, .unset, .unset, .unset, .unset, .unset] []))
  refine own_Fin.step (fun _ => XS.iload X0.here hx rfl (hb hby at_0) rfl) ?_
  show own_Fin p e below s _ _ _ (s₁.setTop (mkF m 2 #[.val (.long q1), .second, .val (.long q2), .second, .val (.int p3), .val (.long q4), .second, .val (.long q5), .second, .unset, .unset, .unset, .unset, .unset, .unset, .unset, .unset, .unset, .unset, .unset, .unset, .unset] [(.int p3)]))
  refine own_Fin.step (X0.ldcInt hx hown (mvT hZ (own_w hw 0 rfl)) (g := (mkF m 2 #[.val (.long q1), .second, .val (.long q2), .second, .val (.int p3), .val (.long q4), .second, .val (.long q5), .second, .unset, .unset, .unset, .unset, .unset, .unset, .unset, .unset, .unset, .unset, .unset, .unset, .unset] [(.int p3)])) rfl (hb hby at_2)) ?_
  show own_Fin p e below s _ _ _ (s₁.setTop (mkF m 4 #[.val (.long q1), .second, .val (.long q2), .second, .val (.int p3), .val (.long q4), .second, .val (.long q5), .second, .unset, .unset, .unset, .unset, .unset, .unset, .unset, .unset, .unset, .unset, .unset, .unset, .unset] [(.int (2147483647 : Int32)), (.int p3)]))
  refine own_Fin.step (fun _ => XS.iand X0.here hx rfl (hb hby at_4) rfl) ?_
  show own_Fin p e below s _ _ _ (s₁.setTop (mkF m 5 #[.val (.long q1), .second, .val (.long q2), .second, .val (.int p3), .val (.long q4), .second, .val (.long q5), .second, .unset, .unset, .unset, .unset, .unset, .unset, .unset, .unset, .unset, .unset, .unset, .unset, .unset] [(.int (p3 &&& (2147483647 : Int32)))]))
  refine own_Fin.step (fun _ => XS.istore X0.here hx rfl (hb hby at_5) rfl (l' := #[.val (.long q1), .second, .val (.long q2), .second, .val (.int p3), .val (.long q4), .second, .val (.long q5), .second, .val (.int (p3 &&& (2147483647 : Int32))), .unset, .unset, .unset, .unset, .unset, .unset, .unset, .unset, .unset, .unset, .unset, .unset]) rfl) ?_
  show own_Fin p e below s _ _ _ (s₁.setTop (mkF m 7 #[.val (.long q1), .second, .val (.long q2), .second, .val (.int p3), .val (.long q4), .second, .val (.long q5), .second, .val (.int (p3 &&& (2147483647 : Int32))), .unset, .unset, .unset, .unset, .unset, .unset, .unset, .unset, .unset, .unset, .unset, .unset] []))
  refine own_Fin.step (fun _ => XS.lloadN X0.here hx rfl (hb hby at_7) rfl) ?_
  show own_Fin p e below s _ _ _ (s₁.setTop (mkF m 8 #[.val (.long q1), .second, .val (.long q2), .second, .val (.int p3), .val (.long q4), .second, .val (.long q5), .second, .val (.int (p3 &&& (2147483647 : Int32))), .unset, .unset, .unset, .unset, .unset, .unset, .unset, .unset, .unset, .unset, .unset, .unset] [(.long q1)]))
  refine own_Fin.step (fun _ => XS.lloadN X0.here hx rfl (hb hby at_8) rfl) ?_
  show own_Fin p e below s _ _ _ (s₁.setTop (mkF m 9 #[.val (.long q1), .second, .val (.long q2), .second, .val (.int p3), .val (.long q4), .second, .val (.long q5), .second, .val (.int (p3 &&& (2147483647 : Int32))), .unset, .unset, .unset, .unset, .unset, .unset, .unset, .unset, .unset, .unset, .unset, .unset] [(.long q2), (.long q1)]))
  refine own_Fin.step (fun _ => XS.iload X0.here hx rfl (hb hby at_9) rfl) ?_
  show own_Fin p e below s _ _ _ (s₁.setTop (mkF m 11 #[.val (.long q1), .second, .val (.long q2), .second, .val (.int p3), .val (.long q4), .second, .val (.long q5), .second, .val (.int (p3 &&& (2147483647 : Int32))), .unset, .unset, .unset, .unset, .unset, .unset, .unset, .unset, .unset, .unset, .unset, .unset] [(.int (p3 &&& (2147483647 : Int32))), (.long q2), (.long q1)]))
  obtain ⟨_, T1, L1, X1, ⟨rfl, N1q, e1⟩, st1⟩ := own_callS X0 hx hZ hown (own_w hw 1 rfl) (own_w hw 2 rfl) (own_w hw 3 rfl) (own_w hw 4 rfl) (by decide) (rm1 l Z a0 hw q1 q2 (p3 &&& (2147483647 : Int32)) h0 n0 Z0) (by decide) (by decide) e0 (W := 0) (g := (mkF m 11 #[.val (.long q1), .second, .val (.long q2), .second, .val (.int p3), .val (.long q4), .second, .val (.long q5), .second, .val (.int (p3 &&& (2147483647 : Int32))), .unset, .unset, .unset, .unset, .unset, .unset, .unset, .unset, .unset, .unset, .unset, .unset] [(.int (p3 &&& (2147483647 : Int32))), (.long q2), (.long q1)])) rfl (by rw [hml]; rfl) (argsL := [(.long q1), (.long q2), (.int (p3 &&& (2147483647 : Int32)))]) (rest := []) (lenOf pd_0 rfl) rfl rfl (by show 2 * 0 + _ ≤ _; exact Nat.le_of_eq rfl) (hb hby at_11) (by decide) (by decide)
  have N1 := Fr.app N0 N1q
  refine own_Fin.step st1 ?_
  show own_Fin p e below s _ _ _ (T1.setTop (mkF m 14 #[.val (.long q1), .second, .val (.long q2), .second, .val (.int p3), .val (.long q4), .second, .val (.long q5), .second, .val (.int (p3 &&& (2147483647 : Int32))), .unset, .unset, .unset, .unset, .unset, .unset, .unset, .unset, .unset, .unset, .unset, .unset] [(.long (own_f q1 q2 (p3 &&& (2147483647 : Int32))))]))
  refine own_Fin.step (fun _ => XS.lstore X1.here hx rfl (hb hby at_14) rfl (l' := #[.val (.long q1), .second, .val (.long q2), .second, .val (.int p3), .val (.long q4), .second, .val (.long q5), .second, .val (.int (p3 &&& (2147483647 : Int32))), .val (.long (own_f q1 q2 (p3 &&& (2147483647 : Int32)))), .second, .unset, .unset, .unset, .unset, .unset, .unset, .unset, .unset, .unset, .unset]) rfl) ?_
  show own_Fin p e below s _ _ _ (T1.setTop (mkF m 16 #[.val (.long q1), .second, .val (.long q2), .second, .val (.int p3), .val (.long q4), .second, .val (.long q5), .second, .val (.int (p3 &&& (2147483647 : Int32))), .val (.long (own_f q1 q2 (p3 &&& (2147483647 : Int32)))), .second, .unset, .unset, .unset, .unset, .unset, .unset, .unset, .unset, .unset, .unset] []))
  refine own_Fin.step (fun _ => XS.lloadN X1.here hx rfl (hb hby at_16) rfl) ?_
  show own_Fin p e below s _ _ _ (T1.setTop (mkF m 17 #[.val (.long q1), .second, .val (.long q2), .second, .val (.int p3), .val (.long q4), .second, .val (.long q5), .second, .val (.int (p3 &&& (2147483647 : Int32))), .val (.long (own_f q1 q2 (p3 &&& (2147483647 : Int32)))), .second, .unset, .unset, .unset, .unset, .unset, .unset, .unset, .unset, .unset, .unset] [(.long q1)]))
  refine own_Fin.step (X1.ldc2Long hx hown (mvT hZ (own_w hw 7 rfl)) (g := (mkF m 17 #[.val (.long q1), .second, .val (.long q2), .second, .val (.int p3), .val (.long q4), .second, .val (.long q5), .second, .val (.int (p3 &&& (2147483647 : Int32))), .val (.long (own_f q1 q2 (p3 &&& (2147483647 : Int32)))), .second, .unset, .unset, .unset, .unset, .unset, .unset, .unset, .unset, .unset, .unset] [(.long q1)])) rfl (hb hby at_17)) ?_
  show own_Fin p e below s _ _ _ (T1.setTop (mkF m 20 #[.val (.long q1), .second, .val (.long q2), .second, .val (.int p3), .val (.long q4), .second, .val (.long q5), .second, .val (.int (p3 &&& (2147483647 : Int32))), .val (.long (own_f q1 q2 (p3 &&& (2147483647 : Int32)))), .second, .unset, .unset, .unset, .unset, .unset, .unset, .unset, .unset, .unset, .unset] [(.long (64 : Int64)), (.long q1)]))
  refine own_Fin.step (fun _ => XS.lmul X1.here hx rfl (hb hby at_20) rfl) ?_
  show own_Fin p e below s _ _ _ (T1.setTop (mkF m 21 #[.val (.long q1), .second, .val (.long q2), .second, .val (.int p3), .val (.long q4), .second, .val (.long q5), .second, .val (.int (p3 &&& (2147483647 : Int32))), .val (.long (own_f q1 q2 (p3 &&& (2147483647 : Int32)))), .second, .unset, .unset, .unset, .unset, .unset, .unset, .unset, .unset, .unset, .unset] [(.long (q1 * (64 : Int64)))]))
  refine own_Fin.step (fun _ => XS.lstore X1.here hx rfl (hb hby at_21) rfl (l' := #[.val (.long q1), .second, .val (.long q2), .second, .val (.int p3), .val (.long q4), .second, .val (.long q5), .second, .val (.int (p3 &&& (2147483647 : Int32))), .val (.long (own_f q1 q2 (p3 &&& (2147483647 : Int32)))), .second, .val (.long (q1 * (64 : Int64))), .second, .unset, .unset, .unset, .unset, .unset, .unset, .unset, .unset]) rfl) ?_
  show own_Fin p e below s _ _ _ (T1.setTop (mkF m 23 #[.val (.long q1), .second, .val (.long q2), .second, .val (.int p3), .val (.long q4), .second, .val (.long q5), .second, .val (.int (p3 &&& (2147483647 : Int32))), .val (.long (own_f q1 q2 (p3 &&& (2147483647 : Int32)))), .second, .val (.long (q1 * (64 : Int64))), .second, .unset, .unset, .unset, .unset, .unset, .unset, .unset, .unset] []))
  refine own_Fin.step (fun _ => XS.lloadN X1.here hx rfl (hb hby at_23) rfl) ?_
  show own_Fin p e below s _ _ _ (T1.setTop (mkF m 24 #[.val (.long q1), .second, .val (.long q2), .second, .val (.int p3), .val (.long q4), .second, .val (.long q5), .second, .val (.int (p3 &&& (2147483647 : Int32))), .val (.long (own_f q1 q2 (p3 &&& (2147483647 : Int32)))), .second, .val (.long (q1 * (64 : Int64))), .second, .unset, .unset, .unset, .unset, .unset, .unset, .unset, .unset] [(.long q1)]))
  refine own_Fin.step (fun _ => XS.iload X1.here hx rfl (hb hby at_24) rfl) ?_
  show own_Fin p e below s _ _ _ (T1.setTop (mkF m 26 #[.val (.long q1), .second, .val (.long q2), .second, .val (.int p3), .val (.long q4), .second, .val (.long q5), .second, .val (.int (p3 &&& (2147483647 : Int32))), .val (.long (own_f q1 q2 (p3 &&& (2147483647 : Int32)))), .second, .val (.long (q1 * (64 : Int64))), .second, .unset, .unset, .unset, .unset, .unset, .unset, .unset, .unset] [(.int (p3 &&& (2147483647 : Int32))), (.long q1)]))
  refine own_Fin.step (fun _ => XS.i2l X1.here hx rfl (hb hby at_26) rfl) ?_
  show own_Fin p e below s _ _ _ (T1.setTop (mkF m 27 #[.val (.long q1), .second, .val (.long q2), .second, .val (.int p3), .val (.long q4), .second, .val (.long q5), .second, .val (.int (p3 &&& (2147483647 : Int32))), .val (.long (own_f q1 q2 (p3 &&& (2147483647 : Int32)))), .second, .val (.long (q1 * (64 : Int64))), .second, .unset, .unset, .unset, .unset, .unset, .unset, .unset, .unset] [(.long ((p3 &&& (2147483647 : Int32)).toInt64)), (.long q1)]))
  refine own_Fin.step (fun _ => XS.lmul X1.here hx rfl (hb hby at_27) rfl) ?_
  show own_Fin p e below s _ _ _ (T1.setTop (mkF m 28 #[.val (.long q1), .second, .val (.long q2), .second, .val (.int p3), .val (.long q4), .second, .val (.long q5), .second, .val (.int (p3 &&& (2147483647 : Int32))), .val (.long (own_f q1 q2 (p3 &&& (2147483647 : Int32)))), .second, .val (.long (q1 * (64 : Int64))), .second, .unset, .unset, .unset, .unset, .unset, .unset, .unset, .unset] [(.long (q1 * ((p3 &&& (2147483647 : Int32)).toInt64)))]))
  refine own_Fin.step (X1.ldc2Long hx hown (mvT hZ (own_w hw 8 rfl)) (g := (mkF m 28 #[.val (.long q1), .second, .val (.long q2), .second, .val (.int p3), .val (.long q4), .second, .val (.long q5), .second, .val (.int (p3 &&& (2147483647 : Int32))), .val (.long (own_f q1 q2 (p3 &&& (2147483647 : Int32)))), .second, .val (.long (q1 * (64 : Int64))), .second, .unset, .unset, .unset, .unset, .unset, .unset, .unset, .unset] [(.long (q1 * ((p3 &&& (2147483647 : Int32)).toInt64)))])) rfl (hb hby at_28)) ?_
  show own_Fin p e below s _ _ _ (T1.setTop (mkF m 31 #[.val (.long q1), .second, .val (.long q2), .second, .val (.int p3), .val (.long q4), .second, .val (.long q5), .second, .val (.int (p3 &&& (2147483647 : Int32))), .val (.long (own_f q1 q2 (p3 &&& (2147483647 : Int32)))), .second, .val (.long (q1 * (64 : Int64))), .second, .unset, .unset, .unset, .unset, .unset, .unset, .unset, .unset] [(.long (16 : Int64)), (.long (q1 * ((p3 &&& (2147483647 : Int32)).toInt64)))]))
  refine own_Fin.step (fun _ => XS.lmul X1.here hx rfl (hb hby at_31) rfl) ?_
  show own_Fin p e below s _ _ _ (T1.setTop (mkF m 32 #[.val (.long q1), .second, .val (.long q2), .second, .val (.int p3), .val (.long q4), .second, .val (.long q5), .second, .val (.int (p3 &&& (2147483647 : Int32))), .val (.long (own_f q1 q2 (p3 &&& (2147483647 : Int32)))), .second, .val (.long (q1 * (64 : Int64))), .second, .unset, .unset, .unset, .unset, .unset, .unset, .unset, .unset] [(.long ((q1 * ((p3 &&& (2147483647 : Int32)).toInt64)) * (16 : Int64)))]))
  refine own_Fin.step (fun _ => XS.lstore X1.here hx rfl (hb hby at_32) rfl (l' := #[.val (.long q1), .second, .val (.long q2), .second, .val (.int p3), .val (.long q4), .second, .val (.long q5), .second, .val (.int (p3 &&& (2147483647 : Int32))), .val (.long (own_f q1 q2 (p3 &&& (2147483647 : Int32)))), .second, .val (.long (q1 * (64 : Int64))), .second, .val (.long ((q1 * ((p3 &&& (2147483647 : Int32)).toInt64)) * (16 : Int64))), .second, .unset, .unset, .unset, .unset, .unset, .unset]) rfl) ?_
  show own_Fin p e below s _ _ _ (T1.setTop (mkF m 34 #[.val (.long q1), .second, .val (.long q2), .second, .val (.int p3), .val (.long q4), .second, .val (.long q5), .second, .val (.int (p3 &&& (2147483647 : Int32))), .val (.long (own_f q1 q2 (p3 &&& (2147483647 : Int32)))), .second, .val (.long (q1 * (64 : Int64))), .second, .val (.long ((q1 * ((p3 &&& (2147483647 : Int32)).toInt64)) * (16 : Int64))), .second, .unset, .unset, .unset, .unset, .unset, .unset] []))
  refine own_Fin.step (fun _ => XS.lloadN X1.here hx rfl (hb hby at_34) rfl) ?_
  show own_Fin p e below s _ _ _ (T1.setTop (mkF m 35 #[.val (.long q1), .second, .val (.long q2), .second, .val (.int p3), .val (.long q4), .second, .val (.long q5), .second, .val (.int (p3 &&& (2147483647 : Int32))), .val (.long (own_f q1 q2 (p3 &&& (2147483647 : Int32)))), .second, .val (.long (q1 * (64 : Int64))), .second, .val (.long ((q1 * ((p3 &&& (2147483647 : Int32)).toInt64)) * (16 : Int64))), .second, .unset, .unset, .unset, .unset, .unset, .unset] [(.long q2)]))
  refine own_Fin.step (fun _ => XS.lload X1.here hx rfl (hb hby at_35) rfl) ?_
  show own_Fin p e below s _ _ _ (T1.setTop (mkF m 37 #[.val (.long q1), .second, .val (.long q2), .second, .val (.int p3), .val (.long q4), .second, .val (.long q5), .second, .val (.int (p3 &&& (2147483647 : Int32))), .val (.long (own_f q1 q2 (p3 &&& (2147483647 : Int32)))), .second, .val (.long (q1 * (64 : Int64))), .second, .val (.long ((q1 * ((p3 &&& (2147483647 : Int32)).toInt64)) * (16 : Int64))), .second, .unset, .unset, .unset, .unset, .unset, .unset] [(.long (q1 * (64 : Int64))), (.long q2)]))
  refine own_Fin.step (fun _ => XS.ladd X1.here hx rfl (hb hby at_37) rfl) ?_
  show own_Fin p e below s _ _ _ (T1.setTop (mkF m 38 #[.val (.long q1), .second, .val (.long q2), .second, .val (.int p3), .val (.long q4), .second, .val (.long q5), .second, .val (.int (p3 &&& (2147483647 : Int32))), .val (.long (own_f q1 q2 (p3 &&& (2147483647 : Int32)))), .second, .val (.long (q1 * (64 : Int64))), .second, .val (.long ((q1 * ((p3 &&& (2147483647 : Int32)).toInt64)) * (16 : Int64))), .second, .unset, .unset, .unset, .unset, .unset, .unset] [(.long (q2 + (q1 * (64 : Int64))))]))
  refine own_Fin.step (fun _ => XS.lload X1.here hx rfl (hb hby at_38) rfl) ?_
  show own_Fin p e below s _ _ _ (T1.setTop (mkF m 40 #[.val (.long q1), .second, .val (.long q2), .second, .val (.int p3), .val (.long q4), .second, .val (.long q5), .second, .val (.int (p3 &&& (2147483647 : Int32))), .val (.long (own_f q1 q2 (p3 &&& (2147483647 : Int32)))), .second, .val (.long (q1 * (64 : Int64))), .second, .val (.long ((q1 * ((p3 &&& (2147483647 : Int32)).toInt64)) * (16 : Int64))), .second, .unset, .unset, .unset, .unset, .unset, .unset] [(.long ((q1 * ((p3 &&& (2147483647 : Int32)).toInt64)) * (16 : Int64))), (.long (q2 + (q1 * (64 : Int64))))]))
  refine own_Fin.step (fun _ => XS.ladd X1.here hx rfl (hb hby at_40) rfl) ?_
  show own_Fin p e below s _ _ _ (T1.setTop (mkF m 41 #[.val (.long q1), .second, .val (.long q2), .second, .val (.int p3), .val (.long q4), .second, .val (.long q5), .second, .val (.int (p3 &&& (2147483647 : Int32))), .val (.long (own_f q1 q2 (p3 &&& (2147483647 : Int32)))), .second, .val (.long (q1 * (64 : Int64))), .second, .val (.long ((q1 * ((p3 &&& (2147483647 : Int32)).toInt64)) * (16 : Int64))), .second, .unset, .unset, .unset, .unset, .unset, .unset] [(.long ((q2 + (q1 * (64 : Int64))) + ((q1 * ((p3 &&& (2147483647 : Int32)).toInt64)) * (16 : Int64))))]))
  refine own_Fin.step (fun _ => XS.lstore X1.here hx rfl (hb hby at_41) rfl (l' := #[.val (.long q1), .second, .val (.long q2), .second, .val (.int p3), .val (.long q4), .second, .val (.long q5), .second, .val (.int (p3 &&& (2147483647 : Int32))), .val (.long (own_f q1 q2 (p3 &&& (2147483647 : Int32)))), .second, .val (.long (q1 * (64 : Int64))), .second, .val (.long ((q1 * ((p3 &&& (2147483647 : Int32)).toInt64)) * (16 : Int64))), .second, .val (.long ((q2 + (q1 * (64 : Int64))) + ((q1 * ((p3 &&& (2147483647 : Int32)).toInt64)) * (16 : Int64)))), .second, .unset, .unset, .unset, .unset]) rfl) ?_
  show own_Fin p e below s _ _ _ (T1.setTop (mkF m 43 #[.val (.long q1), .second, .val (.long q2), .second, .val (.int p3), .val (.long q4), .second, .val (.long q5), .second, .val (.int (p3 &&& (2147483647 : Int32))), .val (.long (own_f q1 q2 (p3 &&& (2147483647 : Int32)))), .second, .val (.long (q1 * (64 : Int64))), .second, .val (.long ((q1 * ((p3 &&& (2147483647 : Int32)).toInt64)) * (16 : Int64))), .second, .val (.long ((q2 + (q1 * (64 : Int64))) + ((q1 * ((p3 &&& (2147483647 : Int32)).toInt64)) * (16 : Int64)))), .second, .unset, .unset, .unset, .unset] []))
  refine own_Fin.step (fun _ => XS.lload X1.here hx rfl (hb hby at_43) rfl) ?_
  show own_Fin p e below s _ _ _ (T1.setTop (mkF m 45 #[.val (.long q1), .second, .val (.long q2), .second, .val (.int p3), .val (.long q4), .second, .val (.long q5), .second, .val (.int (p3 &&& (2147483647 : Int32))), .val (.long (own_f q1 q2 (p3 &&& (2147483647 : Int32)))), .second, .val (.long (q1 * (64 : Int64))), .second, .val (.long ((q1 * ((p3 &&& (2147483647 : Int32)).toInt64)) * (16 : Int64))), .second, .val (.long ((q2 + (q1 * (64 : Int64))) + ((q1 * ((p3 &&& (2147483647 : Int32)).toInt64)) * (16 : Int64)))), .second, .unset, .unset, .unset, .unset] [(.long (own_f q1 q2 (p3 &&& (2147483647 : Int32))))]))
  refine own_Fin.step (fun _ => XS.lload X1.here hx rfl (hb hby at_45) rfl) ?_
  show own_Fin p e below s _ _ _ (T1.setTop (mkF m 47 #[.val (.long q1), .second, .val (.long q2), .second, .val (.int p3), .val (.long q4), .second, .val (.long q5), .second, .val (.int (p3 &&& (2147483647 : Int32))), .val (.long (own_f q1 q2 (p3 &&& (2147483647 : Int32)))), .second, .val (.long (q1 * (64 : Int64))), .second, .val (.long ((q1 * ((p3 &&& (2147483647 : Int32)).toInt64)) * (16 : Int64))), .second, .val (.long ((q2 + (q1 * (64 : Int64))) + ((q1 * ((p3 &&& (2147483647 : Int32)).toInt64)) * (16 : Int64)))), .second, .unset, .unset, .unset, .unset] [(.long ((q2 + (q1 * (64 : Int64))) + ((q1 * ((p3 &&& (2147483647 : Int32)).toInt64)) * (16 : Int64)))), (.long (own_f q1 q2 (p3 &&& (2147483647 : Int32))))]))
  refine own_Fin.step (fun _ => XS.lcmp X1.here hx rfl (hb hby at_47) rfl) ?_
  show own_Fin p e below s _ _ _ (T1.setTop (mkF m 48 #[.val (.long q1), .second, .val (.long q2), .second, .val (.int p3), .val (.long q4), .second, .val (.long q5), .second, .val (.int (p3 &&& (2147483647 : Int32))), .val (.long (own_f q1 q2 (p3 &&& (2147483647 : Int32)))), .second, .val (.long (q1 * (64 : Int64))), .second, .val (.long ((q1 * ((p3 &&& (2147483647 : Int32)).toInt64)) * (16 : Int64))), .second, .val (.long ((q2 + (q1 * (64 : Int64))) + ((q1 * ((p3 &&& (2147483647 : Int32)).toInt64)) * (16 : Int64)))), .second, .unset, .unset, .unset, .unset] [(.int (XT.cmpL (own_f q1 q2 (p3 &&& (2147483647 : Int32))) ((q2 + (q1 * (64 : Int64))) + ((q1 * ((p3 &&& (2147483647 : Int32)).toInt64)) * (16 : Int64)))))]))
  refine own_Fin.step (fun _ => XS.ifYes X1.here hx rfl (pc0 := 48) (pc' := 53) rfl (hb hby at_48) rfl (XT.ll_eq_t (own_eq _ _ _)) (by decide) (by decide)) ?_
  show own_Fin p e below s _ _ _ (T1.setTop (mkF m 53 #[.val (.long q1), .second, .val (.long q2), .second, .val (.int p3), .val (.long q4), .second, .val (.long q5), .second, .val (.int (p3 &&& (2147483647 : Int32))), .val (.long (own_f q1 q2 (p3 &&& (2147483647 : Int32)))), .second, .val (.long (q1 * (64 : Int64))), .second, .val (.long ((q1 * ((p3 &&& (2147483647 : Int32)).toInt64)) * (16 : Int64))), .second, .val (.long ((q2 + (q1 * (64 : Int64))) + ((q1 * ((p3 &&& (2147483647 : Int32)).toInt64)) * (16 : Int64)))), .second, .unset, .unset, .unset, .unset] []))
  refine own_Fin.step (fun _ => XS.lload X1.here hx rfl (hb hby at_53) rfl) ?_
  show own_Fin p e below s _ _ _ (T1.setTop (mkF m 55 #[.val (.long q1), .second, .val (.long q2), .second, .val (.int p3), .val (.long q4), .second, .val (.long q5), .second, .val (.int (p3 &&& (2147483647 : Int32))), .val (.long (own_f q1 q2 (p3 &&& (2147483647 : Int32)))), .second, .val (.long (q1 * (64 : Int64))), .second, .val (.long ((q1 * ((p3 &&& (2147483647 : Int32)).toInt64)) * (16 : Int64))), .second, .val (.long ((q2 + (q1 * (64 : Int64))) + ((q1 * ((p3 &&& (2147483647 : Int32)).toInt64)) * (16 : Int64)))), .second, .unset, .unset, .unset, .unset] [(.long q4)]))
  refine own_Fin.step (fun _ => XS.lload X1.here hx rfl (hb hby at_55) rfl) ?_
  show own_Fin p e below s _ _ _ (T1.setTop (mkF m 57 #[.val (.long q1), .second, .val (.long q2), .second, .val (.int p3), .val (.long q4), .second, .val (.long q5), .second, .val (.int (p3 &&& (2147483647 : Int32))), .val (.long (own_f q1 q2 (p3 &&& (2147483647 : Int32)))), .second, .val (.long (q1 * (64 : Int64))), .second, .val (.long ((q1 * ((p3 &&& (2147483647 : Int32)).toInt64)) * (16 : Int64))), .second, .val (.long ((q2 + (q1 * (64 : Int64))) + ((q1 * ((p3 &&& (2147483647 : Int32)).toInt64)) * (16 : Int64)))), .second, .unset, .unset, .unset, .unset] [(.long q5), (.long q4)]))
  refine own_Fin.step (fun _ => XS.iload X1.here hx rfl (hb hby at_57) rfl) ?_
  show own_Fin p e below s _ _ _ (T1.setTop (mkF m 59 #[.val (.long q1), .second, .val (.long q2), .second, .val (.int p3), .val (.long q4), .second, .val (.long q5), .second, .val (.int (p3 &&& (2147483647 : Int32))), .val (.long (own_f q1 q2 (p3 &&& (2147483647 : Int32)))), .second, .val (.long (q1 * (64 : Int64))), .second, .val (.long ((q1 * ((p3 &&& (2147483647 : Int32)).toInt64)) * (16 : Int64))), .second, .val (.long ((q2 + (q1 * (64 : Int64))) + ((q1 * ((p3 &&& (2147483647 : Int32)).toInt64)) * (16 : Int64)))), .second, .unset, .unset, .unset, .unset] [(.int (p3 &&& (2147483647 : Int32))), (.long q5), (.long q4)]))
  obtain ⟨_, T2, L2, X2, ⟨rfl, N2q, e2⟩, st2⟩ := own_callS X1 hx hZ hown (own_w hw 1 rfl) (own_w hw 2 rfl) (own_w hw 3 rfl) (own_w hw 4 rfl) (by decide) (rm1 l Z a0 hw q4 q5 (p3 &&& (2147483647 : Int32)) h0 n0 Z0) (by decide) (by decide) e1 (W := 0) (g := (mkF m 59 #[.val (.long q1), .second, .val (.long q2), .second, .val (.int p3), .val (.long q4), .second, .val (.long q5), .second, .val (.int (p3 &&& (2147483647 : Int32))), .val (.long (own_f q1 q2 (p3 &&& (2147483647 : Int32)))), .second, .val (.long (q1 * (64 : Int64))), .second, .val (.long ((q1 * ((p3 &&& (2147483647 : Int32)).toInt64)) * (16 : Int64))), .second, .val (.long ((q2 + (q1 * (64 : Int64))) + ((q1 * ((p3 &&& (2147483647 : Int32)).toInt64)) * (16 : Int64)))), .second, .unset, .unset, .unset, .unset] [(.int (p3 &&& (2147483647 : Int32))), (.long q5), (.long q4)])) rfl (by rw [hml]; rfl) (argsL := [(.long q4), (.long q5), (.int (p3 &&& (2147483647 : Int32)))]) (rest := []) (lenOf pd_0 rfl) rfl rfl (by show 2 * 0 + _ ≤ _; exact Nat.le_of_eq rfl) (hb hby at_59) (by decide) (by decide)
  have N2 := Fr.app N1 N2q
  refine own_Fin.step st2 ?_
  show own_Fin p e below s _ _ _ (T2.setTop (mkF m 62 #[.val (.long q1), .second, .val (.long q2), .second, .val (.int p3), .val (.long q4), .second, .val (.long q5), .second, .val (.int (p3 &&& (2147483647 : Int32))), .val (.long (own_f q1 q2 (p3 &&& (2147483647 : Int32)))), .second, .val (.long (q1 * (64 : Int64))), .second, .val (.long ((q1 * ((p3 &&& (2147483647 : Int32)).toInt64)) * (16 : Int64))), .second, .val (.long ((q2 + (q1 * (64 : Int64))) + ((q1 * ((p3 &&& (2147483647 : Int32)).toInt64)) * (16 : Int64)))), .second, .unset, .unset, .unset, .unset] [(.long (own_f q4 q5 (p3 &&& (2147483647 : Int32))))]))
  refine own_Fin.step (fun _ => XS.lstore X2.here hx rfl (hb hby at_62) rfl (l' := #[.val (.long q1), .second, .val (.long q2), .second, .val (.int p3), .val (.long q4), .second, .val (.long q5), .second, .val (.int (p3 &&& (2147483647 : Int32))), .val (.long (own_f q1 q2 (p3 &&& (2147483647 : Int32)))), .second, .val (.long (q1 * (64 : Int64))), .second, .val (.long ((q1 * ((p3 &&& (2147483647 : Int32)).toInt64)) * (16 : Int64))), .second, .val (.long ((q2 + (q1 * (64 : Int64))) + ((q1 * ((p3 &&& (2147483647 : Int32)).toInt64)) * (16 : Int64)))), .second, .val (.long (own_f q4 q5 (p3 &&& (2147483647 : Int32)))), .second, .unset, .unset]) rfl) ?_
  show own_Fin p e below s _ _ _ (T2.setTop (mkF m 64 #[.val (.long q1), .second, .val (.long q2), .second, .val (.int p3), .val (.long q4), .second, .val (.long q5), .second, .val (.int (p3 &&& (2147483647 : Int32))), .val (.long (own_f q1 q2 (p3 &&& (2147483647 : Int32)))), .second, .val (.long (q1 * (64 : Int64))), .second, .val (.long ((q1 * ((p3 &&& (2147483647 : Int32)).toInt64)) * (16 : Int64))), .second, .val (.long ((q2 + (q1 * (64 : Int64))) + ((q1 * ((p3 &&& (2147483647 : Int32)).toInt64)) * (16 : Int64)))), .second, .val (.long (own_f q4 q5 (p3 &&& (2147483647 : Int32)))), .second, .unset, .unset] []))
  refine own_Fin.step (fun _ => XS.lloadN X2.here hx rfl (hb hby at_64) rfl) ?_
  show own_Fin p e below s _ _ _ (T2.setTop (mkF m 65 #[.val (.long q1), .second, .val (.long q2), .second, .val (.int p3), .val (.long q4), .second, .val (.long q5), .second, .val (.int (p3 &&& (2147483647 : Int32))), .val (.long (own_f q1 q2 (p3 &&& (2147483647 : Int32)))), .second, .val (.long (q1 * (64 : Int64))), .second, .val (.long ((q1 * ((p3 &&& (2147483647 : Int32)).toInt64)) * (16 : Int64))), .second, .val (.long ((q2 + (q1 * (64 : Int64))) + ((q1 * ((p3 &&& (2147483647 : Int32)).toInt64)) * (16 : Int64)))), .second, .val (.long (own_f q4 q5 (p3 &&& (2147483647 : Int32)))), .second, .unset, .unset] [(.long q1)]))
  refine own_Fin.step (fun _ => XS.lload X2.here hx rfl (hb hby at_65) rfl) ?_
  show own_Fin p e below s _ _ _ (T2.setTop (mkF m 67 #[.val (.long q1), .second, .val (.long q2), .second, .val (.int p3), .val (.long q4), .second, .val (.long q5), .second, .val (.int (p3 &&& (2147483647 : Int32))), .val (.long (own_f q1 q2 (p3 &&& (2147483647 : Int32)))), .second, .val (.long (q1 * (64 : Int64))), .second, .val (.long ((q1 * ((p3 &&& (2147483647 : Int32)).toInt64)) * (16 : Int64))), .second, .val (.long ((q2 + (q1 * (64 : Int64))) + ((q1 * ((p3 &&& (2147483647 : Int32)).toInt64)) * (16 : Int64)))), .second, .val (.long (own_f q4 q5 (p3 &&& (2147483647 : Int32)))), .second, .unset, .unset] [(.long q4), (.long q1)]))
  refine own_Fin.step (fun _ => XS.ladd X2.here hx rfl (hb hby at_67) rfl) ?_
  show own_Fin p e below s _ _ _ (T2.setTop (mkF m 68 #[.val (.long q1), .second, .val (.long q2), .second, .val (.int p3), .val (.long q4), .second, .val (.long q5), .second, .val (.int (p3 &&& (2147483647 : Int32))), .val (.long (own_f q1 q2 (p3 &&& (2147483647 : Int32)))), .second, .val (.long (q1 * (64 : Int64))), .second, .val (.long ((q1 * ((p3 &&& (2147483647 : Int32)).toInt64)) * (16 : Int64))), .second, .val (.long ((q2 + (q1 * (64 : Int64))) + ((q1 * ((p3 &&& (2147483647 : Int32)).toInt64)) * (16 : Int64)))), .second, .val (.long (own_f q4 q5 (p3 &&& (2147483647 : Int32)))), .second, .unset, .unset] [(.long (q1 + q4))]))
  refine own_Fin.step (fun _ => XS.lloadN X2.here hx rfl (hb hby at_68) rfl) ?_
  show own_Fin p e below s _ _ _ (T2.setTop (mkF m 69 #[.val (.long q1), .second, .val (.long q2), .second, .val (.int p3), .val (.long q4), .second, .val (.long q5), .second, .val (.int (p3 &&& (2147483647 : Int32))), .val (.long (own_f q1 q2 (p3 &&& (2147483647 : Int32)))), .second, .val (.long (q1 * (64 : Int64))), .second, .val (.long ((q1 * ((p3 &&& (2147483647 : Int32)).toInt64)) * (16 : Int64))), .second, .val (.long ((q2 + (q1 * (64 : Int64))) + ((q1 * ((p3 &&& (2147483647 : Int32)).toInt64)) * (16 : Int64)))), .second, .val (.long (own_f q4 q5 (p3 &&& (2147483647 : Int32)))), .second, .unset, .unset] [(.long q2), (.long (q1 + q4))]))
  refine own_Fin.step (fun _ => XS.lload X2.here hx rfl (hb hby at_69) rfl) ?_
  show own_Fin p e below s _ _ _ (T2.setTop (mkF m 71 #[.val (.long q1), .second, .val (.long q2), .second, .val (.int p3), .val (.long q4), .second, .val (.long q5), .second, .val (.int (p3 &&& (2147483647 : Int32))), .val (.long (own_f q1 q2 (p3 &&& (2147483647 : Int32)))), .second, .val (.long (q1 * (64 : Int64))), .second, .val (.long ((q1 * ((p3 &&& (2147483647 : Int32)).toInt64)) * (16 : Int64))), .second, .val (.long ((q2 + (q1 * (64 : Int64))) + ((q1 * ((p3 &&& (2147483647 : Int32)).toInt64)) * (16 : Int64)))), .second, .val (.long (own_f q4 q5 (p3 &&& (2147483647 : Int32)))), .second, .unset, .unset] [(.long q5), (.long q2), (.long (q1 + q4))]))
  refine own_Fin.step (fun _ => XS.ladd X2.here hx rfl (hb hby at_71) rfl) ?_
  show own_Fin p e below s _ _ _ (T2.setTop (mkF m 72 #[.val (.long q1), .second, .val (.long q2), .second, .val (.int p3), .val (.long q4), .second, .val (.long q5), .second, .val (.int (p3 &&& (2147483647 : Int32))), .val (.long (own_f q1 q2 (p3 &&& (2147483647 : Int32)))), .second, .val (.long (q1 * (64 : Int64))), .second, .val (.long ((q1 * ((p3 &&& (2147483647 : Int32)).toInt64)) * (16 : Int64))), .second, .val (.long ((q2 + (q1 * (64 : Int64))) + ((q1 * ((p3 &&& (2147483647 : Int32)).toInt64)) * (16 : Int64)))), .second, .val (.long (own_f q4 q5 (p3 &&& (2147483647 : Int32)))), .second, .unset, .unset] [(.long (q2 + q5)), (.long (q1 + q4))]))
  refine own_Fin.step (fun _ => XS.iload X2.here hx rfl (hb hby at_72) rfl) ?_
  show own_Fin p e below s _ _ _ (T2.setTop (mkF m 74 #[.val (.long q1), .second, .val (.long q2), .second, .val (.int p3), .val (.long q4), .second, .val (.long q5), .second, .val (.int (p3 &&& (2147483647 : Int32))), .val (.long (own_f q1 q2 (p3 &&& (2147483647 : Int32)))), .second, .val (.long (q1 * (64 : Int64))), .second, .val (.long ((q1 * ((p3 &&& (2147483647 : Int32)).toInt64)) * (16 : Int64))), .second, .val (.long ((q2 + (q1 * (64 : Int64))) + ((q1 * ((p3 &&& (2147483647 : Int32)).toInt64)) * (16 : Int64)))), .second, .val (.long (own_f q4 q5 (p3 &&& (2147483647 : Int32)))), .second, .unset, .unset] [(.int (p3 &&& (2147483647 : Int32))), (.long (q2 + q5)), (.long (q1 + q4))]))
  obtain ⟨_, T3, L3, X3, ⟨rfl, N3q, e3⟩, st3⟩ := own_callS X2 hx hZ hown (own_w hw 1 rfl) (own_w hw 2 rfl) (own_w hw 3 rfl) (own_w hw 4 rfl) (by decide) (rm1 l Z a0 hw (q1 + q4) (q2 + q5) (p3 &&& (2147483647 : Int32)) h0 n0 Z0) (by decide) (by decide) e2 (W := 0) (g := (mkF m 74 #[.val (.long q1), .second, .val (.long q2), .second, .val (.int p3), .val (.long q4), .second, .val (.long q5), .second, .val (.int (p3 &&& (2147483647 : Int32))), .val (.long (own_f q1 q2 (p3 &&& (2147483647 : Int32)))), .second, .val (.long (q1 * (64 : Int64))), .second, .val (.long ((q1 * ((p3 &&& (2147483647 : Int32)).toInt64)) * (16 : Int64))), .second, .val (.long ((q2 + (q1 * (64 : Int64))) + ((q1 * ((p3 &&& (2147483647 : Int32)).toInt64)) * (16 : Int64)))), .second, .val (.long (own_f q4 q5 (p3 &&& (2147483647 : Int32)))), .second, .unset, .unset] [(.int (p3 &&& (2147483647 : Int32))), (.long (q2 + q5)), (.long (q1 + q4))])) rfl (by rw [hml]; rfl) (argsL := [(.long (q1 + q4)), (.long (q2 + q5)), (.int (p3 &&& (2147483647 : Int32)))]) (rest := []) (lenOf pd_0 rfl) rfl rfl (by show 2 * 0 + _ ≤ _; exact Nat.le_of_eq rfl) (hb hby at_74) (by decide) (by decide)
  have N3 := Fr.app N2 N3q
  refine own_Fin.step st3 ?_
  show own_Fin p e below s _ _ _ (T3.setTop (mkF m 77 #[.val (.long q1), .second, .val (.long q2), .second, .val (.int p3), .val (.long q4), .second, .val (.long q5), .second, .val (.int (p3 &&& (2147483647 : Int32))), .val (.long (own_f q1 q2 (p3 &&& (2147483647 : Int32)))), .second, .val (.long (q1 * (64 : Int64))), .second, .val (.long ((q1 * ((p3 &&& (2147483647 : Int32)).toInt64)) * (16 : Int64))), .second, .val (.long ((q2 + (q1 * (64 : Int64))) + ((q1 * ((p3 &&& (2147483647 : Int32)).toInt64)) * (16 : Int64)))), .second, .val (.long (own_f q4 q5 (p3 &&& (2147483647 : Int32)))), .second, .unset, .unset] [(.long (own_f (q1 + q4) (q2 + q5) (p3 &&& (2147483647 : Int32))))]))
  refine own_Fin.step (fun _ => XS.lstore X3.here hx rfl (hb hby at_77) rfl (l' := #[.val (.long q1), .second, .val (.long q2), .second, .val (.int p3), .val (.long q4), .second, .val (.long q5), .second, .val (.int (p3 &&& (2147483647 : Int32))), .val (.long (own_f q1 q2 (p3 &&& (2147483647 : Int32)))), .second, .val (.long (q1 * (64 : Int64))), .second, .val (.long ((q1 * ((p3 &&& (2147483647 : Int32)).toInt64)) * (16 : Int64))), .second, .val (.long ((q2 + (q1 * (64 : Int64))) + ((q1 * ((p3 &&& (2147483647 : Int32)).toInt64)) * (16 : Int64)))), .second, .val (.long (own_f q4 q5 (p3 &&& (2147483647 : Int32)))), .second, .val (.long (own_f (q1 + q4) (q2 + q5) (p3 &&& (2147483647 : Int32)))), .second]) rfl) ?_
  show own_Fin p e below s _ _ _ (T3.setTop (mkF m 79 #[.val (.long q1), .second, .val (.long q2), .second, .val (.int p3), .val (.long q4), .second, .val (.long q5), .second, .val (.int (p3 &&& (2147483647 : Int32))), .val (.long (own_f q1 q2 (p3 &&& (2147483647 : Int32)))), .second, .val (.long (q1 * (64 : Int64))), .second, .val (.long ((q1 * ((p3 &&& (2147483647 : Int32)).toInt64)) * (16 : Int64))), .second, .val (.long ((q2 + (q1 * (64 : Int64))) + ((q1 * ((p3 &&& (2147483647 : Int32)).toInt64)) * (16 : Int64)))), .second, .val (.long (own_f q4 q5 (p3 &&& (2147483647 : Int32)))), .second, .val (.long (own_f (q1 + q4) (q2 + q5) (p3 &&& (2147483647 : Int32)))), .second] []))
  refine own_Fin.step (fun _ => XS.lload X3.here hx rfl (hb hby at_79) rfl) ?_
  show own_Fin p e below s _ _ _ (T3.setTop (mkF m 81 #[.val (.long q1), .second, .val (.long q2), .second, .val (.int p3), .val (.long q4), .second, .val (.long q5), .second, .val (.int (p3 &&& (2147483647 : Int32))), .val (.long (own_f q1 q2 (p3 &&& (2147483647 : Int32)))), .second, .val (.long (q1 * (64 : Int64))), .second, .val (.long ((q1 * ((p3 &&& (2147483647 : Int32)).toInt64)) * (16 : Int64))), .second, .val (.long ((q2 + (q1 * (64 : Int64))) + ((q1 * ((p3 &&& (2147483647 : Int32)).toInt64)) * (16 : Int64)))), .second, .val (.long (own_f q4 q5 (p3 &&& (2147483647 : Int32)))), .second, .val (.long (own_f (q1 + q4) (q2 + q5) (p3 &&& (2147483647 : Int32)))), .second] [(.long (own_f (q1 + q4) (q2 + q5) (p3 &&& (2147483647 : Int32))))]))
  refine own_Fin.step (fun _ => XS.lload X3.here hx rfl (hb hby at_81) rfl) ?_
  show own_Fin p e below s _ _ _ (T3.setTop (mkF m 83 #[.val (.long q1), .second, .val (.long q2), .second, .val (.int p3), .val (.long q4), .second, .val (.long q5), .second, .val (.int (p3 &&& (2147483647 : Int32))), .val (.long (own_f q1 q2 (p3 &&& (2147483647 : Int32)))), .second, .val (.long (q1 * (64 : Int64))), .second, .val (.long ((q1 * ((p3 &&& (2147483647 : Int32)).toInt64)) * (16 : Int64))), .second, .val (.long ((q2 + (q1 * (64 : Int64))) + ((q1 * ((p3 &&& (2147483647 : Int32)).toInt64)) * (16 : Int64)))), .second, .val (.long (own_f q4 q5 (p3 &&& (2147483647 : Int32)))), .second, .val (.long (own_f (q1 + q4) (q2 + q5) (p3 &&& (2147483647 : Int32)))), .second] [(.long (own_f q1 q2 (p3 &&& (2147483647 : Int32)))), (.long (own_f (q1 + q4) (q2 + q5) (p3 &&& (2147483647 : Int32))))]))
  refine own_Fin.step (fun _ => XS.lload X3.here hx rfl (hb hby at_83) rfl) ?_
  show own_Fin p e below s _ _ _ (T3.setTop (mkF m 85 #[.val (.long q1), .second, .val (.long q2), .second, .val (.int p3), .val (.long q4), .second, .val (.long q5), .second, .val (.int (p3 &&& (2147483647 : Int32))), .val (.long (own_f q1 q2 (p3 &&& (2147483647 : Int32)))), .second, .val (.long (q1 * (64 : Int64))), .second, .val (.long ((q1 * ((p3 &&& (2147483647 : Int32)).toInt64)) * (16 : Int64))), .second, .val (.long ((q2 + (q1 * (64 : Int64))) + ((q1 * ((p3 &&& (2147483647 : Int32)).toInt64)) * (16 : Int64)))), .second, .val (.long (own_f q4 q5 (p3 &&& (2147483647 : Int32)))), .second, .val (.long (own_f (q1 + q4) (q2 + q5) (p3 &&& (2147483647 : Int32)))), .second] [(.long (own_f q4 q5 (p3 &&& (2147483647 : Int32)))), (.long (own_f q1 q2 (p3 &&& (2147483647 : Int32)))), (.long (own_f (q1 + q4) (q2 + q5) (p3 &&& (2147483647 : Int32))))]))
  refine own_Fin.step (fun _ => XS.ladd X3.here hx rfl (hb hby at_85) rfl) ?_
  show own_Fin p e below s _ _ _ (T3.setTop (mkF m 86 #[.val (.long q1), .second, .val (.long q2), .second, .val (.int p3), .val (.long q4), .second, .val (.long q5), .second, .val (.int (p3 &&& (2147483647 : Int32))), .val (.long (own_f q1 q2 (p3 &&& (2147483647 : Int32)))), .second, .val (.long (q1 * (64 : Int64))), .second, .val (.long ((q1 * ((p3 &&& (2147483647 : Int32)).toInt64)) * (16 : Int64))), .second, .val (.long ((q2 + (q1 * (64 : Int64))) + ((q1 * ((p3 &&& (2147483647 : Int32)).toInt64)) * (16 : Int64)))), .second, .val (.long (own_f q4 q5 (p3 &&& (2147483647 : Int32)))), .second, .val (.long (own_f (q1 + q4) (q2 + q5) (p3 &&& (2147483647 : Int32)))), .second] [(.long ((own_f q1 q2 (p3 &&& (2147483647 : Int32))) + (own_f q4 q5 (p3 &&& (2147483647 : Int32))))), (.long (own_f (q1 + q4) (q2 + q5) (p3 &&& (2147483647 : Int32))))]))
  refine own_Fin.step (fun _ => XS.lcmp X3.here hx rfl (hb hby at_86) rfl) ?_
  show own_Fin p e below s _ _ _ (T3.setTop (mkF m 87 #[.val (.long q1), .second, .val (.long q2), .second, .val (.int p3), .val (.long q4), .second, .val (.long q5), .second, .val (.int (p3 &&& (2147483647 : Int32))), .val (.long (own_f q1 q2 (p3 &&& (2147483647 : Int32)))), .second, .val (.long (q1 * (64 : Int64))), .second, .val (.long ((q1 * ((p3 &&& (2147483647 : Int32)).toInt64)) * (16 : Int64))), .second, .val (.long ((q2 + (q1 * (64 : Int64))) + ((q1 * ((p3 &&& (2147483647 : Int32)).toInt64)) * (16 : Int64)))), .second, .val (.long (own_f q4 q5 (p3 &&& (2147483647 : Int32)))), .second, .val (.long (own_f (q1 + q4) (q2 + q5) (p3 &&& (2147483647 : Int32)))), .second] [(.int (XT.cmpL (own_f (q1 + q4) (q2 + q5) (p3 &&& (2147483647 : Int32))) ((own_f q1 q2 (p3 &&& (2147483647 : Int32))) + (own_f q4 q5 (p3 &&& (2147483647 : Int32))))))]))
  refine own_Fin.step (fun _ => XS.ifNo X3.here hx rfl (hb hby at_87) rfl (XT.ll_ne_f (own_sum _ _ _ _ _))) ?_
  show own_Fin p e below s _ _ _ (T3.setTop (mkF m 90 #[.val (.long q1), .second, .val (.long q2), .second, .val (.int p3), .val (.long q4), .second, .val (.long q5), .second, .val (.int (p3 &&& (2147483647 : Int32))), .val (.long (own_f q1 q2 (p3 &&& (2147483647 : Int32)))), .second, .val (.long (q1 * (64 : Int64))), .second, .val (.long ((q1 * ((p3 &&& (2147483647 : Int32)).toInt64)) * (16 : Int64))), .second, .val (.long ((q2 + (q1 * (64 : Int64))) + ((q1 * ((p3 &&& (2147483647 : Int32)).toInt64)) * (16 : Int64)))), .second, .val (.long (own_f q4 q5 (p3 &&& (2147483647 : Int32)))), .second, .val (.long (own_f (q1 + q4) (q2 + q5) (p3 &&& (2147483647 : Int32)))), .second] []))
  refine own_Fin.step (fun _ => XS.iconst X3.here hx rfl (hb hby at_90)) ?_
  show own_Fin p e below s _ _ _ (T3.setTop (mkF m 91 #[.val (.long q1), .second, .val (.long q2), .second, .val (.int p3), .val (.long q4), .second, .val (.long q5), .second, .val (.int (p3 &&& (2147483647 : Int32))), .val (.long (own_f q1 q2 (p3 &&& (2147483647 : Int32)))), .second, .val (.long (q1 * (64 : Int64))), .second, .val (.long ((q1 * ((p3 &&& (2147483647 : Int32)).toInt64)) * (16 : Int64))), .second, .val (.long ((q2 + (q1 * (64 : Int64))) + ((q1 * ((p3 &&& (2147483647 : Int32)).toInt64)) * (16 : Int64)))), .second, .val (.long (own_f q4 q5 (p3 &&& (2147483647 : Int32)))), .second, .val (.long (own_f (q1 + q4) (q2 + q5) (p3 &&& (2147483647 : Int32)))), .second] [(.int (1 : Int32))]))
  refine own_Fin.step (fun _ => XS.goto X3.here hx rfl (pc0 := 91) (pc' := 95) rfl (hb hby at_91) (by decide) (by decide)) ?_
  show own_Fin p e below s _ _ _ (T3.setTop (mkF m 95 #[.val (.long q1), .second, .val (.long q2), .second, .val (.int p3), .val (.long q4), .second, .val (.long q5), .second, .val (.int (p3 &&& (2147483647 : Int32))), .val (.long (own_f q1 q2 (p3 &&& (2147483647 : Int32)))), .second, .val (.long (q1 * (64 : Int64))), .second, .val (.long ((q1 * ((p3 &&& (2147483647 : Int32)).toInt64)) * (16 : Int64))), .second, .val (.long ((q2 + (q1 * (64 : Int64))) + ((q1 * ((p3 &&& (2147483647 : Int32)).toInt64)) * (16 : Int64)))), .second, .val (.long (own_f q4 q5 (p3 &&& (2147483647 : Int32)))), .second, .val (.long (own_f (q1 + q4) (q2 + q5) (p3 &&& (2147483647 : Int32)))), .second] [(.int (1 : Int32))]))
  exact own_retN X3 hx hlk (t := .boolean) hret (by simp) (hb hby at_95) ⟨rfl, N3⟩ (by decide) (by decide)
set_option maxRecDepth 65536 in
set_option maxHeartbeats 40000000 in
theorem comes_1 {Post : Tables → Env → Array Value → State → Outcome → State → Prop} (hpost : ∀ tb e args s v u, (limb_1_1.after args s (.returned v) u = true ∧ limb_1_2.after args s (.returned v) u = true ∧ True) → FrameEnd s (.returned v) u (Jvm.fieldLocs frame_1_writes args s ++ Jvm.arrayLocs frame_1_arrays args s ++ Jvm.staticLocs frame_1_statics s) 0 0 → Post tb e args s (.returned v) u) :
    ArmFor flags0 classFile x code maxLocals ret World_1 tables_1 room_1 Calls_1 rest_1 Pre_1 Post := by
  intro l hfl _ _ p e ha hc hk s m args below hf hA hF happ hP
  obtain ⟨hcalls, hrest, hpre⟩ := hP
  obtain ⟨-, -, -, hnamed, -, -, -, hat⟩ := (Spec.applies_iff hf).mp happ
  obtain ⟨hg, hn⟩ := and_e (Cond.before_iff.mp (show (Jvm.Cond.and given_1 narrow_1).before args s = true from hpre))
  obtain ⟨hcount, g0⟩ := and_e hg
  obtain ⟨a0, g1⟩ := and_e g0
  obtain ⟨a1, g2⟩ := and_e g1
  obtain ⟨a2, g3⟩ := and_e g2
  obtain ⟨a3, g4⟩ := and_e g3
  have a4 := g4
  obtain ⟨w0, w1, w2, w3, w4, rfl⟩ : ∃ w0 w1 w2 w3 w4 : Value, args = #[w0, w1, w2, w3, w4] := by
    have hs : args.size = 5 := by simpa [Cond.value, given_1] using hcount
    obtain ⟨L⟩ := args
    match L, hs with
    | [w0, w1, w2, w3, w4], _ => exact ⟨w0, w1, w2, w3, w4, rfl⟩
  have hw := fun d (hd : d ∈ tables_1) => atoms_spec (ws := Jvm.Cond.code x code maxLocals ret :: tables_1) hat d (List.mem_cons_of_mem _ hd)
  obtain ⟨i0, ei0⟩ := isL_v a0
  obtain rfl : w0 = (.long i0) := Option.some.inj ei0
  obtain ⟨i1, ei1⟩ := isL_v a1
  obtain rfl : w1 = (.long i1) := Option.some.inj ei1
  obtain ⟨i2, ei2⟩ := is_v a2
  obtain rfl : w2 = (.int i2) := Option.some.inj ei2
  obtain ⟨i3, ei3⟩ := isL_v a3
  obtain rfl : w3 = (.long i3) := Option.some.inj ei3
  obtain ⟨i4, ei4⟩ := isL_v a4
  obtain rfl : w4 = (.long i4) := Option.some.inj ei4
  obtain ⟨n, o, h1, h2, h3, _, L, rfl, ⟨rfl, N⟩, hq⟩ := rm0 l s _ hw i0 i1 i2 i3 i4 s.heap s.heap.size (Nat.le_refl _)  p e ha hc hk s m _ below hf ((Spec.applies_iff_loose hf).mp happ).1 ⟨rfl, State.Warmed39.refl s, rfl⟩ trivial
  refine ⟨n, _, h1, h2, h3, hpost _ _ _ _ _ _ ⟨Cond.after_iff.mpr rfl, Cond.after_iff.mpr (eq_i res_at (Term.int_eval (1)) rfl), trivial⟩ ⟨hq.1, hq.2.1, (hq.2.2.sift fun y hy => Or.inr (N y hy)).mono (by decide) (by decide)⟩⟩
theorem main_1_1 : Claimed_1_1 := comes_1 fun _ _ _ _ _ _ h hF => ⟨h.1, hF⟩
theorem main_1_2 : Claimed_1_2 := comes_1 fun _ _ _ _ _ _ h hF => ⟨h.2.1, hF⟩
end Jvm.Pilot.@@N@@
namespace Jvm.Pilot.@@N@@
open Jvm Jvm.ClassFile Sem Op Lib Jvm.Free Jvm.Stand Jvm.Pilot.@@N@@.Jvm.D
/-! MADE BY PROGRAM (witnessworld.py) out of the Statement's table words and the real class files: 9 classes; the members and pool entries that the words name. The judged class is class 1, her method 1. -/
namespace start1
open Jvm.ClassFile
def u (s : String) : CpInfo := .utf8 (stringToUtf16 s)
/-- a pool by its gaps: so many unusable entries, then the entry; so many at the end -/
def gap : Nat → List CpInfo → List CpInfo
  | 0, r => r
  | n + 1, r => .unusable :: gap n r
def poolList (es : List (Nat × CpInfo)) (last : Nat) : List CpInfo := es.foldr (fun e r => gap e.1 (e.2 :: r)) (gap last [])
def pool (es : List (Nat × CpInfo)) (last : Nat) : Array CpInfo := ⟨poolList es last⟩
def fileOf (pool : Array CpInfo) (this : Nat) (attrs : Array Attribute := #[]) (ms : Array MethodInfo := #[]) (fl : Nat := 33) (sup : Nat := 0) (ifs : Array Nat := #[]) (fds : Array FieldInfo := #[]) : ClassFile where
  minorVersion := 0
  majorVersion := 65
  constantPool := pool
  accessFlags := fl
  thisClass := this
  superClass := sup
  interfaces := ifs
  fields := fds
  methods := ms
  attributes := attrs
def plain (name : String) (sup : Option ClassId) : Class where
  name := name
  kind := .ordinary
  loader := none
  accessFlags := 33
  super := sup
  interfaces := #[]
  cf := none
  fields := #[]
  methods := #[]
  instanceTypes := #[]
  staticTypes := #[]
  resolved := #[]
  callSites := []
  init := .initialized
  statics := none
  mirror := none

def pool0 : Array CpInfo := pool [(5, u "<init>"), (0, u "()V"), (1, .class_ 10), (1, u "java/lang/Object")] 113

def k0m0 : Method := { name := "<init>", desc := "()V", sig := { parameters := [], returnType := none }, accessFlags := 1, code := none }
/-- java/lang/Object -/
def k0 : Class := { plain "java/lang/Object" none with
  accessFlags := 33
  interfaces := #[]
  cf := some (fileOf pool0 8 #[] #[{ accessFlags := 1, nameIndex := 5, descriptorIndex := 6, attributes := #[] }] 33 0 #[] #[])
  fields := #[]
  methods := #[k0m0]
  instanceTypes := #[]
  staticTypes := #[]
  resolved := Array.replicate 124 none
  statics := none }

def pool1 : Array CpInfo := pool [(2, .class_ 4), (1, u "java/lang/Object"), (0, u "<init>"), (0, u "()V"), (0, .integer 2147483647), (0, .methodref 9 10), (0, .class_ 11), (0, .nameAndType 12 13), (0, u "com/example/runfold/runfold/table/SortSpace"), (0, u "bytesToHold"), (0, u "(JJI)J"), (0, .long 64), (1, .long 16), (1, .class_ 19), (0, u "com/example/runfold/runfold/table/SortSpaceBytesToHoldPinLaw"), (2, u "law"), (0, u "(JJIJJ)Z")] 3

def k1m0 : Method := { name := "<init>", desc := "()V", sig := { parameters := [], returnType := none }, accessFlags := 1, code := none }
def k1c1 : Code := { maxStack := 6, maxLocals := 22, code := code, exceptionTable := #[], attributes := #[] }
def k1m1 : Method := { name := "law", desc := "(JJIJJ)Z", sig := { parameters := [.long, .long, .int, .long, .long], returnType := some .boolean }, accessFlags := 9, code := some k1c1 }
/-- com/example/runfold/runfold/table/SortSpaceBytesToHoldPinLaw -/
def k1 : Class := { plain "com/example/runfold/runfold/table/SortSpaceBytesToHoldPinLaw" (some 0) with
  accessFlags := 49
  interfaces := #[]
  cf := some (fileOf pool1 18 #[] #[{ accessFlags := 1, nameIndex := 5, descriptorIndex := 6, attributes := #[] }, { accessFlags := 9, nameIndex := 22, descriptorIndex := 23, attributes := #[] }] 49 2 #[] #[])
  fields := #[]
  methods := #[k1m0, k1m1]
  instanceTypes := #[]
  staticTypes := #[]
  resolved := Array.replicate 27 none
  statics := none }

def pool2 : Array CpInfo := pool [(2, .class_ 4), (1, u "java/lang/Object"), (12, u "directory"), (9, .class_ 29), (1, u "com/example/runfold/runfold/table/SortSpace"), (0, u "Ljava/nio/file/Path;"), (2, u "memoryLimit"), (0, u "J"), (0, .long 64), (1, .long 16), (3, u "bytesToHold"), (0, u "(JJI)J"), (36, u "BYTES_PER_ROW"), (0, u "I"), (2, u "BYTES_PER_COLUMN"), (1, u "BUFFER"), (1, u "MAX_FAN_IN")] 28

def k2c0 : Code := { maxStack := 10, maxLocals := 5, code := prog_54_method_4_code, exceptionTable := #[], attributes := #[] }
def k2m0 : Method := { name := "bytesToHold", desc := "(JJI)J", sig := { parameters := [.long, .long, .int], returnType := some .long }, accessFlags := 9, code := some k2c0 }
/-- com/example/runfold/runfold/table/SortSpace -/
def k2 : Class := { plain "com/example/runfold/runfold/table/SortSpace" (some 0) with
  accessFlags := 49
  interfaces := #[]
  cf := some (fileOf pool2 27 #[] #[{ accessFlags := 9, nameIndex := 41, descriptorIndex := 42, attributes := #[] }] 49 2 #[] #[{ accessFlags := 25, nameIndex := 79, descriptorIndex := 80, attributes := #[] }, { accessFlags := 25, nameIndex := 83, descriptorIndex := 80, attributes := #[] }, { accessFlags := 24, nameIndex := 85, descriptorIndex := 80, attributes := #[] }, { accessFlags := 26, nameIndex := 87, descriptorIndex := 80, attributes := #[] }, { accessFlags := 18, nameIndex := 17, descriptorIndex := 30, attributes := #[] }, { accessFlags := 18, nameIndex := 33, descriptorIndex := 34, attributes := #[] }])
  fields := #[{ name := "BYTES_PER_ROW", type := .int, accessFlags := 25, slot := 0, constantValue := 0 }, { name := "BYTES_PER_COLUMN", type := .int, accessFlags := 25, slot := 1, constantValue := 0 }, { name := "BUFFER", type := .int, accessFlags := 24, slot := 2, constantValue := 0 }, { name := "MAX_FAN_IN", type := .int, accessFlags := 26, slot := 3, constantValue := 0 }, { name := "directory", type := (.object "java/nio/file/Path"), accessFlags := 18, slot := 0, constantValue := 0 }, { name := "memoryLimit", type := .long, accessFlags := 18, slot := 1, constantValue := 0 }]
  methods := #[k2m0]
  instanceTypes := #[(.object "java/nio/file/Path"), .long]
  staticTypes := #[.int, .int, .int, .int]
  resolved := Array.replicate 116 none
  statics := none }

def pool3 : Array CpInfo := pool [(1, u "java/lang/Cloneable"), (0, .class_ 1), (0, u "java/lang/Object"), (0, .class_ 3)] 3

/-- java/lang/Cloneable -/
def k3 : Class := { plain "java/lang/Cloneable" (some 0) with
  accessFlags := 1537
  interfaces := #[]
  cf := some (fileOf pool3 2 #[] #[] 1537 4 #[] #[])
  fields := #[]
  methods := #[]
  instanceTypes := #[]
  staticTypes := #[]
  resolved := Array.replicate 8 none
  statics := none }

def pool4 : Array CpInfo := pool [(1, u "java/io/Serializable"), (0, .class_ 1), (0, u "java/lang/Object"), (0, .class_ 3)] 3

/-- java/io/Serializable -/
def k4 : Class := { plain "java/io/Serializable" (some 0) with
  accessFlags := 1537
  interfaces := #[]
  cf := some (fileOf pool4 2 #[] #[] 1537 4 #[] #[])
  fields := #[]
  methods := #[]
  instanceTypes := #[]
  staticTypes := #[]
  resolved := Array.replicate 8 none
  statics := none }

/-- the primitive byte -/
def k5 : Class := { plain "byte" none with kind := .primitive 'B', accessFlags := 0x411 }
/-- [B -/
def k6 : Class := { plain "[B" (some 0) with kind := .array 5 .byte, interfaces := #[3, 4], accessFlags := 1041 }

/-- the primitive int -/
def k7 : Class := { plain "int" none with kind := .primitive 'I', accessFlags := 0x411 }
/-- [I -/
def k8 : Class := { plain "[I" (some 0) with kind := .array 7 .int, interfaces := #[3, 4], accessFlags := 1041 }

def heap : Heap := #[]
def classes : Array Class := #[k0, k1, k2, k3, k4, k5, k6, k7, k8]
def interned : List (Array UInt16 × Addr) := []
def slotsUsed : Nat := 0
def theMethod : MethodId := ⟨1, 1⟩
def args0 : Array Value := #[.long 5, .long 7, .int 3, .long 2, .long 9]
def aboutOver (below : List Frame) : State where
  vm := { classes := classes, interned := interned.toArray }
  heap := heap
  slotsUsed := slotsUsed
  threads := #[{ frames := .invoking theMethod args0 :: below }]
def below0 : List Frame := [.native { method := ⟨0, 0⟩, args := #[] }]
def about1 : State := aboutOver below0
def p0 : Program := .bare "" "" ""
def e0 : Env := launch0.env 0 0 0
theorem w_frames : about1.frames = Frame.invoking theMethod args0 :: below0 := rfl
set_option maxRecDepth 65536 in
theorem w_args : argsFit about1.vm theMethod args0 = true := by decide +kernel
set_option maxRecDepth 65536 in
theorem w_heap : heapFits about1 = true := by decide +kernel
set_option maxRecDepth 65536 in
theorem w_runnable : about1.curStatus? = some .runnable := by decide +kernel
set_option maxRecDepth 65536 in
theorem w_alone : about1.alone = true := by decide +kernel
set_option maxRecDepth 65536 in
theorem w_named : about1.methodNamed? x = some theMethod := by decide +kernel
set_option maxRecDepth 65536 in
theorem w_hears : about1.hears theMethod below0 = true := by decide +kernel
set_option maxRecDepth 65536 in
theorem w_ripe : about1.ripe theMethod args0 below0 = true := by decide +kernel
theorem w_running : about1.status = .running := rfl
set_option maxRecDepth 65536 in
theorem w_room : about1.hasRoom e0.platform room_1 = true :=
  launch0.hasRoom_least _ room_1 (by decide +kernel) (by decide +kernel) (by decide +kernel) (by decide +kernel) (by decide +kernel) (by decide +kernel)
theorem allAtoms_all (ts : List Jvm.Cond) (a : Array Jvm.Value) (st : Jvm.State) : (allAtoms ts).before a st = ts.all (fun c => c.before a st) := by
  induction ts with
  | nil => rfl
  | cons c t ih =>
    show (Jvm.Cond.and c (allAtoms t)).before a st = _
    rw [Jvm.Cond.before_and, ih, List.all_cons]
def words1 : List Jvm.Cond := Jvm.Cond.code x code maxLocals ret :: tables_1
/-- a 'code' word, met by the world's own term for the bytes: nothing is compared byte by byte -/
theorem code_word {y : MethodName} {bytes : ByteArray} {mx : Nat} {rt : Option FieldType} {a : Array Value} {s : State} {m : MethodId} {meth : Method} {c : Code} (h1 : s.methodNamed? y = some m) (h2 : s.vm.method? m = some meth) (h3 : meth.code = some c) (h4 : c.code = bytes)
    (h5 : (c.maxLocals == mx && c.exceptionTable.isEmpty && decide (c.maxStack ≤ mostOperands) && decide (meth.sig.returnType = rt) && !meth.locks && decide (parseMethodDescriptor y.desc = some meth.sig)) = true) : (Jvm.Cond.code y bytes mx rt).before a s = true := by
  simp only [Bool.and_eq_true, beq_iff_eq, Bool.not_eq_true', decide_eq_true_eq] at h5
  obtain ⟨⟨⟨⟨⟨g1, g2⟩, g3⟩, g4⟩, g5⟩, g6⟩ := h5
  simp [Cond.before, Cond.holds, Cond.value, h1, h2, h3, h4, g1, g2, g3, g4, g5, g6]
def isCode : Jvm.Cond → Bool
  | .code _ _ _ _ => true
  | _ => false
theorem all_split {L : List Jvm.Cond} {P : Jvm.Cond → Bool} (h1 : L.all (fun c => isCode c || P c) = true) (h2 : ∀ c ∈ L.filter isCode, P c = true) : L.all P = true := by
  refine List.all_eq_true.mpr fun c hc => ?_
  have h := List.all_eq_true.mp h1 c hc
  rcases Bool.eq_false_or_eq_true (isCode c) with hi | hi
  · exact h2 c (List.mem_filter.mpr ⟨hc, hi⟩)
  · simpa [hi] using h
set_option maxRecDepth 65536 in
theorem w_c0 : (Jvm.Cond.code x code maxLocals ret).before args0 about1 = true := code_word (m := ⟨1, 1⟩) (meth := k1m1) (c := k1c1) (by decide +kernel) rfl rfl rfl (by decide +kernel)
set_option maxRecDepth 65536 in
theorem w_c1 : (Jvm.Cond.code ({ cls := "com/example/runfold/runfold/table/SortSpace", name := "bytesToHold", desc := "(JJI)J" } : Jvm.MethodName) prog_54_method_4_code (5 : Nat) (Option.some Jvm.ClassFile.FieldType.long)).before args0 about1 = true := code_word (m := ⟨2, 0⟩) (meth := k2m0) (c := k2c0) (by decide +kernel) rfl rfl rfl (by decide +kernel)
def codes1 : List Jvm.Cond := [Jvm.Cond.code x code maxLocals ret, Jvm.Cond.code ({ cls := "com/example/runfold/runfold/table/SortSpace", name := "bytesToHold", desc := "(JJI)J" } : Jvm.MethodName) prog_54_method_4_code (5 : Nat) (Option.some Jvm.ClassFile.FieldType.long)]
set_option maxRecDepth 65536 in
theorem codes_eq : words1.filter isCode = codes1 := rfl
theorem w_codes : ∀ c ∈ words1.filter isCode, c.before args0 about1 = true := by
  rw [codes_eq]
  intro c hc
  simp only [codes1, List.mem_cons, List.not_mem_nil, or_false] at hc
  rcases hc with rfl | rfl
  · exact w_c0
  · exact w_c1
set_option maxRecDepth 65536 in
theorem w_t1 : words1.all (fun c => isCode c || c.before args0 about1) = true := by decide +kernel
theorem w_tables : (allAtoms (Jvm.Cond.code x code maxLocals ret :: tables_1)).before args0 about1 = true := by
  rw [allAtoms_all]
  show words1.all (fun c => c.before args0 about1) = true
  refine all_split ?_ w_codes
  rw [w_t1]
set_option maxRecDepth 65536 in
theorem w_case : (Jvm.Cond.and given_1 narrow_1).before args0 about1 = true := by decide +kernel
theorem w_applies : (headSpec (Jvm.Cond.code x code maxLocals ret :: tables_1) room_1).applies x e0.platform about1 = true :=
  (Spec.applies_iff w_frames).mpr ⟨w_running, w_runnable, w_alone, w_named, w_hears, w_ripe, w_room, w_tables⟩
theorem atStart : AtStart classFile x code maxLocals ret World_1 tables_1 room_1 Calls_1 rest_1 Pre_1 launch0 p0 e0 about1 theMethod args0 below0 :=
  ⟨lists_1, trivial, launch0.admits_env _ _ _, launch0.least_env, fairChoices_fair.cas, fairChoices_fair.clock, w_frames, w_args, w_heap, w_applies, trivial, trivial, w_case⟩
end start1
theorem witness_1 : WitnessClaimed_1 := ⟨start1.p0, start1.e0, start1.about1, start1.theMethod, start1.args0, start1.below0, start1.atStart⟩
end Jvm.Pilot.@@N@@
