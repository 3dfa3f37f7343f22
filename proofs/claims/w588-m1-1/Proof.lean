import JvmDerived
import JvmDerived.Pilot.@@N@@Statement
import JvmDerived.Pilot.@@N@@Code
set_option linter.unusedVariables false
set_option linter.unusedSimpArgs false
namespace Jvm.Pilot.@@N@@
open Jvm Jvm.ClassFile Sem Op Lib Jvm.Free Jvm.Stand Jvm.LawKit Jvm.RoadKit Bundle Jvm.Pilot.@@N@@.Jvm.D
theorem own_w {Z : State} {a0 : Array Value} (hw : ∀ d ∈ tables_1, d.before a0 Z = true) (k : Nat) {d : Jvm.Cond} (h : tables_1[k]? = some d) : d.before a0 Z = true := hw _ (List.mem_of_getElem? h)
/-- the run from U ends, and Q says what it leaves -/
def own_Fin (p : Program) (e : Env) (below : List Frame) (s : State) (Q : Option Value → Heap → List Loc → Prop) (k n : Nat) (U : State) : Prop :=
  ∃ s₂ o, Steps p.tables e below U s₂ ∧ s₂.status = .running ∧ Ended s₂ below o ∧ ∃ v L, o = .returned v ∧ Q v s₂.heap L ∧ FrameEnd s o s₂ L k n
theorem own_Fin.step {p : Program} {e : Env} {below : List Frame} {s : State} {Q : Option Value → Heap → List Loc → Prop} {k n : Nat} {U U' : State} (st : ∀ t, Steps p.tables e below U' t → Steps p.tables e below U t) (h : own_Fin p e below s Q k n U') : own_Fin p e below s Q k n U := by
  obtain ⟨s₂, o, h1, h2⟩ := h
  exact ⟨s₂, o, st _ h1, h2⟩
/-- a contract: called with as' at the heap h, the body leaves what Q says -/
abbrev own_Met (l : Launch) (Z : State) (ws : List Jvm.Cond) (y : MethodName) (bytes : ByteArray) (maxL : Nat) (ret : Option FieldType) (rm : Room) (as' : Array Value) (h : Heap) (Q : Option Value → Heap → List Loc → Prop) : Prop :=
  MetFree l y (head1 (Jvm.Cond.code y bytes maxL ret :: ws) rm) (fun a U => a = as' ∧ Z.Warmed39 U.vm ∧ U.heap = h) (fun _ _ _ _ _ => True) (fun _ U o U' => ∃ v L, o = .returned v ∧ Q v U'.heap L ∧ FrameEnd U o U' L rm.cells rm.slots)
/-- what a body leaves that returns w and writes nothing -/
def own_QP (w : Option Value) (h0 : Heap) (n0 : Nat) (v : Option Value) (h : Heap) (L : List Loc) : Prop := v = w ∧ Fr n0 L ∧ h = h0
/-- the law's own end -/
def own_Q0 (n0 : Nat) (v : Option Value) (h : Heap) (L : List Loc) : Prop := v = some (.int 1) ∧ Fr n0 L
theorem own_enter {l : Launch} {Z : State} {ws : List Jvm.Cond} {y : MethodName} {bytes : ByteArray} {maxL : Nat} {ret : Option FieldType} {rm : Room} {as' : Array Value} {h : Heap} {Q : Option Value → Heap → List Loc → Prop} (hp : plainFor y = true)
    (body : ∀ (p : Program) (e : Env) (s : State) (m : MethodId) (below : List Frame) (meth : Method) (c : Code) (s₁ : State), Stand p l e rm s m as' below meth c s₁ [] 0 0 → p.tables.exec = Jvm.exec → c.code = bytes → c.maxLocals = maxL → s.vm.findClass y.cls = some m.cls → meth.sig.returnType = ret → meth.locks = false → meth.name = y.name → Z.Warmed39 s.vm → s₁.heap = h →
      own_Fin p e below s Q rm.cells rm.slots (s₁.setTop (entryFrame m as' maxL))) : own_Met l Z ws y bytes maxL ret rm as' h Q := by
  refine MetFree.of_bodySF hp hisR ?_
  intro p e s m args below meth c s₁ Bd hml0 hP hK
  obtain ⟨rfl, hZ, hh⟩ := hP
  exact body p e s m below meth c s₁ (Stand.of_body Bd) Bd.exec Bd.bytes hml0 (findClass_of_methodNamed Bd.named) Bd.returns (BodyLoose.notSynchronized Bd) (name_of_methodNamed Bd.named Bd.method).1 hZ (by rw [← hh, Bd.state]; rfl)
section Own
variable {p : Program} {l : Launch} {e : Env} {R : Room} {s : State} {m : MethodId} {args : Array Value} {below : List Frame} {meth : Method} {c : Code} {T : State} {locs : List Loc} {cells slots : Nat} {Z : State} {a0 : Array Value} {h : Heap} {Q : Option Value → Heap → List Loc → Prop} {k n : Nat}
theorem own_retI (X : Stand p l e R s m args below meth c T locs cells slots) (hx : p.tables.exec = Jvm.exec) (hlk : meth.locks = false) {pc : Nat} {Ls : Array Slot} {z : Int32} {rest : List Value} (hret : meth.sig.returnType = some .int) (hd : decode c.code pc = .ok (.ireturn, 1)) (hQ : Q (some (.int z)) T.heap locs) (hk : cells ≤ k) (hn : slots ≤ n) :
    own_Fin p e below s Q k n (T.setTop (mkF m pc Ls (.int z :: rest))) := by
  obtain ⟨fs, hr, hrun, hended, hW, hsame⟩ := X.leave (v := some (.int z)) (fun h => by rw [hret] at h; cases h) hlk
  refine ⟨_, _, ?_, hrun, hended, _, _, rfl, hQ, ⟨_, rfl⟩, hW, hsame.mono hk hn⟩
  have hm' : T.vm.method? m = some meth := X.method'
  have hnn : narrow .int (.int z) = .int z := rfl
  show Steps p.tables e below (T.setTop { method := m, pc := pc, locals := Ls, stack := _ :: rest, locked := none }) _
  jvm_step X.here [X.here.top, hx, hd, hm', hret, hnn]
  first | (intro acts; rw [hr _ acts rfl rfl rfl]) | rw [hr _ _ rfl rfl rfl]
  exact Steps.refl _
theorem own_retN (X : Stand p l e R s m args below meth c T locs cells slots) (hx : p.tables.exec = Jvm.exec) (hlk : meth.locks = false) {pc : Nat} {Ls : Array Slot} {z : Int32} {t : FieldType} {rest : List Value} (hret : meth.sig.returnType = some t) (ht : t = .boolean ∨ t = .byte ∨ t = .char ∨ t = .short) (hd : decode c.code pc = .ok (.ireturn, 1)) (hQ : Q (some (.int (nar t z))) T.heap locs) (hk : cells ≤ k) (hn : slots ≤ n) :
    own_Fin p e below s Q k n (T.setTop (mkF m pc Ls (.int z :: rest))) := by
  obtain ⟨fs, hr, hrun, hended, hW, hsame⟩ := X.leave (v := some (.int (nar t z))) (fun h => by rw [hret] at h; cases h) hlk
  exact ⟨_, _, retN X hx hret ht hd hr, hrun, hended, _, _, rfl, hQ, ⟨_, rfl⟩, hW, hsame.mono hk hn⟩
theorem own_retJ (X : Stand p l e R s m args below meth c T locs cells slots) (hx : p.tables.exec = Jvm.exec) (hlk : meth.locks = false) {pc : Nat} {Ls : Array Slot} {z : Int64} (hret : meth.sig.returnType = some .long) (hd : decode c.code pc = .ok (.lreturn, 1)) (hQ : Q (some (.long z)) T.heap locs) (hk : cells ≤ k) (hn : slots ≤ n) :
    own_Fin p e below s Q k n (T.setTop (mkF m pc Ls [.long z])) := by
  obtain ⟨fs, hr, hrun, hended, hW, hsame⟩ := X.leave (v := some (.long z)) (fun h => by rw [hret] at h; cases h) hlk
  exact ⟨_, _, X.lreturnOut hx hret hd hr, hrun, hended, _, _, rfl, hQ, ⟨_, rfl⟩, hW, hsame.mono hk hn⟩
theorem own_retR (X : Stand p l e R s m args below meth c T locs cells slots) (hx : p.tables.exec = Jvm.exec) (hlk : meth.locks = false) {pc : Nat} {Ls : Array Slot} {w : Value} {t : FieldType} (hw : w.isRef = true) (hret : meth.sig.returnType = some t) (ht : t.isReference = true) (hd : decode c.code pc = .ok (.areturn, 1)) (hQ : Q (some w) T.heap locs) (hk : cells ≤ k) (hn : slots ≤ n) :
    own_Fin p e below s Q k n (T.setTop (mkF m pc Ls [w])) := by
  obtain ⟨fs, hr, hrun, hended, hW, hsame⟩ := X.leave (v := some w) (fun h => by rw [hret] at h; cases h) hlk
  exact ⟨_, _, X.areturnOut hx hw hret ht hd hr, hrun, hended, _, _, rfl, hQ, ⟨_, rfl⟩, hW, hsame.mono hk hn⟩
theorem own_ret0 (X : Stand p l e R s m args below meth c T locs cells slots) (hx : p.tables.exec = Jvm.exec) (hlk : meth.locks = false) {pc : Nat} {Ls : Array Slot} (hret : meth.sig.returnType = none) (hd : decode c.code pc = .ok (.return_, 1)) (hQ : Q none T.heap locs) (hk : cells ≤ k) (hn : slots ≤ n) :
    own_Fin p e below s Q k n (T.setTop (mkF m pc Ls [])) := by
  obtain ⟨fs, hr, hrun, hended, hW, hsame⟩ := X.leave (v := none) (fun _ => rfl) hlk
  exact ⟨_, _, X.returnOut hx hret hd hr, hrun, hended, _, _, rfl, hQ, ⟨_, rfl⟩, hW, hsame.mono hk hn⟩
theorem own_lrem {tb : Tables} [Ours tb] {target : State} {g : JFrame} (h : At T m c below) (hx : tb.exec = Jvm.exec) (hg : g.method = m) {x y : Int64} {rest : List Value} (hd : decode c.code g.pc = .ok (.lrem, 1)) (hs : g.stack = .long y :: .long x :: rest) (hy : y ≠ 0)
    (hr : Steps tb e below (T.setTop { g with pc := g.pc + 1, stack := .long (x % y) :: rest }) target) : Steps tb e below (T.setTop g) target := by
  have q : x - x / y * y = x % y := lrem_mod x y
  exact XS.lrem h hx hg hd hs hy (by rw [q]; exact hr)
theorem own_callS (X : Stand p l e R s m args below meth c T locs cells slots) (hx : p.tables.exec = Jvm.exec) (hZ : Z.Warmed39 s.vm) {own : String} {index : Nat} {y : MethodName} {bytes : ByteArray} {maxL : Nat} {ret : Option FieldType} {rm : Room} {as' : Array Value}
    (hown : s.vm.findClass own = some m.cls) (w1 : (Jvm.Cond.methodLink own index y).before a0 Z = true) (w2 : (Jvm.Cond.static y).before a0 Z = true) (w3 : (Jvm.Cond.initialized y.cls).before a0 Z = true) (w4 : (Jvm.Cond.code y bytes maxL ret).before a0 Z = true)
    (hy : y.cls ≠ "java/lang/invoke/MethodHandle" ∧ y.cls ≠ "java/lang/invoke/VarHandle") (hM : own_Met l Z [] y bytes maxL ret rm as' h Q) {W : Nat} (hf : rm.frames + 1 ≤ R.frames) (hl : W + (maxL + 11) + rm.locals ≤ R.locals) (eT : T.heap = h)
    {g : JFrame} (hg : g.method = m) (hsize : g.locals.size = c.maxLocals) {argsL rest : List Value} (hlen : ∀ sig, parseMethodDescriptor y.desc = some sig → argsL.length = sig.parameters.length) (has : argsL.toArray = as') (hstack : g.stack = argsL.reverse ++ rest) (hW : 2 * g.monitorRoom + (rest.map fun v => v.category).sum ≤ W)
    (hdg : decode c.code g.pc = .ok (.invokestatic index, 3)) (hc : cells + rm.cells ≤ R.cells) (hs : slots + rm.slots ≤ R.slots) :
    ∃ v T' L, Stand p l e R s m args below meth c T' (locs ++ L) (cells + rm.cells) (slots + rm.slots) ∧ Q v T'.heap L ∧ ∀ t, Steps p.tables e below (T'.setTop { g with pc := g.pc + 3, stack := v.toList ++ rest }) t → Steps p.tables e below (T.setTop g) t := by
  obtain ⟨v, vm1, ⟨T', L', k', n'⟩, -, X', ⟨Lc, hQ, l1, y1, z1⟩, st⟩ := Jvm.LawKit.callS X hx (y := y) hown (mvT hZ w1) (mvT hZ w2) (mvT hZ w3) (mvT hZ w4) hy (backOf (W := W) hM hZ w4 w3 hf hl) (g := g) hg hsize (argsL := argsL) (rest := rest) hlen hstack hW hdg (fun _ _ => ⟨has, eT, hc, hs⟩)
  dsimp only [Pt.U, Pt.locs, Pt.cells, Pt.slots] at X' l1 y1 z1 st hQ
  subst l1 y1 z1
  exact ⟨v, T', Lc, X', hQ, st⟩
theorem own_callN (X : Stand p l e R s m args below meth c T locs cells slots) (hx : p.tables.exec = Jvm.exec) (hZ : Z.Warmed39 s.vm) {own : String} {index : Nat} {y : MethodName} {bytes : ByteArray} {maxL : Nat} {rm : Room} {as' : Array Value} (hy1 : y.name = "<init>")
    (hown : s.vm.findClass own = some m.cls) (w1 : (Jvm.Cond.methodLink own index y).before a0 Z = true) (w2 : (Jvm.Cond.instanceMethod y).before a0 Z = true) (w3 : (Jvm.Cond.initialized y.cls).before a0 Z = true) (w4 : (Jvm.Cond.code y bytes maxL none).before a0 Z = true)
    (hy : y.cls ≠ "java/lang/invoke/MethodHandle" ∧ y.cls ≠ "java/lang/invoke/VarHandle") (hM : own_Met l Z [] y bytes maxL none rm as' h Q) {W : Nat} (hf : rm.frames + 1 ≤ R.frames) (hl : W + (maxL + 11) + rm.locals ≤ R.locals) {a : Addr} (eT : T.heap = h)
    {g : JFrame} (hg : g.method = m) (hsize : g.locals.size = c.maxLocals) {argsL rest : List Value} (hlen : ∀ sig, parseMethodDescriptor y.desc = some sig → argsL.length = sig.parameters.length) (has : (.ref a :: argsL).toArray = as') (hstack : g.stack = argsL.reverse ++ .ref a :: rest) (hW : 2 * g.monitorRoom + (rest.map fun v => v.category).sum ≤ W)
    (hdg : decode c.code g.pc = .ok (.invokespecial index, 3)) (hc : cells + rm.cells ≤ R.cells) (hs : slots + rm.slots ≤ R.slots) :
    ∃ v T' L, Stand p l e R s m args below meth c T' (locs ++ L) (cells + rm.cells) (slots + rm.slots) ∧ Q v T'.heap L ∧ ∀ t, Steps p.tables e below (T'.setTop { g with pc := g.pc + 3, stack := v.toList ++ rest }) t → Steps p.tables e below (T.setTop g) t := by
  obtain ⟨v, vm1, ⟨T', L', k', n'⟩, -, X', ⟨Lc, hQ, l1, y1, z1⟩, st⟩ := X.specialBack hx (y := y) hy1 hown (mvT hZ w1) (mvT hZ w2) (mvT hZ w4) hy (backOf (W := W) hM hZ w4 w3 hf hl) (g := g) hg hsize (Steps.refl _) (a := a) (argsL := argsL) (rest := rest) hlen hstack hW hdg (fun _ _ => ⟨has, eT, hc, hs⟩)
  dsimp only [Pt.U, Pt.locs, Pt.cells, Pt.slots] at X' l1 y1 z1 st hQ
  subst l1 y1 z1
  exact ⟨v, T', Lc, X', hQ, fun t k => st.trans k⟩
theorem own_callV (X : Stand p l e R s m args below meth c T locs cells slots) (hx : p.tables.exec = Jvm.exec) (hZ : Z.Warmed39 s.vm) {own C : String} {index : Nat} {y : MethodName} {bytes : ByteArray} {maxL : Nat} {ret : Option FieldType} {rm : Room} {as' : Array Value}
    (hown : s.vm.findClass own = some m.cls) (w1 : (Jvm.Cond.methodLink own index y).before a0 Z = true) (w2 : (Jvm.Cond.declares y).before a0 Z = true) (w5 : (Jvm.Cond.selects C y y).before a0 Z = true) (w6 : (Jvm.Cond.instanceMethod y).before a0 Z = true) (w3 : (Jvm.Cond.initialized y.cls).before a0 Z = true) (w4 : (Jvm.Cond.code y bytes maxL ret).before a0 Z = true)
    (hy : y.cls ≠ "java/lang/invoke/MethodHandle" ∧ y.cls ≠ "java/lang/invoke/VarHandle") (hM : own_Met l Z [] y bytes maxL ret rm as' h Q) {W : Nat} (hf : rm.frames + 1 ≤ R.frames) (hl : W + (maxL + 11) + rm.locals ≤ R.locals) {a : Addr} (E : Exa Z h a C) (eT : T.heap = h)
    {g : JFrame} (hg : g.method = m) (hsize : g.locals.size = c.maxLocals) {argsL rest : List Value} (hlen : ∀ sig, parseMethodDescriptor y.desc = some sig → argsL.length = sig.parameters.length) (has : (.ref a :: argsL).toArray = as') (hstack : g.stack = argsL.reverse ++ .ref a :: rest) (hW : 2 * g.monitorRoom + (rest.map fun v => v.category).sum ≤ W)
    (hdg : decode c.code g.pc = .ok (.invokevirtual index, 3)) (hc : cells + rm.cells ≤ R.cells) (hs : slots + rm.slots ≤ R.slots) :
    ∃ v T' L, Stand p l e R s m args below meth c T' (locs ++ L) (cells + rm.cells) (slots + rm.slots) ∧ Q v T'.heap L ∧ ∀ t, Steps p.tables e below (T'.setTop { g with pc := g.pc + 3, stack := v.toList ++ rest }) t → Steps p.tables e below (T.setTop g) t := by
  obtain ⟨cq, kq, qa, qb, qc⟩ := isOf hZ eT E
  obtain ⟨v, vm1, ⟨T', L', k', n'⟩, -, X', ⟨Lc, hQ, l1, y1, z1⟩, st⟩ := X.virtualBack hx (y := y) (z := y) hown (mvT hZ w1) (mvT hZ w2) (notFace_of_selects (args := #[]) (mvT hZ w5)) (mvT hZ w5) (mvT hZ w6) hy (backOf (W := W) hM hZ w4 w3 hf hl) qa qc (g := g) hg hsize (Steps.refl _) (argsL := argsL) (rest := rest) hlen hstack hW hdg (fun _ _ => ⟨has, eT, hc, hs⟩)
  dsimp only [Pt.U, Pt.locs, Pt.cells, Pt.slots] at X' l1 y1 z1 st hQ
  subst l1 y1 z1
  exact ⟨v, T', Lc, X', hQ, fun t k => st.trans k⟩
theorem own_newA (X : Stand p l e R s m args below meth c T locs cells slots) (hx : p.tables.exec = Jvm.exec) (hZ : Z.Warmed39 s.vm) {aty : ArrayType} (w : (Jvm.Cond.arrayClass (newarray.typeOf aty)).before a0 Z = true) (eT : T.heap = h) {ty : FieldType} {dv : Value} (hty : newarray.typeOf aty = ty) (hdv : defaultValue ty = dv)
    {g : JFrame} (hg : g.method = m) (hd : decode c.code g.pc = .ok (.newarray aty, 2)) {n : Int32} {rest : List Value} (hs : g.stack = .int n :: rest) (hn : ¬ n < 0) {cap : Nat} (hcap : n.toNatClampNeg ≤ cap) (hb : cap * 8 ≤ 536870912) (hc : cells + 1 ≤ R.cells) (hl : slots + cap ≤ R.slots) (N : Nat) :
    ∃ T' h' k a, Stand p l e R s m args below meth c T' locs (cells + 1) (slots + cap) ∧ T'.heap = h' ∧ Ext h h' ∧ a = h.size ∧ Arv Z h' a k ty n (List.replicate N dv) dv ∧
      ∀ t, Steps p.tables e below (T'.setTop { g with pc := g.pc + 2, stack := .ref a :: rest }) t → Steps p.tables e below (T.setTop g) t := by
  subst hty hdv
  obtain ⟨T', h', k, X', e', E, A, st⟩ := newP X hx hZ w eT hg hd hs hn hcap hb hc hl
  exact ⟨T', h', k, _, X', e', E, rfl, by simpa using (Arv.new A hn).pad (pad_rep [] _ N), st⟩
theorem own_stI (X : Stand p l e R s m args below meth c T locs cells slots) (hx : p.tables.exec = Jvm.exec) (hZ : Z.Warmed39 s.vm) (eT : T.heap = h) {a : Addr} {k : ClassId} {n : Int32} {vs : List Value} {dv : Value} (F : Arv Z h a k .int n vs dv) {j x : Int32} (hj : ¬ j < 0 ∧ j < n) (i : Nat) (hi : j.toNatClampNeg = i) (hl : i < vs.length)
    {g : JFrame} (hg : g.method = m) {rest : List Value} (hs : g.stack = .int x :: .int j :: .ref a :: rest) (hd : decode c.code g.pc = .ok (.iastore, 1)) :
    ∃ T' h', Stand p l e R s m args below meth c T' (locs ++ [⟨a, j.toNatClampNeg⟩]) cells slots ∧ T'.heap = h' ∧ Arv Z h' a k .int n (vs.set i (.int x)) dv ∧ Wr h h' a j.toNatClampNeg (.int x) ∧ ∀ t, Steps p.tables e below (T'.setTop { g with pc := g.pc + 1, stack := rest }) t → Steps p.tables e below (T.setTop g) t := by
  obtain ⟨cl, A, q1, q2, q3, H, G⟩ := F
  obtain ⟨T', h', X', e', W, st⟩ := stI X hx hZ eT A (j := j) (inb_of q2 hj) hg hs hd
  exact ⟨T', h', X', e', Arv.set A q1 q2 q3 H G rfl W i hi hl, W, st⟩
theorem own_stJ (X : Stand p l e R s m args below meth c T locs cells slots) (hx : p.tables.exec = Jvm.exec) (hZ : Z.Warmed39 s.vm) (eT : T.heap = h) {a : Addr} {k : ClassId} {n : Int32} {vs : List Value} {dv : Value} (F : Arv Z h a k .long n vs dv) {j : Int32} {x : Int64} (hj : ¬ j < 0 ∧ j < n) (i : Nat) (hi : j.toNatClampNeg = i) (hl : i < vs.length)
    {g : JFrame} (hg : g.method = m) {rest : List Value} (hs : g.stack = .long x :: .int j :: .ref a :: rest) (hd : decode c.code g.pc = .ok (.lastore, 1)) :
    ∃ T' h', Stand p l e R s m args below meth c T' (locs ++ [⟨a, j.toNatClampNeg⟩]) cells slots ∧ T'.heap = h' ∧ Arv Z h' a k .long n (vs.set i (.long x)) dv ∧ Wr h h' a j.toNatClampNeg (.long x) ∧ ∀ t, Steps p.tables e below (T'.setTop { g with pc := g.pc + 1, stack := rest }) t → Steps p.tables e below (T.setTop g) t := by
  obtain ⟨cl, A, q1, q2, q3, H, G⟩ := F
  obtain ⟨T', h', X', e', W, st⟩ := stJ X hx hZ eT A (j := j) (inb_of q2 hj) hg hs hd
  exact ⟨T', h', X', e', Arv.set A q1 q2 q3 H G rfl W i hi hl, W, st⟩
theorem own_stB (X : Stand p l e R s m args below meth c T locs cells slots) (hx : p.tables.exec = Jvm.exec) (hZ : Z.Warmed39 s.vm) (eT : T.heap = h) {a : Addr} {k : ClassId} {n : Int32} {vs : List Value} {dv : Value} (F : Arv Z h a k .byte n vs dv) {j x : Int32} (hj : ¬ j < 0 ∧ j < n) (i : Nat) (hi : j.toNatClampNeg = i) (hl : i < vs.length)
    {g : JFrame} (hg : g.method = m) {rest : List Value} (hs : g.stack = .int x :: .int j :: .ref a :: rest) (hd : decode c.code g.pc = .ok (.bastore, 1)) :
    ∃ T' h', Stand p l e R s m args below meth c T' (locs ++ [⟨a, j.toNatClampNeg⟩]) cells slots ∧ T'.heap = h' ∧ Arv Z h' a k .byte n (vs.set i (.int (nar .byte x))) dv ∧ Wr h h' a j.toNatClampNeg (.int (nar .byte x)) ∧ ∀ t, Steps p.tables e below (T'.setTop { g with pc := g.pc + 1, stack := rest }) t → Steps p.tables e below (T.setTop g) t := by
  obtain ⟨cl, A, q1, q2, q3, H, G⟩ := F
  obtain ⟨T', h', X', e', W, st⟩ := stB X hx hZ eT A (j := j) (inb_of q2 hj) hg hs hd
  exact ⟨T', h', X', e', Arv.set A q1 q2 q3 H G (fits_nar_byte x) W i hi hl, W, st⟩
theorem own_nar (y : Int32) : nar .byte y.toInt8.toInt32 = y.toInt8.toInt32 := by
  show y.toInt8.toInt32.toInt8.toInt32 = _
  simp
theorem own_stBn (X : Stand p l e R s m args below meth c T locs cells slots) (hx : p.tables.exec = Jvm.exec) (hZ : Z.Warmed39 s.vm) (eT : T.heap = h) {a : Addr} {k : ClassId} {n : Int32} {vs : List Value} {dv : Value} (F : Arv Z h a k .byte n vs dv) {j x : Int32} (hj : ¬ j < 0 ∧ j < n) (i : Nat) (hi : j.toNatClampNeg = i) (hl : i < vs.length)
    {g : JFrame} (hg : g.method = m) {rest : List Value} (hs : g.stack = .int x.toInt8.toInt32 :: .int j :: .ref a :: rest) (hd : decode c.code g.pc = .ok (.bastore, 1)) :
    ∃ T' h', Stand p l e R s m args below meth c T' (locs ++ [⟨a, j.toNatClampNeg⟩]) cells slots ∧ T'.heap = h' ∧ Arv Z h' a k .byte n (vs.set i (.int x.toInt8.toInt32)) dv ∧ Wr h h' a j.toNatClampNeg (.int x.toInt8.toInt32) ∧ ∀ t, Steps p.tables e below (T'.setTop { g with pc := g.pc + 1, stack := rest }) t → Steps p.tables e below (T.setTop g) t := by
  have h := own_stB X hx hZ eT F hj i hi hl hg hs hd
  rw [own_nar] at h
  exact h
theorem own_ldI (X : Stand p l e R s m args below meth c T locs cells slots) (hx : p.tables.exec = Jvm.exec) (hZ : Z.Warmed39 s.vm) (eT : T.heap = h) {a : Addr} {k : ClassId} {n : Int32} {vs : List Value} {dv v : Value} (F : Arv Z h a k .int n vs dv) {j : Int32} (hj : ¬ j < 0 ∧ j < n) (hv : vs.getD j.toNatClampNeg dv = v)
    {g : JFrame} (hg : g.method = m) {rest : List Value} (hs : g.stack = .int j :: .ref a :: rest) (hd : decode c.code g.pc = .ok (.iaload, 1)) :
    ∀ t, Steps p.tables e below (T.setTop { g with pc := g.pc + 1, stack := v :: rest }) t → Steps p.tables e below (T.setTop g) t := by
  obtain ⟨cl, A, q1, q2, q3, H, G⟩ := F
  have hin := inb_of q2 hj
  exact fun t kt => X.iaload hx (j := j) (v := v) (by rw [eT]; exact A.1) (State.isArrayOf_alike hZ.alike A.2.1) A.2.2 hin (H.at hin hv) hg hs hd _ kt
theorem own_ldJ (X : Stand p l e R s m args below meth c T locs cells slots) (hx : p.tables.exec = Jvm.exec) (hZ : Z.Warmed39 s.vm) (eT : T.heap = h) {a : Addr} {k : ClassId} {n : Int32} {vs : List Value} {dv v : Value} (F : Arv Z h a k .long n vs dv) {j : Int32} (hj : ¬ j < 0 ∧ j < n) (hv : vs.getD j.toNatClampNeg dv = v)
    {g : JFrame} (hg : g.method = m) {rest : List Value} (hs : g.stack = .int j :: .ref a :: rest) (hd : decode c.code g.pc = .ok (.laload, 1)) :
    ∀ t, Steps p.tables e below (T.setTop { g with pc := g.pc + 1, stack := v :: rest }) t → Steps p.tables e below (T.setTop g) t := by
  obtain ⟨cl, A, q1, q2, q3, H, G⟩ := F
  have hin := inb_of q2 hj
  exact fun t kt => X.laload hx (j := j) (v := v) (by rw [eT]; exact A.1) (State.isArrayOf_alike hZ.alike A.2.1) A.2.2 hin (H.at hin hv) hg hs hd _ kt
theorem own_ldB (X : Stand p l e R s m args below meth c T locs cells slots) (hx : p.tables.exec = Jvm.exec) (hZ : Z.Warmed39 s.vm) (eT : T.heap = h) {a : Addr} {k : ClassId} {n : Int32} {vs : List Value} {dv v : Value} (F : Arv Z h a k .byte n vs dv) {j : Int32} (hj : ¬ j < 0 ∧ j < n) (hv : vs.getD j.toNatClampNeg dv = v)
    {g : JFrame} (hg : g.method = m) {rest : List Value} (hs : g.stack = .int j :: .ref a :: rest) (hd : decode c.code g.pc = .ok (.baload, 1)) :
    ∀ t, Steps p.tables e below (T.setTop { g with pc := g.pc + 1, stack := v :: rest }) t → Steps p.tables e below (T.setTop g) t := by
  obtain ⟨cl, A, q1, q2, q3, H, G⟩ := F
  have hin := inb_of q2 hj
  exact fun t kt => X.baloadBytes hx (j := j) (v := v) (by rw [eT]; exact A.1) (State.isArrayOf_alike hZ.alike A.2.1) A.2.2 hin (H.at hin hv) hg hs hd _ kt
theorem own_len (X : Stand p l e R s m args below meth c T locs cells slots) (hx : p.tables.exec = Jvm.exec) (hZ : Z.Warmed39 s.vm) (eT : T.heap = h) {a : Addr} {k : ClassId} {ty : FieldType} {n : Int32} {vs : List Value} {dv : Value} (F : Arv Z h a k ty n vs dv)
    {g : JFrame} (hg : g.method = m) {rest : List Value} (hs : g.stack = .ref a :: rest) (hd : decode c.code g.pc = .ok (.arraylength, 1)) :
    ∀ t, Steps p.tables e below (T.setTop { g with pc := g.pc + 1, stack := .int n :: rest }) t → Steps p.tables e below (T.setTop g) t := by
  obtain ⟨cl, A, q1, q2, q3, H, G⟩ := F
  exact fun t kt => X.arraylength hx (by rw [eT]; exact A.1) (State.isArrayOf_alike hZ.alike A.2.1) hg hs hd _ (by rw [len_of q2 q3]; exact kt)
end Own
def own_ok (x : Int32) : Prop := (x &&& 224 = 192 ∧ ¬ x &&& 30 = 0) ∨ x &&& 240 = 224 ∨ x &&& 248 = 240
instance (x : Int32) : Decidable (own_ok x) := inferInstanceAs (Decidable (_ ∨ _))
def own_seq (x : Int32) : Int32 := if x &&& 224 = 192 ∧ ¬ x &&& 30 = 0 then 2 else if x &&& 240 = 224 then 3 else 4
def own_want (u : Int32) : Int32 := if 223 < u then (if 239 < u then 4 else 3) else 2
theorem own_in : ∀ k : Fin 54, (own_ok (Int32.ofNat (194 + k.val)) ∧ own_ok (Int32.ofNat (194 + k.val)).toInt8.toInt32) ∧ own_seq (Int32.ofNat (194 + k.val)) = own_want (Int32.ofNat (194 + k.val)) ∧ own_seq (Int32.ofNat (194 + k.val)).toInt8.toInt32 = own_want (Int32.ofNat (194 + k.val)) := by decide +kernel
theorem own_u (x : Int32) : (own_ok ((194 : Int32) + ((x &&& 2147483647) % 54)) ∧ own_ok ((194 : Int32) + ((x &&& 2147483647) % 54)).toInt8.toInt32) ∧ own_seq ((194 : Int32) + ((x &&& 2147483647) % 54)) = own_want ((194 : Int32) + ((x &&& 2147483647) % 54)) ∧ own_seq ((194 : Int32) + ((x &&& 2147483647) % 54)).toInt8.toInt32 = own_want ((194 : Int32) + ((x &&& 2147483647) % 54)) := by
  have h1 := c_mask x 2147483647 31 (by omega) (by decide)
  have h2 := (c_irem (x &&& 2147483647) 54 54 (by decide)).1
  have h3 := c_iadd 194 ((x &&& 2147483647) % 54)
  have q : (194 : Int32).toInt = 194 := by decide
  generalize (x &&& 2147483647) % 54 = z at *
  generalize x &&& 2147483647 = y at *
  have r := rng32 ((194 : Int32) + z)
  have hy : 0 ≤ y.toInt := by rw [h1]; exact Int.emod_nonneg _ (by decide)
  have h2 := h2 hy
  have hz : z.toInt = y.toInt % 54 := h2
  have e : (194 : Int32) + z = Int32.ofNat (194 + (((194 : Int32) + z).toInt - 194).toNat) := by
    apply Int32.toInt_inj.mp
    rw [Int32.toInt_ofNat_of_lt (by omega)]; omega
  have hlt : (((194 : Int32) + z).toInt - 194).toNat < 54 := by omega
  have := own_in ⟨_, hlt⟩
  rw [← e] at this; exact this
theorem d1_0 : decode prog_7_method_5_code 0 = .ok (.iload_n 0, 1) := by decide +kernel
theorem d1_1 : decode prog_7_method_5_code 1 = .ok (.sipush 224, 3) := by decide +kernel
theorem d1_4 : decode prog_7_method_5_code 4 = .ok (.iand, 1) := by decide +kernel
theorem d1_5 : decode prog_7_method_5_code 5 = .ok (.sipush 192, 3) := by decide +kernel
theorem d1_8 : decode prog_7_method_5_code 8 = .ok (.if_icmp .ne 12, 3) := by decide +kernel
theorem d1_11 : decode prog_7_method_5_code 11 = .ok (.iload_n 0, 1) := by decide +kernel
theorem d1_12 : decode prog_7_method_5_code 12 = .ok (.bipush 30, 2) := by decide +kernel
theorem d1_14 : decode prog_7_method_5_code 14 = .ok (.iand, 1) := by decide +kernel
theorem d1_15 : decode prog_7_method_5_code 15 = .ok (.ifCond .eq 5, 3) := by decide +kernel
theorem d1_18 : decode prog_7_method_5_code 18 = .ok (.iconst 2, 1) := by decide +kernel
theorem d1_19 : decode prog_7_method_5_code 19 = .ok (.ireturn, 1) := by decide +kernel
theorem d1_20 : decode prog_7_method_5_code 20 = .ok (.iload_n 0, 1) := by decide +kernel
theorem d1_21 : decode prog_7_method_5_code 21 = .ok (.sipush 240, 3) := by decide +kernel
theorem d1_24 : decode prog_7_method_5_code 24 = .ok (.iand, 1) := by decide +kernel
theorem d1_25 : decode prog_7_method_5_code 25 = .ok (.sipush 224, 3) := by decide +kernel
theorem d1_28 : decode prog_7_method_5_code 28 = .ok (.if_icmp .ne 5, 3) := by decide +kernel
theorem d1_31 : decode prog_7_method_5_code 31 = .ok (.iconst 3, 1) := by decide +kernel
theorem d1_32 : decode prog_7_method_5_code 32 = .ok (.ireturn, 1) := by decide +kernel
theorem d1_33 : decode prog_7_method_5_code 33 = .ok (.iload_n 0, 1) := by decide +kernel
theorem d1_34 : decode prog_7_method_5_code 34 = .ok (.sipush 248, 3) := by decide +kernel
theorem d1_37 : decode prog_7_method_5_code 37 = .ok (.iand, 1) := by decide +kernel
theorem d1_38 : decode prog_7_method_5_code 38 = .ok (.sipush 240, 3) := by decide +kernel
theorem d1_41 : decode prog_7_method_5_code 41 = .ok (.if_icmp .ne 5, 3) := by decide +kernel
theorem d1_44 : decode prog_7_method_5_code 44 = .ok (.iconst 4, 1) := by decide +kernel
theorem d1_45 : decode prog_7_method_5_code 45 = .ok (.ireturn, 1) := by decide +kernel
theorem d1_46 : decode prog_7_method_5_code 46 = .ok (.new 48, 3) := by decide +kernel
theorem d1_49 : decode prog_7_method_5_code 49 = .ok (.dup, 1) := by decide +kernel
theorem d1_50 : decode prog_7_method_5_code 50 = .ok (.iconst 1, 1) := by decide +kernel
theorem d1_51 : decode prog_7_method_5_code 51 = .ok (.invokespecial 50, 3) := by decide +kernel
theorem d1_54 : decode prog_7_method_5_code 54 = .ok (.athrow, 1) := by decide +kernel
theorem pn_1 : plainFor (⟨"com/example/amphion/amphion/Utf8Reader", "sequenceLength", "(I)I"⟩ : MethodName) = true := plainFor_of_name (by first | (simp [plainName, overriddenIn]; done) | decide +kernel)
theorem ef_1 (m : MethodId) (x0 : Int32) : entryFrame m #[(.int x0)] 1 = mkF m 0 #[.val (.int x0)] [] := by first | (simp [entryFrame, mkF, argsToLocals, Value.category]; done) | rfl
set_option maxRecDepth 65536 in
set_option maxHeartbeats 40000000 in
theorem rm1 (l : Launch) (Z : State) (a0 : Array Value) (hw : ∀ d ∈ tables_1, d.before a0 Z = true) (p1 : Int32)  (h0 : Heap) (n0 : Nat) (Z0 : n0 ≤ h0.size) (H : own_ok p1) :
    own_Met l Z [] (⟨"com/example/amphion/amphion/Utf8Reader", "sequenceLength", "(I)I"⟩ : MethodName) prog_7_method_5_code 1 (some .int) ({ frames := 0, cells := 0, slots := 0, locals := 0 } : Room) #[(.int p1)] h0 (own_QP (some (.int (own_seq p1))) h0 n0) := by
  refine own_enter pn_1 ?_
  intro p e s m below meth c s₁ X0 hx hby hml hown hret hlk hnm hZ e0
  have hml : c.maxLocals = 1 := hml
  have N0 := Fr.nil n0
  rw [ef_1 m p1]
  show own_Fin p e below s _ _ _ (s₁.setTop (mkF m 0 #[.val (.int p1)] []))
  refine own_Fin.step (fun _ => XS.iloadN X0.here hx rfl (hb hby d1_0) rfl) ?_
  show own_Fin p e below s _ _ _ (s₁.setTop (mkF m 1 #[.val (.int p1)] [(.int p1)]))
  refine own_Fin.step (fun _ => XS.sipush X0.here hx rfl (hb hby d1_1)) ?_
  show own_Fin p e below s _ _ _ (s₁.setTop (mkF m 4 #[.val (.int p1)] [(.int (224 : Int32)), (.int p1)]))
  refine own_Fin.step (fun _ => XS.iand X0.here hx rfl (hb hby d1_4) rfl) ?_
  show own_Fin p e below s _ _ _ (s₁.setTop (mkF m 5 #[.val (.int p1)] [(.int (p1 &&& (224 : Int32)))]))
  refine own_Fin.step (fun _ => XS.sipush X0.here hx rfl (hb hby d1_5)) ?_
  show own_Fin p e below s _ _ _ (s₁.setTop (mkF m 8 #[.val (.int p1)] [(.int (192 : Int32)), (.int (p1 &&& (224 : Int32)))]))
  by_cases hc8_1 : (p1 &&& (224 : Int32)) = (192 : Int32)
  ·
    refine own_Fin.step (fun _ => XS.icmpNo X0.here hx rfl (hb hby d1_8) rfl (XT.ii_ne_f hc8_1)) ?_
    show own_Fin p e below s _ _ _ (s₁.setTop (mkF m 11 #[.val (.int p1)] []))
    refine own_Fin.step (fun _ => XS.iloadN X0.here hx rfl (hb hby d1_11) rfl) ?_
    show own_Fin p e below s _ _ _ (s₁.setTop (mkF m 12 #[.val (.int p1)] [(.int p1)]))
    refine own_Fin.step (fun _ => XS.bipush X0.here hx rfl (hb hby d1_12)) ?_
    show own_Fin p e below s _ _ _ (s₁.setTop (mkF m 14 #[.val (.int p1)] [(.int (30 : Int32)), (.int p1)]))
    refine own_Fin.step (fun _ => XS.iand X0.here hx rfl (hb hby d1_14) rfl) ?_
    show own_Fin p e below s _ _ _ (s₁.setTop (mkF m 15 #[.val (.int p1)] [(.int (p1 &&& (30 : Int32)))]))
    by_cases hc15_2 : (p1 &&& (30 : Int32)) = (0 : Int32)
    ·
      refine own_Fin.step (fun _ => XS.ifYes X0.here hx rfl (pc0 := 15) (pc' := 20) rfl (hb hby d1_15) rfl (XT.i0_eq_t hc15_2) (by decide) (by decide)) ?_
      show own_Fin p e below s _ _ _ (s₁.setTop (mkF m 20 #[.val (.int p1)] []))
      refine own_Fin.step (fun _ => XS.iloadN X0.here hx rfl (hb hby d1_20) rfl) ?_
      show own_Fin p e below s _ _ _ (s₁.setTop (mkF m 21 #[.val (.int p1)] [(.int p1)]))
      refine own_Fin.step (fun _ => XS.sipush X0.here hx rfl (hb hby d1_21)) ?_
      show own_Fin p e below s _ _ _ (s₁.setTop (mkF m 24 #[.val (.int p1)] [(.int (240 : Int32)), (.int p1)]))
      refine own_Fin.step (fun _ => XS.iand X0.here hx rfl (hb hby d1_24) rfl) ?_
      show own_Fin p e below s _ _ _ (s₁.setTop (mkF m 25 #[.val (.int p1)] [(.int (p1 &&& (240 : Int32)))]))
      refine own_Fin.step (fun _ => XS.sipush X0.here hx rfl (hb hby d1_25)) ?_
      show own_Fin p e below s _ _ _ (s₁.setTop (mkF m 28 #[.val (.int p1)] [(.int (224 : Int32)), (.int (p1 &&& (240 : Int32)))]))
      by_cases hc28_3 : (p1 &&& (240 : Int32)) = (224 : Int32)
      ·
        refine own_Fin.step (fun _ => XS.icmpNo X0.here hx rfl (hb hby d1_28) rfl (XT.ii_ne_f hc28_3)) ?_
        show own_Fin p e below s _ _ _ (s₁.setTop (mkF m 31 #[.val (.int p1)] []))
        refine own_Fin.step (fun _ => XS.iconst X0.here hx rfl (hb hby d1_31)) ?_
        show own_Fin p e below s _ _ _ (s₁.setTop (mkF m 32 #[.val (.int p1)] [(.int (3 : Int32))]))
        exact own_retI X0 hx hlk hret (hb hby d1_32) ⟨by rw [show own_seq p1 = (3 : Int32) by simp [own_seq, hc8_1, hc15_2, hc28_3]], N0, e0⟩ (by decide) (by decide)
      ·
        refine own_Fin.step (fun _ => XS.icmpYes X0.here hx rfl (pc0 := 28) (pc' := 33) rfl (hb hby d1_28) rfl (XT.ii_ne_t hc28_3) (by decide) (by decide)) ?_
        show own_Fin p e below s _ _ _ (s₁.setTop (mkF m 33 #[.val (.int p1)] []))
        refine own_Fin.step (fun _ => XS.iloadN X0.here hx rfl (hb hby d1_33) rfl) ?_
        show own_Fin p e below s _ _ _ (s₁.setTop (mkF m 34 #[.val (.int p1)] [(.int p1)]))
        refine own_Fin.step (fun _ => XS.sipush X0.here hx rfl (hb hby d1_34)) ?_
        show own_Fin p e below s _ _ _ (s₁.setTop (mkF m 37 #[.val (.int p1)] [(.int (248 : Int32)), (.int p1)]))
        refine own_Fin.step (fun _ => XS.iand X0.here hx rfl (hb hby d1_37) rfl) ?_
        show own_Fin p e below s _ _ _ (s₁.setTop (mkF m 38 #[.val (.int p1)] [(.int (p1 &&& (248 : Int32)))]))
        refine own_Fin.step (fun _ => XS.sipush X0.here hx rfl (hb hby d1_38)) ?_
        show own_Fin p e below s _ _ _ (s₁.setTop (mkF m 41 #[.val (.int p1)] [(.int (240 : Int32)), (.int (p1 &&& (248 : Int32)))]))
        refine own_Fin.step (fun _ => XS.icmpNo X0.here hx rfl (hb hby d1_41) rfl (XT.ii_ne_f (by rcases H with ⟨ha, hb⟩ | ha | ha <;> first | exact ha | (exfalso; simp_all)))) ?_
        show own_Fin p e below s _ _ _ (s₁.setTop (mkF m 44 #[.val (.int p1)] []))
        refine own_Fin.step (fun _ => XS.iconst X0.here hx rfl (hb hby d1_44)) ?_
        show own_Fin p e below s _ _ _ (s₁.setTop (mkF m 45 #[.val (.int p1)] [(.int (4 : Int32))]))
        exact own_retI X0 hx hlk hret (hb hby d1_45) ⟨by rw [show own_seq p1 = (4 : Int32) by simp [own_seq, hc8_1, hc15_2, hc28_3]], N0, e0⟩ (by decide) (by decide)
    ·
      refine own_Fin.step (fun _ => XS.ifNo X0.here hx rfl (hb hby d1_15) rfl (XT.i0_eq_f hc15_2)) ?_
      show own_Fin p e below s _ _ _ (s₁.setTop (mkF m 18 #[.val (.int p1)] []))
      refine own_Fin.step (fun _ => XS.iconst X0.here hx rfl (hb hby d1_18)) ?_
      show own_Fin p e below s _ _ _ (s₁.setTop (mkF m 19 #[.val (.int p1)] [(.int (2 : Int32))]))
      exact own_retI X0 hx hlk hret (hb hby d1_19) ⟨by rw [show own_seq p1 = (2 : Int32) by simp [own_seq, hc8_1, hc15_2]], N0, e0⟩ (by decide) (by decide)
  ·
    refine own_Fin.step (fun _ => XS.icmpYes X0.here hx rfl (pc0 := 8) (pc' := 20) rfl (hb hby d1_8) rfl (XT.ii_ne_t hc8_1) (by decide) (by decide)) ?_
    show own_Fin p e below s _ _ _ (s₁.setTop (mkF m 20 #[.val (.int p1)] []))
    refine own_Fin.step (fun _ => XS.iloadN X0.here hx rfl (hb hby d1_20) rfl) ?_
    show own_Fin p e below s _ _ _ (s₁.setTop (mkF m 21 #[.val (.int p1)] [(.int p1)]))
    refine own_Fin.step (fun _ => XS.sipush X0.here hx rfl (hb hby d1_21)) ?_
    show own_Fin p e below s _ _ _ (s₁.setTop (mkF m 24 #[.val (.int p1)] [(.int (240 : Int32)), (.int p1)]))
    refine own_Fin.step (fun _ => XS.iand X0.here hx rfl (hb hby d1_24) rfl) ?_
    show own_Fin p e below s _ _ _ (s₁.setTop (mkF m 25 #[.val (.int p1)] [(.int (p1 &&& (240 : Int32)))]))
    refine own_Fin.step (fun _ => XS.sipush X0.here hx rfl (hb hby d1_25)) ?_
    show own_Fin p e below s _ _ _ (s₁.setTop (mkF m 28 #[.val (.int p1)] [(.int (224 : Int32)), (.int (p1 &&& (240 : Int32)))]))
    by_cases hc28_4 : (p1 &&& (240 : Int32)) = (224 : Int32)
    ·
      refine own_Fin.step (fun _ => XS.icmpNo X0.here hx rfl (hb hby d1_28) rfl (XT.ii_ne_f hc28_4)) ?_
      show own_Fin p e below s _ _ _ (s₁.setTop (mkF m 31 #[.val (.int p1)] []))
      refine own_Fin.step (fun _ => XS.iconst X0.here hx rfl (hb hby d1_31)) ?_
      show own_Fin p e below s _ _ _ (s₁.setTop (mkF m 32 #[.val (.int p1)] [(.int (3 : Int32))]))
      exact own_retI X0 hx hlk hret (hb hby d1_32) ⟨by rw [show own_seq p1 = (3 : Int32) by simp [own_seq, hc8_1, hc28_4]], N0, e0⟩ (by decide) (by decide)
    ·
      refine own_Fin.step (fun _ => XS.icmpYes X0.here hx rfl (pc0 := 28) (pc' := 33) rfl (hb hby d1_28) rfl (XT.ii_ne_t hc28_4) (by decide) (by decide)) ?_
      show own_Fin p e below s _ _ _ (s₁.setTop (mkF m 33 #[.val (.int p1)] []))
      refine own_Fin.step (fun _ => XS.iloadN X0.here hx rfl (hb hby d1_33) rfl) ?_
      show own_Fin p e below s _ _ _ (s₁.setTop (mkF m 34 #[.val (.int p1)] [(.int p1)]))
      refine own_Fin.step (fun _ => XS.sipush X0.here hx rfl (hb hby d1_34)) ?_
      show own_Fin p e below s _ _ _ (s₁.setTop (mkF m 37 #[.val (.int p1)] [(.int (248 : Int32)), (.int p1)]))
      refine own_Fin.step (fun _ => XS.iand X0.here hx rfl (hb hby d1_37) rfl) ?_
      show own_Fin p e below s _ _ _ (s₁.setTop (mkF m 38 #[.val (.int p1)] [(.int (p1 &&& (248 : Int32)))]))
      refine own_Fin.step (fun _ => XS.sipush X0.here hx rfl (hb hby d1_38)) ?_
      show own_Fin p e below s _ _ _ (s₁.setTop (mkF m 41 #[.val (.int p1)] [(.int (240 : Int32)), (.int (p1 &&& (248 : Int32)))]))
      refine own_Fin.step (fun _ => XS.icmpNo X0.here hx rfl (hb hby d1_41) rfl (XT.ii_ne_f (by rcases H with ⟨ha, hb⟩ | ha | ha <;> first | exact ha | (exfalso; simp_all)))) ?_
      show own_Fin p e below s _ _ _ (s₁.setTop (mkF m 44 #[.val (.int p1)] []))
      refine own_Fin.step (fun _ => XS.iconst X0.here hx rfl (hb hby d1_44)) ?_
      show own_Fin p e below s _ _ _ (s₁.setTop (mkF m 45 #[.val (.int p1)] [(.int (4 : Int32))]))
      exact own_retI X0 hx hlk hret (hb hby d1_45) ⟨by rw [show own_seq p1 = (4 : Int32) by simp [own_seq, hc8_1, hc28_4]], N0, e0⟩ (by decide) (by decide)
theorem pn_0 : plainFor (⟨"com/example/amphion/amphion/Utf8ReaderSequenceLengthPinLaw", "law", "(II)Z"⟩ : MethodName) = true := plainFor_of_name (by first | (simp [plainName, overriddenIn]; done) | decide +kernel)
theorem ef_0 (m : MethodId) (x0 : Int32) (x1 : Int32) : entryFrame m #[(.int x0), (.int x1)] maxLocals = mkF m 0 #[.val (.int x0), .val (.int x1), .unset, .unset, .unset] [] := by first | (simp [entryFrame, mkF, argsToLocals, Value.category, maxLocals]; done) | rfl
theorem pd_0 : parseMethodDescriptor "(I)I" = some ⟨[.int], some .int⟩ := by decide +kernel
set_option maxRecDepth 65536 in
set_option maxHeartbeats 40000000 in
theorem rm0 (l : Launch) (Z : State) (a0 : Array Value) (hw : ∀ d ∈ tables_1, d.before a0 Z = true) (p1 : Int32) (p2 : Int32)  (h0 : Heap) (n0 : Nat) (Z0 : n0 ≤ h0.size)  :
    own_Met l Z tables_1 x code maxLocals ret room_1 #[(.int p1), (.int p2)] h0 (own_Q0 n0) := by
  refine own_enter pn_0 ?_
  intro p e s m below meth c s₁ X0 hx hby hml hown hret hlk hnm hZ e0
  have hml : c.maxLocals = 5 := hml
  have N0 := Fr.nil n0
  rw [ef_0 m p1 p2]
  show own_Fin p e below s _ _ _ (s₁.setTop (mkF m 0 #[.val (.int p1), .val (.int p2), .unset, .unset, .unset] []))
  refine own_Fin.step (fun _ => XS.sipush X0.here hx rfl (hb hby at_0)) ?_
  show own_Fin p e below s _ _ _ (s₁.setTop (mkF m 3 #[.val (.int p1), .val (.int p2), .unset, .unset, .unset] [(.int (194 : Int32))]))
  refine own_Fin.step (fun _ => XS.iloadN X0.here hx rfl (hb hby at_3) rfl) ?_
  show own_Fin p e below s _ _ _ (s₁.setTop (mkF m 4 #[.val (.int p1), .val (.int p2), .unset, .unset, .unset] [(.int p1), (.int (194 : Int32))]))
  refine own_Fin.step (X0.ldcInt hx hown (mvT hZ (own_w hw 0 rfl)) (g := (mkF m 4 #[.val (.int p1), .val (.int p2), .unset, .unset, .unset] [(.int p1), (.int (194 : Int32))])) rfl (hb hby at_4)) ?_
  show own_Fin p e below s _ _ _ (s₁.setTop (mkF m 6 #[.val (.int p1), .val (.int p2), .unset, .unset, .unset] [(.int (2147483647 : Int32)), (.int p1), (.int (194 : Int32))]))
  refine own_Fin.step (fun _ => XS.iand X0.here hx rfl (hb hby at_6) rfl) ?_
  show own_Fin p e below s _ _ _ (s₁.setTop (mkF m 7 #[.val (.int p1), .val (.int p2), .unset, .unset, .unset] [(.int (p1 &&& (2147483647 : Int32))), (.int (194 : Int32))]))
  refine own_Fin.step (fun _ => XS.bipush X0.here hx rfl (hb hby at_7)) ?_
  show own_Fin p e below s _ _ _ (s₁.setTop (mkF m 9 #[.val (.int p1), .val (.int p2), .unset, .unset, .unset] [(.int (54 : Int32)), (.int (p1 &&& (2147483647 : Int32))), (.int (194 : Int32))]))
  refine own_Fin.step (fun _ => Jvm.RoadKit.iremM X0 hx rfl (hb hby at_9) rfl (by decide)) ?_
  show own_Fin p e below s _ _ _ (s₁.setTop (mkF m 10 #[.val (.int p1), .val (.int p2), .unset, .unset, .unset] [(.int ((p1 &&& (2147483647 : Int32)) % (54 : Int32))), (.int (194 : Int32))]))
  refine own_Fin.step (fun _ => XS.iadd X0.here hx rfl (hb hby at_10) rfl) ?_
  show own_Fin p e below s _ _ _ (s₁.setTop (mkF m 11 #[.val (.int p1), .val (.int p2), .unset, .unset, .unset] [(.int ((194 : Int32) + ((p1 &&& (2147483647 : Int32)) % (54 : Int32))))]))
  generalize hu : ((194 : Int32) + ((p1 &&& (2147483647 : Int32)) % (54 : Int32))) = u
  refine own_Fin.step (fun _ => XS.istoreN X0.here hx rfl (hb hby at_11) rfl (l' := #[.val (.int p1), .val (.int p2), .val (.int u), .unset, .unset]) rfl) ?_
  show own_Fin p e below s _ _ _ (s₁.setTop (mkF m 12 #[.val (.int p1), .val (.int p2), .val (.int u), .unset, .unset] []))
  refine own_Fin.step (fun _ => XS.iloadN X0.here hx rfl (hb hby at_12) rfl) ?_
  show own_Fin p e below s _ _ _ (s₁.setTop (mkF m 13 #[.val (.int p1), .val (.int p2), .val (.int u), .unset, .unset] [(.int p2)]))
  refine own_Fin.step (fun _ => XS.iconst X0.here hx rfl (hb hby at_13)) ?_
  show own_Fin p e below s _ _ _ (s₁.setTop (mkF m 14 #[.val (.int p1), .val (.int p2), .val (.int u), .unset, .unset] [(.int (1 : Int32)), (.int p2)]))
  refine own_Fin.step (fun _ => XS.iand X0.here hx rfl (hb hby at_14) rfl) ?_
  show own_Fin p e below s _ _ _ (s₁.setTop (mkF m 15 #[.val (.int p1), .val (.int p2), .val (.int u), .unset, .unset] [(.int (p2 &&& (1 : Int32)))]))
  by_cases hc15_1 : (p2 &&& (1 : Int32)) = (0 : Int32)
  ·
    refine own_Fin.step (fun _ => XS.ifYes X0.here hx rfl (pc0 := 15) (pc' := 23) rfl (hb hby at_15) rfl (XT.i0_eq_t hc15_1) (by decide) (by decide)) ?_
    show own_Fin p e below s _ _ _ (s₁.setTop (mkF m 23 #[.val (.int p1), .val (.int p2), .val (.int u), .unset, .unset] []))
    refine own_Fin.step (fun _ => XS.iloadN X0.here hx rfl (hb hby at_23) rfl) ?_
    show own_Fin p e below s _ _ _ (s₁.setTop (mkF m 24 #[.val (.int p1), .val (.int p2), .val (.int u), .unset, .unset] [(.int u)]))
    refine own_Fin.step (fun _ => XS.istoreN X0.here hx rfl (hb hby at_24) rfl (l' := #[.val (.int p1), .val (.int p2), .val (.int u), .val (.int u), .unset]) rfl) ?_
    show own_Fin p e below s _ _ _ (s₁.setTop (mkF m 25 #[.val (.int p1), .val (.int p2), .val (.int u), .val (.int u), .unset] []))
    refine own_Fin.step (fun _ => XS.iloadN X0.here hx rfl (hb hby at_25) rfl) ?_
    show own_Fin p e below s _ _ _ (s₁.setTop (mkF m 26 #[.val (.int p1), .val (.int p2), .val (.int u), .val (.int u), .unset] [(.int u)]))
    refine own_Fin.step (fun _ => XS.sipush X0.here hx rfl (hb hby at_26)) ?_
    show own_Fin p e below s _ _ _ (s₁.setTop (mkF m 29 #[.val (.int p1), .val (.int p2), .val (.int u), .val (.int u), .unset] [(.int (223 : Int32)), (.int u)]))
    by_cases hc29_2 : (223 : Int32) < u
    ·
      refine own_Fin.step (fun _ => XS.icmpYes X0.here hx rfl (pc0 := 29) (pc' := 38) rfl (hb hby at_29) rfl (XT.ii_gt_t hc29_2) (by decide) (by decide)) ?_
      show own_Fin p e below s _ _ _ (s₁.setTop (mkF m 38 #[.val (.int p1), .val (.int p2), .val (.int u), .val (.int u), .unset] []))
      refine own_Fin.step (fun _ => XS.iloadN X0.here hx rfl (hb hby at_38) rfl) ?_
      show own_Fin p e below s _ _ _ (s₁.setTop (mkF m 39 #[.val (.int p1), .val (.int p2), .val (.int u), .val (.int u), .unset] [(.int u)]))
      refine own_Fin.step (fun _ => XS.sipush X0.here hx rfl (hb hby at_39)) ?_
      show own_Fin p e below s _ _ _ (s₁.setTop (mkF m 42 #[.val (.int p1), .val (.int p2), .val (.int u), .val (.int u), .unset] [(.int (239 : Int32)), (.int u)]))
      by_cases hc42_3 : (239 : Int32) < u
      ·
        refine own_Fin.step (fun _ => XS.icmpYes X0.here hx rfl (pc0 := 42) (pc' := 51) rfl (hb hby at_42) rfl (XT.ii_gt_t hc42_3) (by decide) (by decide)) ?_
        show own_Fin p e below s _ _ _ (s₁.setTop (mkF m 51 #[.val (.int p1), .val (.int p2), .val (.int u), .val (.int u), .unset] []))
        refine own_Fin.step (fun _ => XS.iconst X0.here hx rfl (hb hby at_51)) ?_
        show own_Fin p e below s _ _ _ (s₁.setTop (mkF m 52 #[.val (.int p1), .val (.int p2), .val (.int u), .val (.int u), .unset] [(.int (4 : Int32))]))
        refine own_Fin.step (fun _ => XS.istore X0.here hx rfl (hb hby at_52) rfl (l' := #[.val (.int p1), .val (.int p2), .val (.int u), .val (.int u), .val (.int (4 : Int32))]) rfl) ?_
        show own_Fin p e below s _ _ _ (s₁.setTop (mkF m 54 #[.val (.int p1), .val (.int p2), .val (.int u), .val (.int u), .val (.int (4 : Int32))] []))
        refine own_Fin.step (fun _ => XS.iloadN X0.here hx rfl (hb hby at_54) rfl) ?_
        show own_Fin p e below s _ _ _ (s₁.setTop (mkF m 55 #[.val (.int p1), .val (.int p2), .val (.int u), .val (.int u), .val (.int (4 : Int32))] [(.int u)]))
        obtain ⟨_, T4, L4, X4, ⟨rfl, N4q, e4⟩, st4⟩ := own_callS X0 hx hZ hown (own_w hw 1 rfl) (own_w hw 2 rfl) (own_w hw 3 rfl) (own_w hw 4 rfl) (by decide) (rm1 l Z a0 hw u h0 n0 Z0 (hu ▸ (own_u p1).1.1)) (by decide) (by decide) e0 (W := 0) (g := (mkF m 55 #[.val (.int p1), .val (.int p2), .val (.int u), .val (.int u), .val (.int (4 : Int32))] [(.int u)])) rfl (by rw [hml]; rfl) (argsL := [(.int u)]) (rest := []) (lenOf pd_0 rfl) rfl rfl (by show 2 * 0 + _ ≤ _; exact Nat.le_of_eq rfl) (hb hby at_55) (by decide) (by decide)
        have N4 := Fr.app N0 N4q
        refine own_Fin.step st4 ?_
        show own_Fin p e below s _ _ _ (T4.setTop (mkF m 58 #[.val (.int p1), .val (.int p2), .val (.int u), .val (.int u), .val (.int (4 : Int32))] [(.int (own_seq u))]))
        refine own_Fin.step (fun _ => XS.iload X4.here hx rfl (hb hby at_58) rfl) ?_
        show own_Fin p e below s _ _ _ (T4.setTop (mkF m 60 #[.val (.int p1), .val (.int p2), .val (.int u), .val (.int u), .val (.int (4 : Int32))] [(.int (4 : Int32)), (.int (own_seq u))]))
        refine own_Fin.step (fun _ => XS.icmpNo X4.here hx rfl (hb hby at_60) rfl (XT.ii_ne_f (by rw [show own_seq u = own_want u from hu ▸ (own_u p1).2.1]; simp [own_want, hc29_2, hc42_3]))) ?_
        show own_Fin p e below s _ _ _ (T4.setTop (mkF m 63 #[.val (.int p1), .val (.int p2), .val (.int u), .val (.int u), .val (.int (4 : Int32))] []))
        refine own_Fin.step (fun _ => XS.iconst X4.here hx rfl (hb hby at_63)) ?_
        show own_Fin p e below s _ _ _ (T4.setTop (mkF m 64 #[.val (.int p1), .val (.int p2), .val (.int u), .val (.int u), .val (.int (4 : Int32))] [(.int (1 : Int32))]))
        refine own_Fin.step (fun _ => XS.goto X4.here hx rfl (pc0 := 64) (pc' := 68) rfl (hb hby at_64) (by decide) (by decide)) ?_
        show own_Fin p e below s _ _ _ (T4.setTop (mkF m 68 #[.val (.int p1), .val (.int p2), .val (.int u), .val (.int u), .val (.int (4 : Int32))] [(.int (1 : Int32))]))
        exact own_retN X4 hx hlk (t := .boolean) hret (by simp) (hb hby at_68) ⟨rfl, N4⟩ (by decide) (by decide)
      ·
        refine own_Fin.step (fun _ => XS.icmpNo X0.here hx rfl (hb hby at_42) rfl (XT.ii_gt_f hc42_3)) ?_
        show own_Fin p e below s _ _ _ (s₁.setTop (mkF m 45 #[.val (.int p1), .val (.int p2), .val (.int u), .val (.int u), .unset] []))
        refine own_Fin.step (fun _ => XS.iconst X0.here hx rfl (hb hby at_45)) ?_
        show own_Fin p e below s _ _ _ (s₁.setTop (mkF m 46 #[.val (.int p1), .val (.int p2), .val (.int u), .val (.int u), .unset] [(.int (3 : Int32))]))
        refine own_Fin.step (fun _ => XS.istore X0.here hx rfl (hb hby at_46) rfl (l' := #[.val (.int p1), .val (.int p2), .val (.int u), .val (.int u), .val (.int (3 : Int32))]) rfl) ?_
        show own_Fin p e below s _ _ _ (s₁.setTop (mkF m 48 #[.val (.int p1), .val (.int p2), .val (.int u), .val (.int u), .val (.int (3 : Int32))] []))
        refine own_Fin.step (fun _ => XS.goto X0.here hx rfl (pc0 := 48) (pc' := 54) rfl (hb hby at_48) (by decide) (by decide)) ?_
        show own_Fin p e below s _ _ _ (s₁.setTop (mkF m 54 #[.val (.int p1), .val (.int p2), .val (.int u), .val (.int u), .val (.int (3 : Int32))] []))
        refine own_Fin.step (fun _ => XS.iloadN X0.here hx rfl (hb hby at_54) rfl) ?_
        show own_Fin p e below s _ _ _ (s₁.setTop (mkF m 55 #[.val (.int p1), .val (.int p2), .val (.int u), .val (.int u), .val (.int (3 : Int32))] [(.int u)]))
        obtain ⟨_, T5, L5, X5, ⟨rfl, N5q, e5⟩, st5⟩ := own_callS X0 hx hZ hown (own_w hw 1 rfl) (own_w hw 2 rfl) (own_w hw 3 rfl) (own_w hw 4 rfl) (by decide) (rm1 l Z a0 hw u h0 n0 Z0 (hu ▸ (own_u p1).1.1)) (by decide) (by decide) e0 (W := 0) (g := (mkF m 55 #[.val (.int p1), .val (.int p2), .val (.int u), .val (.int u), .val (.int (3 : Int32))] [(.int u)])) rfl (by rw [hml]; rfl) (argsL := [(.int u)]) (rest := []) (lenOf pd_0 rfl) rfl rfl (by show 2 * 0 + _ ≤ _; exact Nat.le_of_eq rfl) (hb hby at_55) (by decide) (by decide)
        have N5 := Fr.app N0 N5q
        refine own_Fin.step st5 ?_
        show own_Fin p e below s _ _ _ (T5.setTop (mkF m 58 #[.val (.int p1), .val (.int p2), .val (.int u), .val (.int u), .val (.int (3 : Int32))] [(.int (own_seq u))]))
        refine own_Fin.step (fun _ => XS.iload X5.here hx rfl (hb hby at_58) rfl) ?_
        show own_Fin p e below s _ _ _ (T5.setTop (mkF m 60 #[.val (.int p1), .val (.int p2), .val (.int u), .val (.int u), .val (.int (3 : Int32))] [(.int (3 : Int32)), (.int (own_seq u))]))
        refine own_Fin.step (fun _ => XS.icmpNo X5.here hx rfl (hb hby at_60) rfl (XT.ii_ne_f (by rw [show own_seq u = own_want u from hu ▸ (own_u p1).2.1]; simp [own_want, hc29_2, hc42_3]))) ?_
        show own_Fin p e below s _ _ _ (T5.setTop (mkF m 63 #[.val (.int p1), .val (.int p2), .val (.int u), .val (.int u), .val (.int (3 : Int32))] []))
        refine own_Fin.step (fun _ => XS.iconst X5.here hx rfl (hb hby at_63)) ?_
        show own_Fin p e below s _ _ _ (T5.setTop (mkF m 64 #[.val (.int p1), .val (.int p2), .val (.int u), .val (.int u), .val (.int (3 : Int32))] [(.int (1 : Int32))]))
        refine own_Fin.step (fun _ => XS.goto X5.here hx rfl (pc0 := 64) (pc' := 68) rfl (hb hby at_64) (by decide) (by decide)) ?_
        show own_Fin p e below s _ _ _ (T5.setTop (mkF m 68 #[.val (.int p1), .val (.int p2), .val (.int u), .val (.int u), .val (.int (3 : Int32))] [(.int (1 : Int32))]))
        exact own_retN X5 hx hlk (t := .boolean) hret (by simp) (hb hby at_68) ⟨rfl, N5⟩ (by decide) (by decide)
    ·
      refine own_Fin.step (fun _ => XS.icmpNo X0.here hx rfl (hb hby at_29) rfl (XT.ii_gt_f hc29_2)) ?_
      show own_Fin p e below s _ _ _ (s₁.setTop (mkF m 32 #[.val (.int p1), .val (.int p2), .val (.int u), .val (.int u), .unset] []))
      refine own_Fin.step (fun _ => XS.iconst X0.here hx rfl (hb hby at_32)) ?_
      show own_Fin p e below s _ _ _ (s₁.setTop (mkF m 33 #[.val (.int p1), .val (.int p2), .val (.int u), .val (.int u), .unset] [(.int (2 : Int32))]))
      refine own_Fin.step (fun _ => XS.istore X0.here hx rfl (hb hby at_33) rfl (l' := #[.val (.int p1), .val (.int p2), .val (.int u), .val (.int u), .val (.int (2 : Int32))]) rfl) ?_
      show own_Fin p e below s _ _ _ (s₁.setTop (mkF m 35 #[.val (.int p1), .val (.int p2), .val (.int u), .val (.int u), .val (.int (2 : Int32))] []))
      refine own_Fin.step (fun _ => XS.goto X0.here hx rfl (pc0 := 35) (pc' := 54) rfl (hb hby at_35) (by decide) (by decide)) ?_
      show own_Fin p e below s _ _ _ (s₁.setTop (mkF m 54 #[.val (.int p1), .val (.int p2), .val (.int u), .val (.int u), .val (.int (2 : Int32))] []))
      refine own_Fin.step (fun _ => XS.iloadN X0.here hx rfl (hb hby at_54) rfl) ?_
      show own_Fin p e below s _ _ _ (s₁.setTop (mkF m 55 #[.val (.int p1), .val (.int p2), .val (.int u), .val (.int u), .val (.int (2 : Int32))] [(.int u)]))
      obtain ⟨_, T6, L6, X6, ⟨rfl, N6q, e6⟩, st6⟩ := own_callS X0 hx hZ hown (own_w hw 1 rfl) (own_w hw 2 rfl) (own_w hw 3 rfl) (own_w hw 4 rfl) (by decide) (rm1 l Z a0 hw u h0 n0 Z0 (hu ▸ (own_u p1).1.1)) (by decide) (by decide) e0 (W := 0) (g := (mkF m 55 #[.val (.int p1), .val (.int p2), .val (.int u), .val (.int u), .val (.int (2 : Int32))] [(.int u)])) rfl (by rw [hml]; rfl) (argsL := [(.int u)]) (rest := []) (lenOf pd_0 rfl) rfl rfl (by show 2 * 0 + _ ≤ _; exact Nat.le_of_eq rfl) (hb hby at_55) (by decide) (by decide)
      have N6 := Fr.app N0 N6q
      refine own_Fin.step st6 ?_
      show own_Fin p e below s _ _ _ (T6.setTop (mkF m 58 #[.val (.int p1), .val (.int p2), .val (.int u), .val (.int u), .val (.int (2 : Int32))] [(.int (own_seq u))]))
      refine own_Fin.step (fun _ => XS.iload X6.here hx rfl (hb hby at_58) rfl) ?_
      show own_Fin p e below s _ _ _ (T6.setTop (mkF m 60 #[.val (.int p1), .val (.int p2), .val (.int u), .val (.int u), .val (.int (2 : Int32))] [(.int (2 : Int32)), (.int (own_seq u))]))
      refine own_Fin.step (fun _ => XS.icmpNo X6.here hx rfl (hb hby at_60) rfl (XT.ii_ne_f (by rw [show own_seq u = own_want u from hu ▸ (own_u p1).2.1]; simp [own_want, hc29_2]))) ?_
      show own_Fin p e below s _ _ _ (T6.setTop (mkF m 63 #[.val (.int p1), .val (.int p2), .val (.int u), .val (.int u), .val (.int (2 : Int32))] []))
      refine own_Fin.step (fun _ => XS.iconst X6.here hx rfl (hb hby at_63)) ?_
      show own_Fin p e below s _ _ _ (T6.setTop (mkF m 64 #[.val (.int p1), .val (.int p2), .val (.int u), .val (.int u), .val (.int (2 : Int32))] [(.int (1 : Int32))]))
      refine own_Fin.step (fun _ => XS.goto X6.here hx rfl (pc0 := 64) (pc' := 68) rfl (hb hby at_64) (by decide) (by decide)) ?_
      show own_Fin p e below s _ _ _ (T6.setTop (mkF m 68 #[.val (.int p1), .val (.int p2), .val (.int u), .val (.int u), .val (.int (2 : Int32))] [(.int (1 : Int32))]))
      exact own_retN X6 hx hlk (t := .boolean) hret (by simp) (hb hby at_68) ⟨rfl, N6⟩ (by decide) (by decide)
  ·
    refine own_Fin.step (fun _ => XS.ifNo X0.here hx rfl (hb hby at_15) rfl (XT.i0_eq_f hc15_1)) ?_
    show own_Fin p e below s _ _ _ (s₁.setTop (mkF m 18 #[.val (.int p1), .val (.int p2), .val (.int u), .unset, .unset] []))
    refine own_Fin.step (fun _ => XS.iloadN X0.here hx rfl (hb hby at_18) rfl) ?_
    show own_Fin p e below s _ _ _ (s₁.setTop (mkF m 19 #[.val (.int p1), .val (.int p2), .val (.int u), .unset, .unset] [(.int u)]))
    refine own_Fin.step (fun _ => XS.i2b X0.here hx rfl (hb hby at_19) rfl) ?_
    show own_Fin p e below s _ _ _ (s₁.setTop (mkF m 20 #[.val (.int p1), .val (.int p2), .val (.int u), .unset, .unset] [(.int (u.toInt8.toInt32))]))
    refine own_Fin.step (fun _ => XS.goto X0.here hx rfl (pc0 := 20) (pc' := 24) rfl (hb hby at_20) (by decide) (by decide)) ?_
    show own_Fin p e below s _ _ _ (s₁.setTop (mkF m 24 #[.val (.int p1), .val (.int p2), .val (.int u), .unset, .unset] [(.int (u.toInt8.toInt32))]))
    refine own_Fin.step (fun _ => XS.istoreN X0.here hx rfl (hb hby at_24) rfl (l' := #[.val (.int p1), .val (.int p2), .val (.int u), .val (.int (u.toInt8.toInt32)), .unset]) rfl) ?_
    show own_Fin p e below s _ _ _ (s₁.setTop (mkF m 25 #[.val (.int p1), .val (.int p2), .val (.int u), .val (.int (u.toInt8.toInt32)), .unset] []))
    refine own_Fin.step (fun _ => XS.iloadN X0.here hx rfl (hb hby at_25) rfl) ?_
    show own_Fin p e below s _ _ _ (s₁.setTop (mkF m 26 #[.val (.int p1), .val (.int p2), .val (.int u), .val (.int (u.toInt8.toInt32)), .unset] [(.int u)]))
    refine own_Fin.step (fun _ => XS.sipush X0.here hx rfl (hb hby at_26)) ?_
    show own_Fin p e below s _ _ _ (s₁.setTop (mkF m 29 #[.val (.int p1), .val (.int p2), .val (.int u), .val (.int (u.toInt8.toInt32)), .unset] [(.int (223 : Int32)), (.int u)]))
    by_cases hc29_7 : (223 : Int32) < u
    ·
      refine own_Fin.step (fun _ => XS.icmpYes X0.here hx rfl (pc0 := 29) (pc' := 38) rfl (hb hby at_29) rfl (XT.ii_gt_t hc29_7) (by decide) (by decide)) ?_
      show own_Fin p e below s _ _ _ (s₁.setTop (mkF m 38 #[.val (.int p1), .val (.int p2), .val (.int u), .val (.int (u.toInt8.toInt32)), .unset] []))
      refine own_Fin.step (fun _ => XS.iloadN X0.here hx rfl (hb hby at_38) rfl) ?_
      show own_Fin p e below s _ _ _ (s₁.setTop (mkF m 39 #[.val (.int p1), .val (.int p2), .val (.int u), .val (.int (u.toInt8.toInt32)), .unset] [(.int u)]))
      refine own_Fin.step (fun _ => XS.sipush X0.here hx rfl (hb hby at_39)) ?_
      show own_Fin p e below s _ _ _ (s₁.setTop (mkF m 42 #[.val (.int p1), .val (.int p2), .val (.int u), .val (.int (u.toInt8.toInt32)), .unset] [(.int (239 : Int32)), (.int u)]))
      by_cases hc42_8 : (239 : Int32) < u
      ·
        refine own_Fin.step (fun _ => XS.icmpYes X0.here hx rfl (pc0 := 42) (pc' := 51) rfl (hb hby at_42) rfl (XT.ii_gt_t hc42_8) (by decide) (by decide)) ?_
        show own_Fin p e below s _ _ _ (s₁.setTop (mkF m 51 #[.val (.int p1), .val (.int p2), .val (.int u), .val (.int (u.toInt8.toInt32)), .unset] []))
        refine own_Fin.step (fun _ => XS.iconst X0.here hx rfl (hb hby at_51)) ?_
        show own_Fin p e below s _ _ _ (s₁.setTop (mkF m 52 #[.val (.int p1), .val (.int p2), .val (.int u), .val (.int (u.toInt8.toInt32)), .unset] [(.int (4 : Int32))]))
        refine own_Fin.step (fun _ => XS.istore X0.here hx rfl (hb hby at_52) rfl (l' := #[.val (.int p1), .val (.int p2), .val (.int u), .val (.int (u.toInt8.toInt32)), .val (.int (4 : Int32))]) rfl) ?_
        show own_Fin p e below s _ _ _ (s₁.setTop (mkF m 54 #[.val (.int p1), .val (.int p2), .val (.int u), .val (.int (u.toInt8.toInt32)), .val (.int (4 : Int32))] []))
        refine own_Fin.step (fun _ => XS.iloadN X0.here hx rfl (hb hby at_54) rfl) ?_
        show own_Fin p e below s _ _ _ (s₁.setTop (mkF m 55 #[.val (.int p1), .val (.int p2), .val (.int u), .val (.int (u.toInt8.toInt32)), .val (.int (4 : Int32))] [(.int (u.toInt8.toInt32))]))
        obtain ⟨_, T9, L9, X9, ⟨rfl, N9q, e9⟩, st9⟩ := own_callS X0 hx hZ hown (own_w hw 1 rfl) (own_w hw 2 rfl) (own_w hw 3 rfl) (own_w hw 4 rfl) (by decide) (rm1 l Z a0 hw (u.toInt8.toInt32) h0 n0 Z0 (hu ▸ (own_u p1).1.2)) (by decide) (by decide) e0 (W := 0) (g := (mkF m 55 #[.val (.int p1), .val (.int p2), .val (.int u), .val (.int (u.toInt8.toInt32)), .val (.int (4 : Int32))] [(.int (u.toInt8.toInt32))])) rfl (by rw [hml]; rfl) (argsL := [(.int (u.toInt8.toInt32))]) (rest := []) (lenOf pd_0 rfl) rfl rfl (by show 2 * 0 + _ ≤ _; exact Nat.le_of_eq rfl) (hb hby at_55) (by decide) (by decide)
        have N9 := Fr.app N0 N9q
        refine own_Fin.step st9 ?_
        show own_Fin p e below s _ _ _ (T9.setTop (mkF m 58 #[.val (.int p1), .val (.int p2), .val (.int u), .val (.int (u.toInt8.toInt32)), .val (.int (4 : Int32))] [(.int (own_seq (u.toInt8.toInt32)))]))
        refine own_Fin.step (fun _ => XS.iload X9.here hx rfl (hb hby at_58) rfl) ?_
        show own_Fin p e below s _ _ _ (T9.setTop (mkF m 60 #[.val (.int p1), .val (.int p2), .val (.int u), .val (.int (u.toInt8.toInt32)), .val (.int (4 : Int32))] [(.int (4 : Int32)), (.int (own_seq (u.toInt8.toInt32)))]))
        refine own_Fin.step (fun _ => XS.icmpNo X9.here hx rfl (hb hby at_60) rfl (XT.ii_ne_f (by rw [show own_seq (u.toInt8.toInt32) = own_want u from hu ▸ (own_u p1).2.2]; simp [own_want, hc29_7, hc42_8]))) ?_
        show own_Fin p e below s _ _ _ (T9.setTop (mkF m 63 #[.val (.int p1), .val (.int p2), .val (.int u), .val (.int (u.toInt8.toInt32)), .val (.int (4 : Int32))] []))
        refine own_Fin.step (fun _ => XS.iconst X9.here hx rfl (hb hby at_63)) ?_
        show own_Fin p e below s _ _ _ (T9.setTop (mkF m 64 #[.val (.int p1), .val (.int p2), .val (.int u), .val (.int (u.toInt8.toInt32)), .val (.int (4 : Int32))] [(.int (1 : Int32))]))
        refine own_Fin.step (fun _ => XS.goto X9.here hx rfl (pc0 := 64) (pc' := 68) rfl (hb hby at_64) (by decide) (by decide)) ?_
        show own_Fin p e below s _ _ _ (T9.setTop (mkF m 68 #[.val (.int p1), .val (.int p2), .val (.int u), .val (.int (u.toInt8.toInt32)), .val (.int (4 : Int32))] [(.int (1 : Int32))]))
        exact own_retN X9 hx hlk (t := .boolean) hret (by simp) (hb hby at_68) ⟨rfl, N9⟩ (by decide) (by decide)
      ·
        refine own_Fin.step (fun _ => XS.icmpNo X0.here hx rfl (hb hby at_42) rfl (XT.ii_gt_f hc42_8)) ?_
        show own_Fin p e below s _ _ _ (s₁.setTop (mkF m 45 #[.val (.int p1), .val (.int p2), .val (.int u), .val (.int (u.toInt8.toInt32)), .unset] []))
        refine own_Fin.step (fun _ => XS.iconst X0.here hx rfl (hb hby at_45)) ?_
        show own_Fin p e below s _ _ _ (s₁.setTop (mkF m 46 #[.val (.int p1), .val (.int p2), .val (.int u), .val (.int (u.toInt8.toInt32)), .unset] [(.int (3 : Int32))]))
        refine own_Fin.step (fun _ => XS.istore X0.here hx rfl (hb hby at_46) rfl (l' := #[.val (.int p1), .val (.int p2), .val (.int u), .val (.int (u.toInt8.toInt32)), .val (.int (3 : Int32))]) rfl) ?_
        show own_Fin p e below s _ _ _ (s₁.setTop (mkF m 48 #[.val (.int p1), .val (.int p2), .val (.int u), .val (.int (u.toInt8.toInt32)), .val (.int (3 : Int32))] []))
        refine own_Fin.step (fun _ => XS.goto X0.here hx rfl (pc0 := 48) (pc' := 54) rfl (hb hby at_48) (by decide) (by decide)) ?_
        show own_Fin p e below s _ _ _ (s₁.setTop (mkF m 54 #[.val (.int p1), .val (.int p2), .val (.int u), .val (.int (u.toInt8.toInt32)), .val (.int (3 : Int32))] []))
        refine own_Fin.step (fun _ => XS.iloadN X0.here hx rfl (hb hby at_54) rfl) ?_
        show own_Fin p e below s _ _ _ (s₁.setTop (mkF m 55 #[.val (.int p1), .val (.int p2), .val (.int u), .val (.int (u.toInt8.toInt32)), .val (.int (3 : Int32))] [(.int (u.toInt8.toInt32))]))
        obtain ⟨_, T10, L10, X10, ⟨rfl, N10q, e10⟩, st10⟩ := own_callS X0 hx hZ hown (own_w hw 1 rfl) (own_w hw 2 rfl) (own_w hw 3 rfl) (own_w hw 4 rfl) (by decide) (rm1 l Z a0 hw (u.toInt8.toInt32) h0 n0 Z0 (hu ▸ (own_u p1).1.2)) (by decide) (by decide) e0 (W := 0) (g := (mkF m 55 #[.val (.int p1), .val (.int p2), .val (.int u), .val (.int (u.toInt8.toInt32)), .val (.int (3 : Int32))] [(.int (u.toInt8.toInt32))])) rfl (by rw [hml]; rfl) (argsL := [(.int (u.toInt8.toInt32))]) (rest := []) (lenOf pd_0 rfl) rfl rfl (by show 2 * 0 + _ ≤ _; exact Nat.le_of_eq rfl) (hb hby at_55) (by decide) (by decide)
        have N10 := Fr.app N0 N10q
        refine own_Fin.step st10 ?_
        show own_Fin p e below s _ _ _ (T10.setTop (mkF m 58 #[.val (.int p1), .val (.int p2), .val (.int u), .val (.int (u.toInt8.toInt32)), .val (.int (3 : Int32))] [(.int (own_seq (u.toInt8.toInt32)))]))
        refine own_Fin.step (fun _ => XS.iload X10.here hx rfl (hb hby at_58) rfl) ?_
        show own_Fin p e below s _ _ _ (T10.setTop (mkF m 60 #[.val (.int p1), .val (.int p2), .val (.int u), .val (.int (u.toInt8.toInt32)), .val (.int (3 : Int32))] [(.int (3 : Int32)), (.int (own_seq (u.toInt8.toInt32)))]))
        refine own_Fin.step (fun _ => XS.icmpNo X10.here hx rfl (hb hby at_60) rfl (XT.ii_ne_f (by rw [show own_seq (u.toInt8.toInt32) = own_want u from hu ▸ (own_u p1).2.2]; simp [own_want, hc29_7, hc42_8]))) ?_
        show own_Fin p e below s _ _ _ (T10.setTop (mkF m 63 #[.val (.int p1), .val (.int p2), .val (.int u), .val (.int (u.toInt8.toInt32)), .val (.int (3 : Int32))] []))
        refine own_Fin.step (fun _ => XS.iconst X10.here hx rfl (hb hby at_63)) ?_
        show own_Fin p e below s _ _ _ (T10.setTop (mkF m 64 #[.val (.int p1), .val (.int p2), .val (.int u), .val (.int (u.toInt8.toInt32)), .val (.int (3 : Int32))] [(.int (1 : Int32))]))
        refine own_Fin.step (fun _ => XS.goto X10.here hx rfl (pc0 := 64) (pc' := 68) rfl (hb hby at_64) (by decide) (by decide)) ?_
        show own_Fin p e below s _ _ _ (T10.setTop (mkF m 68 #[.val (.int p1), .val (.int p2), .val (.int u), .val (.int (u.toInt8.toInt32)), .val (.int (3 : Int32))] [(.int (1 : Int32))]))
        exact own_retN X10 hx hlk (t := .boolean) hret (by simp) (hb hby at_68) ⟨rfl, N10⟩ (by decide) (by decide)
    ·
      refine own_Fin.step (fun _ => XS.icmpNo X0.here hx rfl (hb hby at_29) rfl (XT.ii_gt_f hc29_7)) ?_
      show own_Fin p e below s _ _ _ (s₁.setTop (mkF m 32 #[.val (.int p1), .val (.int p2), .val (.int u), .val (.int (u.toInt8.toInt32)), .unset] []))
      refine own_Fin.step (fun _ => XS.iconst X0.here hx rfl (hb hby at_32)) ?_
      show own_Fin p e below s _ _ _ (s₁.setTop (mkF m 33 #[.val (.int p1), .val (.int p2), .val (.int u), .val (.int (u.toInt8.toInt32)), .unset] [(.int (2 : Int32))]))
      refine own_Fin.step (fun _ => XS.istore X0.here hx rfl (hb hby at_33) rfl (l' := #[.val (.int p1), .val (.int p2), .val (.int u), .val (.int (u.toInt8.toInt32)), .val (.int (2 : Int32))]) rfl) ?_
      show own_Fin p e below s _ _ _ (s₁.setTop (mkF m 35 #[.val (.int p1), .val (.int p2), .val (.int u), .val (.int (u.toInt8.toInt32)), .val (.int (2 : Int32))] []))
      refine own_Fin.step (fun _ => XS.goto X0.here hx rfl (pc0 := 35) (pc' := 54) rfl (hb hby at_35) (by decide) (by decide)) ?_
      show own_Fin p e below s _ _ _ (s₁.setTop (mkF m 54 #[.val (.int p1), .val (.int p2), .val (.int u), .val (.int (u.toInt8.toInt32)), .val (.int (2 : Int32))] []))
      refine own_Fin.step (fun _ => XS.iloadN X0.here hx rfl (hb hby at_54) rfl) ?_
      show own_Fin p e below s _ _ _ (s₁.setTop (mkF m 55 #[.val (.int p1), .val (.int p2), .val (.int u), .val (.int (u.toInt8.toInt32)), .val (.int (2 : Int32))] [(.int (u.toInt8.toInt32))]))
      obtain ⟨_, T11, L11, X11, ⟨rfl, N11q, e11⟩, st11⟩ := own_callS X0 hx hZ hown (own_w hw 1 rfl) (own_w hw 2 rfl) (own_w hw 3 rfl) (own_w hw 4 rfl) (by decide) (rm1 l Z a0 hw (u.toInt8.toInt32) h0 n0 Z0 (hu ▸ (own_u p1).1.2)) (by decide) (by decide) e0 (W := 0) (g := (mkF m 55 #[.val (.int p1), .val (.int p2), .val (.int u), .val (.int (u.toInt8.toInt32)), .val (.int (2 : Int32))] [(.int (u.toInt8.toInt32))])) rfl (by rw [hml]; rfl) (argsL := [(.int (u.toInt8.toInt32))]) (rest := []) (lenOf pd_0 rfl) rfl rfl (by show 2 * 0 + _ ≤ _; exact Nat.le_of_eq rfl) (hb hby at_55) (by decide) (by decide)
      have N11 := Fr.app N0 N11q
      refine own_Fin.step st11 ?_
      show own_Fin p e below s _ _ _ (T11.setTop (mkF m 58 #[.val (.int p1), .val (.int p2), .val (.int u), .val (.int (u.toInt8.toInt32)), .val (.int (2 : Int32))] [(.int (own_seq (u.toInt8.toInt32)))]))
      refine own_Fin.step (fun _ => XS.iload X11.here hx rfl (hb hby at_58) rfl) ?_
      show own_Fin p e below s _ _ _ (T11.setTop (mkF m 60 #[.val (.int p1), .val (.int p2), .val (.int u), .val (.int (u.toInt8.toInt32)), .val (.int (2 : Int32))] [(.int (2 : Int32)), (.int (own_seq (u.toInt8.toInt32)))]))
      refine own_Fin.step (fun _ => XS.icmpNo X11.here hx rfl (hb hby at_60) rfl (XT.ii_ne_f (by rw [show own_seq (u.toInt8.toInt32) = own_want u from hu ▸ (own_u p1).2.2]; simp [own_want, hc29_7]))) ?_
      show own_Fin p e below s _ _ _ (T11.setTop (mkF m 63 #[.val (.int p1), .val (.int p2), .val (.int u), .val (.int (u.toInt8.toInt32)), .val (.int (2 : Int32))] []))
      refine own_Fin.step (fun _ => XS.iconst X11.here hx rfl (hb hby at_63)) ?_
      show own_Fin p e below s _ _ _ (T11.setTop (mkF m 64 #[.val (.int p1), .val (.int p2), .val (.int u), .val (.int (u.toInt8.toInt32)), .val (.int (2 : Int32))] [(.int (1 : Int32))]))
      refine own_Fin.step (fun _ => XS.goto X11.here hx rfl (pc0 := 64) (pc' := 68) rfl (hb hby at_64) (by decide) (by decide)) ?_
      show own_Fin p e below s _ _ _ (T11.setTop (mkF m 68 #[.val (.int p1), .val (.int p2), .val (.int u), .val (.int (u.toInt8.toInt32)), .val (.int (2 : Int32))] [(.int (1 : Int32))]))
      exact own_retN X11 hx hlk (t := .boolean) hret (by simp) (hb hby at_68) ⟨rfl, N11⟩ (by decide) (by decide)
set_option maxRecDepth 65536 in
set_option maxHeartbeats 40000000 in
theorem comes_1 {Post : Tables → Env → Array Value → State → Outcome → State → Prop} (hpost : ∀ tb e args s v u, (limb_1_1.after args s (.returned v) u = true ∧ limb_1_2.after args s (.returned v) u = true ∧ True) → FrameEnd s (.returned v) u (Jvm.fieldLocs frame_1_writes args s ++ Jvm.arrayLocs frame_1_arrays args s ++ Jvm.staticLocs frame_1_statics s) 0 0 → Post tb e args s (.returned v) u) :
    ArmFor flags0 classFile x code maxLocals ret World_1 tables_1 room_1 Calls_1 rest_1 Pre_1 Post := by
  intro l hfl _ _ p e ha hc hk s m args below hf hA hF happ hP
  obtain ⟨hcalls, hrest, hpre⟩ := hP
  obtain ⟨-, -, -, hnamed, -, -, -, hat⟩ := (Spec.applies_iff hf).mp happ
  obtain ⟨hg, hn⟩ := and_e (Cond.before_iff.mp (show (Jvm.Cond.and given_1 narrow_1).before args s = true from hpre))
  obtain ⟨hcount, g0⟩ := and_e hg
  obtain ⟨a0, g1⟩ := and_e g0
  have a1 := g1
  obtain ⟨w0, w1, rfl⟩ : ∃ w0 w1 : Value, args = #[w0, w1] := by
    have hs : args.size = 2 := by simpa [Cond.value, given_1] using hcount
    obtain ⟨L⟩ := args
    match L, hs with
    | [w0, w1], _ => exact ⟨w0, w1, rfl⟩
  have hw := fun d (hd : d ∈ tables_1) => atoms_spec (ws := Jvm.Cond.code x code maxLocals ret :: tables_1) hat d (List.mem_cons_of_mem _ hd)
  obtain ⟨i0, ei0⟩ := is_v a0
  obtain rfl : w0 = (.int i0) := Option.some.inj ei0
  obtain ⟨i1, ei1⟩ := is_v a1
  obtain rfl : w1 = (.int i1) := Option.some.inj ei1
  obtain ⟨n, o, h1, h2, h3, _, L, rfl, ⟨rfl, N⟩, hq⟩ := rm0 l s _ hw i0 i1 s.heap s.heap.size (Nat.le_refl _)  p e ha hc hk s m _ below hf ((Spec.applies_iff_loose hf).mp happ).1 ⟨rfl, State.Warmed39.refl s, rfl⟩ trivial
  refine ⟨n, _, h1, h2, h3, hpost _ _ _ _ _ _ ⟨Cond.after_iff.mpr rfl, Cond.after_iff.mpr (eq_i res_at (Term.int_eval (1)) rfl), trivial⟩ ⟨hq.1, hq.2.1, (hq.2.2.sift fun y hy => Or.inr (N y hy)).mono (by decide) (by decide)⟩⟩
theorem main_1_1 : Claimed_1_1 := comes_1 fun _ _ _ _ _ _ h hF => ⟨h.1, hF⟩
theorem main_1_2 : Claimed_1_2 := comes_1 fun _ _ _ _ _ _ h hF => ⟨h.2.1, hF⟩
end Jvm.Pilot.@@N@@
namespace Jvm.Pilot.@@N@@
open Jvm Jvm.ClassFile Sem Op Lib Jvm.Free Jvm.Stand Jvm.Pilot.@@N@@.Jvm.D
/-! MADE BY PROGRAM (witnessworld.py) out of the Statement's table words and the real class files: 13 classes; the members and pool entries that the words name. The judged class is class 1, her method 1. -/
namespace start1
open Jvm.ClassFile
def u (s : String) : CpInfo := .utf8 (stringToUtf16 s)
/-- a pool by its gaps: so many unusable entries, then the entry; so many at the end -/
def gap : Nat → List CpInfo → List CpInfo
  | 0, r => r
  | n + 1, r => .unusable :: gap n r
def poolList (es : List (Nat × CpInfo)) (last : Nat) : List CpInfo := es.foldr (fun e r => gap e.1 (e.2 :: r)) (gap last [])
def pool (es : List (Nat × CpInfo)) (last : Nat) : Array CpInfo := ⟨poolList es last⟩
def fileOf (pool : Array CpInfo) (this : Nat) (attrs : Array Attribute := #[]) (ms : Array MethodInfo := #[]) (fl : Nat := 33) (sup : Nat := 0) (ifs : Array Nat := #[]) (fds : Array FieldInfo := #[]) : ClassFile where
  minorVersion := 0
  majorVersion := 65
  constantPool := pool
  accessFlags := fl
  thisClass := this
  superClass := sup
  interfaces := ifs
  fields := fds
  methods := ms
  attributes := attrs
def plain (name : String) (sup : Option ClassId) : Class where
  name := name
  kind := .ordinary
  loader := none
  accessFlags := 33
  super := sup
  interfaces := #[]
  cf := none
  fields := #[]
  methods := #[]
  instanceTypes := #[]
  staticTypes := #[]
  resolved := #[]
  callSites := []
  init := .initialized
  statics := none
  mirror := none

def pool0 : Array CpInfo := pool [(5, u "<init>"), (0, u "()V"), (1, .class_ 10), (1, u "java/lang/Object")] 113

def k0m0 : Method := { name := "<init>", desc := "()V", sig := { parameters := [], returnType := none }, accessFlags := 1, code := none }
/-- java/lang/Object -/
def k0 : Class := { plain "java/lang/Object" none with
  accessFlags := 33
  interfaces := #[]
  cf := some (fileOf pool0 8 #[] #[{ accessFlags := 1, nameIndex := 5, descriptorIndex := 6, attributes := #[] }] 33 0 #[] #[])
  fields := #[]
  methods := #[k0m0]
  instanceTypes := #[]
  staticTypes := #[]
  resolved := Array.replicate 124 none
  statics := none }

def pool1 : Array CpInfo := pool [(2, .class_ 4), (1, u "java/lang/Object"), (0, u "<init>"), (0, u "()V"), (0, .integer 2147483647), (0, .methodref 9 10), (0, .class_ 11), (0, .nameAndType 12 13), (0, u "com/example/amphion/amphion/Utf8Reader"), (0, u "sequenceLength"), (0, u "(I)I"), (0, .class_ 15), (0, u "com/example/amphion/amphion/Utf8ReaderSequenceLengthPinLaw"), (2, u "law"), (0, u "(II)Z")] 6

def k1m0 : Method := { name := "<init>", desc := "()V", sig := { parameters := [], returnType := none }, accessFlags := 2, code := none }
def k1c1 : Code := { maxStack := 3, maxLocals := 5, code := code, exceptionTable := #[], attributes := #[] }
def k1m1 : Method := { name := "law", desc := "(II)Z", sig := { parameters := [.int, .int], returnType := some .boolean }, accessFlags := 9, code := some k1c1 }
/-- com/example/amphion/amphion/Utf8ReaderSequenceLengthPinLaw -/
def k1 : Class := { plain "com/example/amphion/amphion/Utf8ReaderSequenceLengthPinLaw" (some 0) with
  accessFlags := 49
  interfaces := #[]
  cf := some (fileOf pool1 14 #[] #[{ accessFlags := 2, nameIndex := 5, descriptorIndex := 6, attributes := #[] }, { accessFlags := 9, nameIndex := 18, descriptorIndex := 19, attributes := #[] }] 49 2 #[] #[])
  fields := #[]
  methods := #[k1m0, k1m1]
  instanceTypes := #[]
  staticTypes := #[]
  resolved := Array.replicate 26 none
  statics := none }

def pool2 : Array CpInfo := pool [(1, .class_ 2), (0, u "java/lang/Readable"), (0, .class_ 4), (0, u "java/lang/Object")] 7

/-- java/lang/Readable -/
def k2 : Class := { plain "java/lang/Readable" (some 0) with
  accessFlags := 1537
  interfaces := #[]
  cf := some (fileOf pool2 1 #[] #[] 1537 3 #[] #[])
  fields := #[]
  methods := #[]
  instanceTypes := #[]
  staticTypes := #[]
  resolved := Array.replicate 12 none
  statics := none }

def pool3 : Array CpInfo := pool [(1, .class_ 2), (0, u "java/lang/AutoCloseable"), (0, .class_ 4), (0, u "java/lang/Object")] 7

/-- java/lang/AutoCloseable -/
def k3 : Class := { plain "java/lang/AutoCloseable" (some 0) with
  accessFlags := 1537
  interfaces := #[]
  cf := some (fileOf pool3 1 #[] #[] 1537 3 #[] #[])
  fields := #[]
  methods := #[]
  instanceTypes := #[]
  staticTypes := #[]
  resolved := Array.replicate 12 none
  statics := none }

def pool4 : Array CpInfo := pool [(1, .class_ 2), (0, u "java/io/Closeable"), (0, .class_ 4), (0, u "java/lang/Object"), (0, .class_ 6), (0, u "java/lang/AutoCloseable")] 7

/-- java/io/Closeable -/
def k4 : Class := { plain "java/io/Closeable" (some 0) with
  accessFlags := 1537
  interfaces := #[3]
  cf := some (fileOf pool4 1 #[] #[] 1537 3 #[5] #[])
  fields := #[]
  methods := #[]
  instanceTypes := #[]
  staticTypes := #[]
  resolved := Array.replicate 14 none
  statics := none }

def pool5 : Array CpInfo := pool [(1, .class_ 2), (0, u "java/io/Reader$1"), (2, u "<init>"), (0, u "()V"), (1, .class_ 9), (0, u "java/lang/Object"), (1, .class_ 13), (1, u "java/io/Reader"), (0, u "skipBuffer"), (0, u "[C"), (2, u "lock"), (0, u "Ljava/lang/Object;"), (117, .class_ 138), (0, u "java/lang/Readable"), (0, .class_ 140), (0, u "java/io/Closeable"), (0, u "TRANSFER_BUFFER_SIZE"), (0, u "I"), (2, u "maxSkipBufferSize")] 59

def k5m0 : Method := { name := "<init>", desc := "()V", sig := { parameters := [], returnType := none }, accessFlags := 4, code := none }
/-- java/io/Reader -/
def k5 : Class := { plain "java/io/Reader" (some 0) with
  accessFlags := 1057
  interfaces := #[2, 4]
  cf := some (fileOf pool5 11 #[.nestMembers #[1]] #[{ accessFlags := 4, nameIndex := 5, descriptorIndex := 6, attributes := #[] }] 1057 8 #[137, 139] #[{ accessFlags := 26, nameIndex := 141, descriptorIndex := 142, attributes := #[] }, { accessFlags := 4, nameIndex := 18, descriptorIndex := 19, attributes := #[] }, { accessFlags := 26, nameIndex := 145, descriptorIndex := 142, attributes := #[] }, { accessFlags := 2, nameIndex := 14, descriptorIndex := 15, attributes := #[] }])
  fields := #[{ name := "TRANSFER_BUFFER_SIZE", type := .int, accessFlags := 26, slot := 0, constantValue := 0 }, { name := "lock", type := (.object "java/lang/Object"), accessFlags := 4, slot := 0, constantValue := 0 }, { name := "maxSkipBufferSize", type := .int, accessFlags := 26, slot := 1, constantValue := 0 }, { name := "skipBuffer", type := (.array .char), accessFlags := 2, slot := 1, constantValue := 0 }]
  methods := #[k5m0]
  instanceTypes := #[(.object "java/lang/Object"), (.array .char)]
  staticTypes := #[.int, .int]
  resolved := Array.replicate 205 none
  statics := none }

def pool6 : Array CpInfo := pool [(2, .class_ 4), (1, u "java/io/Reader"), (2, .class_ 8), (0, u "com/example/amphion/amphion/Utf8Reader"), (2, u "bytes"), (0, u "[B"), (2, u "pendingLow"), (0, u "I"), (1, u "input"), (10, u "Ljava/io/InputStream;"), (14, u "position"), (2, u "limit"), (16, u "sequenceLength"), (0, u "(I)I"), (33, u "INITIAL_LENGTH"), (2, u "BUFFER_LENGTH"), (1, u "MAX_SEQUENCE"), (1, u "NONE")] 11

def k6c0 : Code := { maxStack := 3, maxLocals := 1, code := prog_7_method_5_code, exceptionTable := #[], attributes := #[] }
def k6m0 : Method := { name := "sequenceLength", desc := "(I)I", sig := { parameters := [.int], returnType := some .int }, accessFlags := 8, code := some k6c0 }
/-- com/example/amphion/amphion/Utf8Reader -/
def k6 : Class := { plain "com/example/amphion/amphion/Utf8Reader" (some 5) with
  accessFlags := 48
  interfaces := #[]
  cf := some (fileOf pool6 7 #[] #[{ accessFlags := 8, nameIndex := 64, descriptorIndex := 65, attributes := #[] }] 48 2 #[] #[{ accessFlags := 26, nameIndex := 99, descriptorIndex := 16, attributes := #[] }, { accessFlags := 26, nameIndex := 102, descriptorIndex := 16, attributes := #[] }, { accessFlags := 26, nameIndex := 104, descriptorIndex := 16, attributes := #[] }, { accessFlags := 26, nameIndex := 106, descriptorIndex := 16, attributes := #[] }, { accessFlags := 18, nameIndex := 18, descriptorIndex := 29, attributes := #[] }, { accessFlags := 2, nameIndex := 11, descriptorIndex := 12, attributes := #[] }, { accessFlags := 2, nameIndex := 44, descriptorIndex := 16, attributes := #[] }, { accessFlags := 2, nameIndex := 47, descriptorIndex := 16, attributes := #[] }, { accessFlags := 2, nameIndex := 15, descriptorIndex := 16, attributes := #[] }])
  fields := #[{ name := "INITIAL_LENGTH", type := .int, accessFlags := 26, slot := 0, constantValue := 0 }, { name := "BUFFER_LENGTH", type := .int, accessFlags := 26, slot := 1, constantValue := 0 }, { name := "MAX_SEQUENCE", type := .int, accessFlags := 26, slot := 2, constantValue := 0 }, { name := "NONE", type := .int, accessFlags := 26, slot := 3, constantValue := 0 }, { name := "input", type := (.object "java/io/InputStream"), accessFlags := 18, slot := 2, constantValue := 0 }, { name := "bytes", type := (.array .byte), accessFlags := 2, slot := 3, constantValue := 0 }, { name := "position", type := .int, accessFlags := 2, slot := 4, constantValue := 0 }, { name := "limit", type := .int, accessFlags := 2, slot := 5, constantValue := 0 }, { name := "pendingLow", type := .int, accessFlags := 2, slot := 6, constantValue := 0 }]
  methods := #[k6m0]
  instanceTypes := #[(.object "java/lang/Object"), (.array .char), (.object "java/io/InputStream"), (.array .byte), .int, .int, .int]
  staticTypes := #[.int, .int, .int, .int]
  resolved := Array.replicate 118 none
  statics := none }

def pool7 : Array CpInfo := pool [(1, u "java/lang/Cloneable"), (0, .class_ 1), (0, u "java/lang/Object"), (0, .class_ 3)] 3

/-- java/lang/Cloneable -/
def k7 : Class := { plain "java/lang/Cloneable" (some 0) with
  accessFlags := 1537
  interfaces := #[]
  cf := some (fileOf pool7 2 #[] #[] 1537 4 #[] #[])
  fields := #[]
  methods := #[]
  instanceTypes := #[]
  staticTypes := #[]
  resolved := Array.replicate 8 none
  statics := none }

def pool8 : Array CpInfo := pool [(1, u "java/io/Serializable"), (0, .class_ 1), (0, u "java/lang/Object"), (0, .class_ 3)] 3

/-- java/io/Serializable -/
def k8 : Class := { plain "java/io/Serializable" (some 0) with
  accessFlags := 1537
  interfaces := #[]
  cf := some (fileOf pool8 2 #[] #[] 1537 4 #[] #[])
  fields := #[]
  methods := #[]
  instanceTypes := #[]
  staticTypes := #[]
  resolved := Array.replicate 8 none
  statics := none }

/-- the primitive byte -/
def k9 : Class := { plain "byte" none with kind := .primitive 'B', accessFlags := 0x411 }
/-- [B -/
def k10 : Class := { plain "[B" (some 0) with kind := .array 9 .byte, interfaces := #[7, 8], accessFlags := 1041 }

/-- the primitive int -/
def k11 : Class := { plain "int" none with kind := .primitive 'I', accessFlags := 0x411 }
/-- [I -/
def k12 : Class := { plain "[I" (some 0) with kind := .array 11 .int, interfaces := #[7, 8], accessFlags := 1041 }

def heap : Heap := #[]
def classes : Array Class := #[k0, k1, k2, k3, k4, k5, k6, k7, k8, k9, k10, k11, k12]
def interned : List (Array UInt16 × Addr) := []
def slotsUsed : Nat := 0
def theMethod : MethodId := ⟨1, 1⟩
def args0 : Array Value := #[.int 5, .int 1]
def aboutOver (below : List Frame) : State where
  vm := { classes := classes, interned := interned.toArray }
  heap := heap
  slotsUsed := slotsUsed
  threads := #[{ frames := .invoking theMethod args0 :: below }]
def below0 : List Frame := [.native { method := ⟨0, 0⟩, args := #[] }]
def about1 : State := aboutOver below0
def p0 : Program := .bare "" "" ""
def e0 : Env := launch0.env 0 0 0
theorem w_frames : about1.frames = Frame.invoking theMethod args0 :: below0 := rfl
set_option maxRecDepth 65536 in
theorem w_args : argsFit about1.vm theMethod args0 = true := by decide +kernel
set_option maxRecDepth 65536 in
theorem w_heap : heapFits about1 = true := by decide +kernel
set_option maxRecDepth 65536 in
theorem w_runnable : about1.curStatus? = some .runnable := by decide +kernel
set_option maxRecDepth 65536 in
theorem w_alone : about1.alone = true := by decide +kernel
set_option maxRecDepth 65536 in
theorem w_named : about1.methodNamed? x = some theMethod := by decide +kernel
set_option maxRecDepth 65536 in
theorem w_hears : about1.hears theMethod below0 = true := by decide +kernel
set_option maxRecDepth 65536 in
theorem w_ripe : about1.ripe theMethod args0 below0 = true := by decide +kernel
theorem w_running : about1.status = .running := rfl
set_option maxRecDepth 65536 in
theorem w_room : about1.hasRoom e0.platform room_1 = true :=
  launch0.hasRoom_least _ room_1 (by decide +kernel) (by decide +kernel) (by decide +kernel) (by decide +kernel) (by decide +kernel) (by decide +kernel)
theorem allAtoms_all (ts : List Jvm.Cond) (a : Array Jvm.Value) (st : Jvm.State) : (allAtoms ts).before a st = ts.all (fun c => c.before a st) := by
  induction ts with
  | nil => rfl
  | cons c t ih =>
    show (Jvm.Cond.and c (allAtoms t)).before a st = _
    rw [Jvm.Cond.before_and, ih, List.all_cons]
def words1 : List Jvm.Cond := Jvm.Cond.code x code maxLocals ret :: tables_1
/-- a 'code' word, met by the world's own term for the bytes: nothing is compared byte by byte -/
theorem code_word {y : MethodName} {bytes : ByteArray} {mx : Nat} {rt : Option FieldType} {a : Array Value} {s : State} {m : MethodId} {meth : Method} {c : Code} (h1 : s.methodNamed? y = some m) (h2 : s.vm.method? m = some meth) (h3 : meth.code = some c) (h4 : c.code = bytes)
    (h5 : (c.maxLocals == mx && c.exceptionTable.isEmpty && decide (c.maxStack ≤ mostOperands) && decide (meth.sig.returnType = rt) && !meth.locks && decide (parseMethodDescriptor y.desc = some meth.sig)) = true) : (Jvm.Cond.code y bytes mx rt).before a s = true := by
  simp only [Bool.and_eq_true, beq_iff_eq, Bool.not_eq_true', decide_eq_true_eq] at h5
  obtain ⟨⟨⟨⟨⟨g1, g2⟩, g3⟩, g4⟩, g5⟩, g6⟩ := h5
  simp [Cond.before, Cond.holds, Cond.value, h1, h2, h3, h4, g1, g2, g3, g4, g5, g6]
def isCode : Jvm.Cond → Bool
  | .code _ _ _ _ => true
  | _ => false
theorem all_split {L : List Jvm.Cond} {P : Jvm.Cond → Bool} (h1 : L.all (fun c => isCode c || P c) = true) (h2 : ∀ c ∈ L.filter isCode, P c = true) : L.all P = true := by
  refine List.all_eq_true.mpr fun c hc => ?_
  have h := List.all_eq_true.mp h1 c hc
  rcases Bool.eq_false_or_eq_true (isCode c) with hi | hi
  · exact h2 c (List.mem_filter.mpr ⟨hc, hi⟩)
  · simpa [hi] using h
set_option maxRecDepth 65536 in
theorem w_c0 : (Jvm.Cond.code x code maxLocals ret).before args0 about1 = true := code_word (m := ⟨1, 1⟩) (meth := k1m1) (c := k1c1) (by decide +kernel) rfl rfl rfl (by decide +kernel)
set_option maxRecDepth 65536 in
theorem w_c1 : (Jvm.Cond.code ({ cls := "com/example/amphion/amphion/Utf8Reader", name := "sequenceLength", desc := "(I)I" } : Jvm.MethodName) prog_7_method_5_code (1 : Nat) (Option.some Jvm.ClassFile.FieldType.int)).before args0 about1 = true := code_word (m := ⟨6, 0⟩) (meth := k6m0) (c := k6c0) (by decide +kernel) rfl rfl rfl (by decide +kernel)
def codes1 : List Jvm.Cond := [Jvm.Cond.code x code maxLocals ret, Jvm.Cond.code ({ cls := "com/example/amphion/amphion/Utf8Reader", name := "sequenceLength", desc := "(I)I" } : Jvm.MethodName) prog_7_method_5_code (1 : Nat) (Option.some Jvm.ClassFile.FieldType.int)]
set_option maxRecDepth 65536 in
theorem codes_eq : words1.filter isCode = codes1 := rfl
theorem w_codes : ∀ c ∈ words1.filter isCode, c.before args0 about1 = true := by
  rw [codes_eq]
  intro c hc
  simp only [codes1, List.mem_cons, List.not_mem_nil, or_false] at hc
  rcases hc with rfl | rfl
  · exact w_c0
  · exact w_c1
set_option maxRecDepth 65536 in
theorem w_t1 : words1.all (fun c => isCode c || c.before args0 about1) = true := by decide +kernel
theorem w_tables : (allAtoms (Jvm.Cond.code x code maxLocals ret :: tables_1)).before args0 about1 = true := by
  rw [allAtoms_all]
  show words1.all (fun c => c.before args0 about1) = true
  refine all_split ?_ w_codes
  rw [w_t1]
set_option maxRecDepth 65536 in
theorem w_case : (Jvm.Cond.and given_1 narrow_1).before args0 about1 = true := by decide +kernel
theorem w_applies : (headSpec (Jvm.Cond.code x code maxLocals ret :: tables_1) room_1).applies x e0.platform about1 = true :=
  (Spec.applies_iff w_frames).mpr ⟨w_running, w_runnable, w_alone, w_named, w_hears, w_ripe, w_room, w_tables⟩
theorem atStart : AtStart classFile x code maxLocals ret World_1 tables_1 room_1 Calls_1 rest_1 Pre_1 launch0 p0 e0 about1 theMethod args0 below0 :=
  ⟨lists_1, trivial, launch0.admits_env _ _ _, launch0.least_env, fairChoices_fair.cas, fairChoices_fair.clock, w_frames, w_args, w_heap, w_applies, trivial, trivial, w_case⟩
end start1
theorem witness_1 : WitnessClaimed_1 := ⟨start1.p0, start1.e0, start1.about1, start1.theMethod, start1.args0, start1.below0, start1.atStart⟩
end Jvm.Pilot.@@N@@
