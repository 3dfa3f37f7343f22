import JvmDerived
import JvmDerived.Pilot.@@N@@Statement
import JvmDerived.Pilot.@@N@@Code
set_option linter.unusedVariables false
set_option linter.unusedSimpArgs false
namespace Jvm.Pilot.@@N@@
open Jvm Jvm.ClassFile Sem Op Lib Jvm.Free Jvm.Stand Jvm.LawKit Jvm.RoadKit Bundle Jvm.Pilot.@@N@@.Jvm.D
theorem own_w {Z : State} {a0 : Array Value} (hw : ∀ d ∈ tables_1, d.before a0 Z = true) (k : Nat) {d : Jvm.Cond} (h : tables_1[k]? = some d) : d.before a0 Z = true := hw _ (List.mem_of_getElem? h)
/-- the run from U ends, and Q says what it leaves -/
def own_Fin (p : Program) (e : Env) (below : List Frame) (s : State) (Q : Option Value → Heap → List Loc → Prop) (k n : Nat) (U : State) : Prop :=
  ∃ s₂ o, Steps p.tables e below U s₂ ∧ s₂.status = .running ∧ Ended s₂ below o ∧ ∃ v L, o = .returned v ∧ Q v s₂.heap L ∧ FrameEnd s o s₂ L k n
theorem own_Fin.step {p : Program} {e : Env} {below : List Frame} {s : State} {Q : Option Value → Heap → List Loc → Prop} {k n : Nat} {U U' : State} (st : ∀ t, Steps p.tables e below U' t → Steps p.tables e below U t) (h : own_Fin p e below s Q k n U') : own_Fin p e below s Q k n U := by
  obtain ⟨s₂, o, h1, h2⟩ := h
  exact ⟨s₂, o, st _ h1, h2⟩
/-- a contract: called with as' at the heap h, the body leaves what Q says -/
abbrev own_Met (l : Launch) (Z : State) (ws : List Jvm.Cond) (y : MethodName) (bytes : ByteArray) (maxL : Nat) (ret : Option FieldType) (rm : Room) (as' : Array Value) (h : Heap) (Q : Option Value → Heap → List Loc → Prop) : Prop :=
  MetFree l y (head1 (Jvm.Cond.code y bytes maxL ret :: ws) rm) (fun a U => a = as' ∧ Z.Warmed39 U.vm ∧ U.heap = h) (fun _ _ _ _ _ => True) (fun _ U o U' => ∃ v L, o = .returned v ∧ Q v U'.heap L ∧ FrameEnd U o U' L rm.cells rm.slots)
/-- what a body leaves that returns w and writes nothing -/
def own_QP (w : Option Value) (h0 : Heap) (n0 : Nat) (v : Option Value) (h : Heap) (L : List Loc) : Prop := v = w ∧ Fr n0 L ∧ h = h0
/-- the law's own end -/
def own_Q0 (n0 : Nat) (v : Option Value) (h : Heap) (L : List Loc) : Prop := v = some (.int 1) ∧ Fr n0 L
theorem own_enter {l : Launch} {Z : State} {ws : List Jvm.Cond} {y : MethodName} {bytes : ByteArray} {maxL : Nat} {ret : Option FieldType} {rm : Room} {as' : Array Value} {h : Heap} {Q : Option Value → Heap → List Loc → Prop} (hp : plainFor y = true)
    (body : ∀ (p : Program) (e : Env) (s : State) (m : MethodId) (below : List Frame) (meth : Method) (c : Code) (s₁ : State), Stand p l e rm s m as' below meth c s₁ [] 0 0 → p.tables.exec = Jvm.exec → c.code = bytes → c.maxLocals = maxL → s.vm.findClass y.cls = some m.cls → meth.sig.returnType = ret → meth.locks = false → meth.name = y.name → Z.Warmed39 s.vm → s₁.heap = h →
      own_Fin p e below s Q rm.cells rm.slots (s₁.setTop (entryFrame m as' maxL))) : own_Met l Z ws y bytes maxL ret rm as' h Q := by
  refine MetFree.of_bodySF hp hisR ?_
  intro p e s m args below meth c s₁ Bd hml0 hP hK
  obtain ⟨rfl, hZ, hh⟩ := hP
  exact body p e s m below meth c s₁ (Stand.of_body Bd) Bd.exec Bd.bytes hml0 (findClass_of_methodNamed Bd.named) Bd.returns (BodyLoose.notSynchronized Bd) (name_of_methodNamed Bd.named Bd.method).1 hZ (by rw [← hh, Bd.state]; rfl)
section Own
variable {p : Program} {l : Launch} {e : Env} {R : Room} {s : State} {m : MethodId} {args : Array Value} {below : List Frame} {meth : Method} {c : Code} {T : State} {locs : List Loc} {cells slots : Nat} {Z : State} {a0 : Array Value} {h : Heap} {Q : Option Value → Heap → List Loc → Prop} {k n : Nat}
theorem own_retI (X : Stand p l e R s m args below meth c T locs cells slots) (hx : p.tables.exec = Jvm.exec) (hlk : meth.locks = false) {pc : Nat} {Ls : Array Slot} {z : Int32} {rest : List Value} (hret : meth.sig.returnType = some .int) (hd : decode c.code pc = .ok (.ireturn, 1)) (hQ : Q (some (.int z)) T.heap locs) (hk : cells ≤ k) (hn : slots ≤ n) :
    own_Fin p e below s Q k n (T.setTop (mkF m pc Ls (.int z :: rest))) := by
  obtain ⟨fs, hr, hrun, hended, hW, hsame⟩ := X.leave (v := some (.int z)) (fun h => by rw [hret] at h; cases h) hlk
  refine ⟨_, _, ?_, hrun, hended, _, _, rfl, hQ, ⟨_, rfl⟩, hW, hsame.mono hk hn⟩
  have hm' : T.vm.method? m = some meth := X.method'
  have hnn : narrow .int (.int z) = .int z := rfl
  show Steps p.tables e below (T.setTop { method := m, pc := pc, locals := Ls, stack := _ :: rest, locked := none }) _
  jvm_step X.here [X.here.top, hx, hd, hm', hret, hnn]
  first | (intro acts; rw [hr _ acts rfl rfl rfl]) | rw [hr _ _ rfl rfl rfl]
  exact Steps.refl _
theorem own_retN (X : Stand p l e R s m args below meth c T locs cells slots) (hx : p.tables.exec = Jvm.exec) (hlk : meth.locks = false) {pc : Nat} {Ls : Array Slot} {z : Int32} {t : FieldType} {rest : List Value} (hret : meth.sig.returnType = some t) (ht : t = .boolean ∨ t = .byte ∨ t = .char ∨ t = .short) (hd : decode c.code pc = .ok (.ireturn, 1)) (hQ : Q (some (.int (nar t z))) T.heap locs) (hk : cells ≤ k) (hn : slots ≤ n) :
    own_Fin p e below s Q k n (T.setTop (mkF m pc Ls (.int z :: rest))) := by
  obtain ⟨fs, hr, hrun, hended, hW, hsame⟩ := X.leave (v := some (.int (nar t z))) (fun h => by rw [hret] at h; cases h) hlk
  exact ⟨_, _, retN X hx hret ht hd hr, hrun, hended, _, _, rfl, hQ, ⟨_, rfl⟩, hW, hsame.mono hk hn⟩
theorem own_retJ (X : Stand p l e R s m args below meth c T locs cells slots) (hx : p.tables.exec = Jvm.exec) (hlk : meth.locks = false) {pc : Nat} {Ls : Array Slot} {z : Int64} (hret : meth.sig.returnType = some .long) (hd : decode c.code pc = .ok (.lreturn, 1)) (hQ : Q (some (.long z)) T.heap locs) (hk : cells ≤ k) (hn : slots ≤ n) :
    own_Fin p e below s Q k n (T.setTop (mkF m pc Ls [.long z])) := by
  obtain ⟨fs, hr, hrun, hended, hW, hsame⟩ := X.leave (v := some (.long z)) (fun h => by rw [hret] at h; cases h) hlk
  exact ⟨_, _, X.lreturnOut hx hret hd hr, hrun, hended, _, _, rfl, hQ, ⟨_, rfl⟩, hW, hsame.mono hk hn⟩
theorem own_retR (X : Stand p l e R s m args below meth c T locs cells slots) (hx : p.tables.exec = Jvm.exec) (hlk : meth.locks = false) {pc : Nat} {Ls : Array Slot} {w : Value} {t : FieldType} (hw : w.isRef = true) (hret : meth.sig.returnType = some t) (ht : t.isReference = true) (hd : decode c.code pc = .ok (.areturn, 1)) (hQ : Q (some w) T.heap locs) (hk : cells ≤ k) (hn : slots ≤ n) :
    own_Fin p e below s Q k n (T.setTop (mkF m pc Ls [w])) := by
  obtain ⟨fs, hr, hrun, hended, hW, hsame⟩ := X.leave (v := some w) (fun h => by rw [hret] at h; cases h) hlk
  exact ⟨_, _, X.areturnOut hx hw hret ht hd hr, hrun, hended, _, _, rfl, hQ, ⟨_, rfl⟩, hW, hsame.mono hk hn⟩
theorem own_ret0 (X : Stand p l e R s m args below meth c T locs cells slots) (hx : p.tables.exec = Jvm.exec) (hlk : meth.locks = false) {pc : Nat} {Ls : Array Slot} (hret : meth.sig.returnType = none) (hd : decode c.code pc = .ok (.return_, 1)) (hQ : Q none T.heap locs) (hk : cells ≤ k) (hn : slots ≤ n) :
    own_Fin p e below s Q k n (T.setTop (mkF m pc Ls [])) := by
  obtain ⟨fs, hr, hrun, hended, hW, hsame⟩ := X.leave (v := none) (fun _ => rfl) hlk
  exact ⟨_, _, X.returnOut hx hret hd hr, hrun, hended, _, _, rfl, hQ, ⟨_, rfl⟩, hW, hsame.mono hk hn⟩
theorem own_lrem {tb : Tables} [Ours tb] {target : State} {g : JFrame} (h : At T m c below) (hx : tb.exec = Jvm.exec) (hg : g.method = m) {x y : Int64} {rest : List Value} (hd : decode c.code g.pc = .ok (.lrem, 1)) (hs : g.stack = .long y :: .long x :: rest) (hy : y ≠ 0)
    (hr : Steps tb e below (T.setTop { g with pc := g.pc + 1, stack := .long (x % y) :: rest }) target) : Steps tb e below (T.setTop g) target := by
  have q : x - x / y * y = x % y := lrem_mod x y
  exact XS.lrem h hx hg hd hs hy (by rw [q]; exact hr)
theorem own_callS (X : Stand p l e R s m args below meth c T locs cells slots) (hx : p.tables.exec = Jvm.exec) (hZ : Z.Warmed39 s.vm) {own : String} {index : Nat} {y : MethodName} {bytes : ByteArray} {maxL : Nat} {ret : Option FieldType} {rm : Room} {as' : Array Value}
    (hown : s.vm.findClass own = some m.cls) (w1 : (Jvm.Cond.methodLink own index y).before a0 Z = true) (w2 : (Jvm.Cond.static y).before a0 Z = true) (w3 : (Jvm.Cond.initialized y.cls).before a0 Z = true) (w4 : (Jvm.Cond.code y bytes maxL ret).before a0 Z = true)
    (hy : y.cls ≠ "java/lang/invoke/MethodHandle" ∧ y.cls ≠ "java/lang/invoke/VarHandle") (hM : own_Met l Z [] y bytes maxL ret rm as' h Q) {W : Nat} (hf : rm.frames + 1 ≤ R.frames) (hl : W + (maxL + 11) + rm.locals ≤ R.locals) (eT : T.heap = h)
    {g : JFrame} (hg : g.method = m) (hsize : g.locals.size = c.maxLocals) {argsL rest : List Value} (hlen : ∀ sig, parseMethodDescriptor y.desc = some sig → argsL.length = sig.parameters.length) (has : argsL.toArray = as') (hstack : g.stack = argsL.reverse ++ rest) (hW : 2 * g.monitorRoom + (rest.map fun v => v.category).sum ≤ W)
    (hdg : decode c.code g.pc = .ok (.invokestatic index, 3)) (hc : cells + rm.cells ≤ R.cells) (hs : slots + rm.slots ≤ R.slots) :
    ∃ v T' L, Stand p l e R s m args below meth c T' (locs ++ L) (cells + rm.cells) (slots + rm.slots) ∧ Q v T'.heap L ∧ ∀ t, Steps p.tables e below (T'.setTop { g with pc := g.pc + 3, stack := v.toList ++ rest }) t → Steps p.tables e below (T.setTop g) t := by
  obtain ⟨v, vm1, ⟨T', L', k', n'⟩, -, X', ⟨Lc, hQ, l1, y1, z1⟩, st⟩ := Jvm.LawKit.callS X hx (y := y) hown (mvT hZ w1) (mvT hZ w2) (mvT hZ w3) (mvT hZ w4) hy (backOf (W := W) hM hZ w4 w3 hf hl) (g := g) hg hsize (argsL := argsL) (rest := rest) hlen hstack hW hdg (fun _ _ => ⟨has, eT, hc, hs⟩)
  dsimp only [Pt.U, Pt.locs, Pt.cells, Pt.slots] at X' l1 y1 z1 st hQ
  subst l1 y1 z1
  exact ⟨v, T', Lc, X', hQ, st⟩
theorem own_callN (X : Stand p l e R s m args below meth c T locs cells slots) (hx : p.tables.exec = Jvm.exec) (hZ : Z.Warmed39 s.vm) {own : String} {index : Nat} {y : MethodName} {bytes : ByteArray} {maxL : Nat} {rm : Room} {as' : Array Value} (hy1 : y.name = "<init>")
    (hown : s.vm.findClass own = some m.cls) (w1 : (Jvm.Cond.methodLink own index y).before a0 Z = true) (w2 : (Jvm.Cond.instanceMethod y).before a0 Z = true) (w3 : (Jvm.Cond.initialized y.cls).before a0 Z = true) (w4 : (Jvm.Cond.code y bytes maxL none).before a0 Z = true)
    (hy : y.cls ≠ "java/lang/invoke/MethodHandle" ∧ y.cls ≠ "java/lang/invoke/VarHandle") (hM : own_Met l Z [] y bytes maxL none rm as' h Q) {W : Nat} (hf : rm.frames + 1 ≤ R.frames) (hl : W + (maxL + 11) + rm.locals ≤ R.locals) {a : Addr} (eT : T.heap = h)
    {g : JFrame} (hg : g.method = m) (hsize : g.locals.size = c.maxLocals) {argsL rest : List Value} (hlen : ∀ sig, parseMethodDescriptor y.desc = some sig → argsL.length = sig.parameters.length) (has : (.ref a :: argsL).toArray = as') (hstack : g.stack = argsL.reverse ++ .ref a :: rest) (hW : 2 * g.monitorRoom + (rest.map fun v => v.category).sum ≤ W)
    (hdg : decode c.code g.pc = .ok (.invokespecial index, 3)) (hc : cells + rm.cells ≤ R.cells) (hs : slots + rm.slots ≤ R.slots) :
    ∃ v T' L, Stand p l e R s m args below meth c T' (locs ++ L) (cells + rm.cells) (slots + rm.slots) ∧ Q v T'.heap L ∧ ∀ t, Steps p.tables e below (T'.setTop { g with pc := g.pc + 3, stack := v.toList ++ rest }) t → Steps p.tables e below (T.setTop g) t := by
  obtain ⟨v, vm1, ⟨T', L', k', n'⟩, -, X', ⟨Lc, hQ, l1, y1, z1⟩, st⟩ := X.specialBack hx (y := y) hy1 hown (mvT hZ w1) (mvT hZ w2) (mvT hZ w4) hy (backOf (W := W) hM hZ w4 w3 hf hl) (g := g) hg hsize (Steps.refl _) (a := a) (argsL := argsL) (rest := rest) hlen hstack hW hdg (fun _ _ => ⟨has, eT, hc, hs⟩)
  dsimp only [Pt.U, Pt.locs, Pt.cells, Pt.slots] at X' l1 y1 z1 st hQ
  subst l1 y1 z1
  exact ⟨v, T', Lc, X', hQ, fun t k => st.trans k⟩
theorem own_callV (X : Stand p l e R s m args below meth c T locs cells slots) (hx : p.tables.exec = Jvm.exec) (hZ : Z.Warmed39 s.vm) {own C : String} {index : Nat} {y : MethodName} {bytes : ByteArray} {maxL : Nat} {ret : Option FieldType} {rm : Room} {as' : Array Value}
    (hown : s.vm.findClass own = some m.cls) (w1 : (Jvm.Cond.methodLink own index y).before a0 Z = true) (w2 : (Jvm.Cond.declares y).before a0 Z = true) (w5 : (Jvm.Cond.selects C y y).before a0 Z = true) (w6 : (Jvm.Cond.instanceMethod y).before a0 Z = true) (w3 : (Jvm.Cond.initialized y.cls).before a0 Z = true) (w4 : (Jvm.Cond.code y bytes maxL ret).before a0 Z = true)
    (hy : y.cls ≠ "java/lang/invoke/MethodHandle" ∧ y.cls ≠ "java/lang/invoke/VarHandle") (hM : own_Met l Z [] y bytes maxL ret rm as' h Q) {W : Nat} (hf : rm.frames + 1 ≤ R.frames) (hl : W + (maxL + 11) + rm.locals ≤ R.locals) {a : Addr} (E : Exa Z h a C) (eT : T.heap = h)
    {g : JFrame} (hg : g.method = m) (hsize : g.locals.size = c.maxLocals) {argsL rest : List Value} (hlen : ∀ sig, parseMethodDescriptor y.desc = some sig → argsL.length = sig.parameters.length) (has : (.ref a :: argsL).toArray = as') (hstack : g.stack = argsL.reverse ++ .ref a :: rest) (hW : 2 * g.monitorRoom + (rest.map fun v => v.category).sum ≤ W)
    (hdg : decode c.code g.pc = .ok (.invokevirtual index, 3)) (hc : cells + rm.cells ≤ R.cells) (hs : slots + rm.slots ≤ R.slots) :
    ∃ v T' L, Stand p l e R s m args below meth c T' (locs ++ L) (cells + rm.cells) (slots + rm.slots) ∧ Q v T'.heap L ∧ ∀ t, Steps p.tables e below (T'.setTop { g with pc := g.pc + 3, stack := v.toList ++ rest }) t → Steps p.tables e below (T.setTop g) t := by
  obtain ⟨cq, kq, qa, qb, qc⟩ := isOf hZ eT E
  obtain ⟨v, vm1, ⟨T', L', k', n'⟩, -, X', ⟨Lc, hQ, l1, y1, z1⟩, st⟩ := X.virtualBack hx (y := y) (z := y) hown (mvT hZ w1) (mvT hZ w2) (notFace_of_selects (args := #[]) (mvT hZ w5)) (mvT hZ w5) (mvT hZ w6) hy (backOf (W := W) hM hZ w4 w3 hf hl) qa qc (g := g) hg hsize (Steps.refl _) (argsL := argsL) (rest := rest) hlen hstack hW hdg (fun _ _ => ⟨has, eT, hc, hs⟩)
  dsimp only [Pt.U, Pt.locs, Pt.cells, Pt.slots] at X' l1 y1 z1 st hQ
  subst l1 y1 z1
  exact ⟨v, T', Lc, X', hQ, fun t k => st.trans k⟩
theorem own_newA (X : Stand p l e R s m args below meth c T locs cells slots) (hx : p.tables.exec = Jvm.exec) (hZ : Z.Warmed39 s.vm) {aty : ArrayType} (w : (Jvm.Cond.arrayClass (newarray.typeOf aty)).before a0 Z = true) (eT : T.heap = h) {ty : FieldType} {dv : Value} (hty : newarray.typeOf aty = ty) (hdv : defaultValue ty = dv)
    {g : JFrame} (hg : g.method = m) (hd : decode c.code g.pc = .ok (.newarray aty, 2)) {n : Int32} {rest : List Value} (hs : g.stack = .int n :: rest) (hn : ¬ n < 0) {cap : Nat} (hcap : n.toNatClampNeg ≤ cap) (hb : cap * 8 ≤ 536870912) (hc : cells + 1 ≤ R.cells) (hl : slots + cap ≤ R.slots) (N : Nat) :
    ∃ T' h' k a, Stand p l e R s m args below meth c T' locs (cells + 1) (slots + cap) ∧ T'.heap = h' ∧ Ext h h' ∧ a = h.size ∧ Arv Z h' a k ty n (List.replicate N dv) dv ∧
      ∀ t, Steps p.tables e below (T'.setTop { g with pc := g.pc + 2, stack := .ref a :: rest }) t → Steps p.tables e below (T.setTop g) t := by
  subst hty hdv
  obtain ⟨T', h', k, X', e', E, A, st⟩ := newP X hx hZ w eT hg hd hs hn hcap hb hc hl
  exact ⟨T', h', k, _, X', e', E, rfl, by simpa using (Arv.new A hn).pad (pad_rep [] _ N), st⟩
theorem own_stI (X : Stand p l e R s m args below meth c T locs cells slots) (hx : p.tables.exec = Jvm.exec) (hZ : Z.Warmed39 s.vm) (eT : T.heap = h) {a : Addr} {k : ClassId} {n : Int32} {vs : List Value} {dv : Value} (F : Arv Z h a k .int n vs dv) {j x : Int32} (hj : ¬ j < 0 ∧ j < n) (i : Nat) (hi : j.toNatClampNeg = i) (hl : i < vs.length)
    {g : JFrame} (hg : g.method = m) {rest : List Value} (hs : g.stack = .int x :: .int j :: .ref a :: rest) (hd : decode c.code g.pc = .ok (.iastore, 1)) :
    ∃ T' h', Stand p l e R s m args below meth c T' (locs ++ [⟨a, j.toNatClampNeg⟩]) cells slots ∧ T'.heap = h' ∧ Arv Z h' a k .int n (vs.set i (.int x)) dv ∧ Wr h h' a j.toNatClampNeg (.int x) ∧ ∀ t, Steps p.tables e below (T'.setTop { g with pc := g.pc + 1, stack := rest }) t → Steps p.tables e below (T.setTop g) t := by
  obtain ⟨cl, A, q1, q2, q3, H, G⟩ := F
  obtain ⟨T', h', X', e', W, st⟩ := stI X hx hZ eT A (j := j) (inb_of q2 hj) hg hs hd
  exact ⟨T', h', X', e', Arv.set A q1 q2 q3 H G rfl W i hi hl, W, st⟩
theorem own_stJ (X : Stand p l e R s m args below meth c T locs cells slots) (hx : p.tables.exec = Jvm.exec) (hZ : Z.Warmed39 s.vm) (eT : T.heap = h) {a : Addr} {k : ClassId} {n : Int32} {vs : List Value} {dv : Value} (F : Arv Z h a k .long n vs dv) {j : Int32} {x : Int64} (hj : ¬ j < 0 ∧ j < n) (i : Nat) (hi : j.toNatClampNeg = i) (hl : i < vs.length)
    {g : JFrame} (hg : g.method = m) {rest : List Value} (hs : g.stack = .long x :: .int j :: .ref a :: rest) (hd : decode c.code g.pc = .ok (.lastore, 1)) :
    ∃ T' h', Stand p l e R s m args below meth c T' (locs ++ [⟨a, j.toNatClampNeg⟩]) cells slots ∧ T'.heap = h' ∧ Arv Z h' a k .long n (vs.set i (.long x)) dv ∧ Wr h h' a j.toNatClampNeg (.long x) ∧ ∀ t, Steps p.tables e below (T'.setTop { g with pc := g.pc + 1, stack := rest }) t → Steps p.tables e below (T.setTop g) t := by
  obtain ⟨cl, A, q1, q2, q3, H, G⟩ := F
  obtain ⟨T', h', X', e', W, st⟩ := stJ X hx hZ eT A (j := j) (inb_of q2 hj) hg hs hd
  exact ⟨T', h', X', e', Arv.set A q1 q2 q3 H G rfl W i hi hl, W, st⟩
theorem own_stB (X : Stand p l e R s m args below meth c T locs cells slots) (hx : p.tables.exec = Jvm.exec) (hZ : Z.Warmed39 s.vm) (eT : T.heap = h) {a : Addr} {k : ClassId} {n : Int32} {vs : List Value} {dv : Value} (F : Arv Z h a k .byte n vs dv) {j x : Int32} (hj : ¬ j < 0 ∧ j < n) (i : Nat) (hi : j.toNatClampNeg = i) (hl : i < vs.length)
    {g : JFrame} (hg : g.method = m) {rest : List Value} (hs : g.stack = .int x :: .int j :: .ref a :: rest) (hd : decode c.code g.pc = .ok (.bastore, 1)) :
    ∃ T' h', Stand p l e R s m args below meth c T' (locs ++ [⟨a, j.toNatClampNeg⟩]) cells slots ∧ T'.heap = h' ∧ Arv Z h' a k .byte n (vs.set i (.int (nar .byte x))) dv ∧ Wr h h' a j.toNatClampNeg (.int (nar .byte x)) ∧ ∀ t, Steps p.tables e below (T'.setTop { g with pc := g.pc + 1, stack := rest }) t → Steps p.tables e below (T.setTop g) t := by
  obtain ⟨cl, A, q1, q2, q3, H, G⟩ := F
  obtain ⟨T', h', X', e', W, st⟩ := stB X hx hZ eT A (j := j) (inb_of q2 hj) hg hs hd
  exact ⟨T', h', X', e', Arv.set A q1 q2 q3 H G (fits_nar_byte x) W i hi hl, W, st⟩
theorem own_nar (y : Int32) : nar .byte y.toInt8.toInt32 = y.toInt8.toInt32 := by
  show y.toInt8.toInt32.toInt8.toInt32 = _
  simp
theorem own_stBn (X : Stand p l e R s m args below meth c T locs cells slots) (hx : p.tables.exec = Jvm.exec) (hZ : Z.Warmed39 s.vm) (eT : T.heap = h) {a : Addr} {k : ClassId} {n : Int32} {vs : List Value} {dv : Value} (F : Arv Z h a k .byte n vs dv) {j x : Int32} (hj : ¬ j < 0 ∧ j < n) (i : Nat) (hi : j.toNatClampNeg = i) (hl : i < vs.length)
    {g : JFrame} (hg : g.method = m) {rest : List Value} (hs : g.stack = .int x.toInt8.toInt32 :: .int j :: .ref a :: rest) (hd : decode c.code g.pc = .ok (.bastore, 1)) :
    ∃ T' h', Stand p l e R s m args below meth c T' (locs ++ [⟨a, j.toNatClampNeg⟩]) cells slots ∧ T'.heap = h' ∧ Arv Z h' a k .byte n (vs.set i (.int x.toInt8.toInt32)) dv ∧ Wr h h' a j.toNatClampNeg (.int x.toInt8.toInt32) ∧ ∀ t, Steps p.tables e below (T'.setTop { g with pc := g.pc + 1, stack := rest }) t → Steps p.tables e below (T.setTop g) t := by
  have h := own_stB X hx hZ eT F hj i hi hl hg hs hd
  rw [own_nar] at h
  exact h
theorem own_ldI (X : Stand p l e R s m args below meth c T locs cells slots) (hx : p.tables.exec = Jvm.exec) (hZ : Z.Warmed39 s.vm) (eT : T.heap = h) {a : Addr} {k : ClassId} {n : Int32} {vs : List Value} {dv v : Value} (F : Arv Z h a k .int n vs dv) {j : Int32} (hj : ¬ j < 0 ∧ j < n) (hv : vs.getD j.toNatClampNeg dv = v)
    {g : JFrame} (hg : g.method = m) {rest : List Value} (hs : g.stack = .int j :: .ref a :: rest) (hd : decode c.code g.pc = .ok (.iaload, 1)) :
    ∀ t, Steps p.tables e below (T.setTop { g with pc := g.pc + 1, stack := v :: rest }) t → Steps p.tables e below (T.setTop g) t := by
  obtain ⟨cl, A, q1, q2, q3, H, G⟩ := F
  have hin := inb_of q2 hj
  exact fun t kt => X.iaload hx (j := j) (v := v) (by rw [eT]; exact A.1) (State.isArrayOf_alike hZ.alike A.2.1) A.2.2 hin (H.at hin hv) hg hs hd _ kt
theorem own_ldJ (X : Stand p l e R s m args below meth c T locs cells slots) (hx : p.tables.exec = Jvm.exec) (hZ : Z.Warmed39 s.vm) (eT : T.heap = h) {a : Addr} {k : ClassId} {n : Int32} {vs : List Value} {dv v : Value} (F : Arv Z h a k .long n vs dv) {j : Int32} (hj : ¬ j < 0 ∧ j < n) (hv : vs.getD j.toNatClampNeg dv = v)
    {g : JFrame} (hg : g.method = m) {rest : List Value} (hs : g.stack = .int j :: .ref a :: rest) (hd : decode c.code g.pc = .ok (.laload, 1)) :
    ∀ t, Steps p.tables e below (T.setTop { g with pc := g.pc + 1, stack := v :: rest }) t → Steps p.tables e below (T.setTop g) t := by
  obtain ⟨cl, A, q1, q2, q3, H, G⟩ := F
  have hin := inb_of q2 hj
  exact fun t kt => X.laload hx (j := j) (v := v) (by rw [eT]; exact A.1) (State.isArrayOf_alike hZ.alike A.2.1) A.2.2 hin (H.at hin hv) hg hs hd _ kt
theorem own_ldB (X : Stand p l e R s m args below meth c T locs cells slots) (hx : p.tables.exec = Jvm.exec) (hZ : Z.Warmed39 s.vm) (eT : T.heap = h) {a : Addr} {k : ClassId} {n : Int32} {vs : List Value} {dv v : Value} (F : Arv Z h a k .byte n vs dv) {j : Int32} (hj : ¬ j < 0 ∧ j < n) (hv : vs.getD j.toNatClampNeg dv = v)
    {g : JFrame} (hg : g.method = m) {rest : List Value} (hs : g.stack = .int j :: .ref a :: rest) (hd : decode c.code g.pc = .ok (.baload, 1)) :
    ∀ t, Steps p.tables e below (T.setTop { g with pc := g.pc + 1, stack := v :: rest }) t → Steps p.tables e below (T.setTop g) t := by
  obtain ⟨cl, A, q1, q2, q3, H, G⟩ := F
  have hin := inb_of q2 hj
  exact fun t kt => X.baloadBytes hx (j := j) (v := v) (by rw [eT]; exact A.1) (State.isArrayOf_alike hZ.alike A.2.1) A.2.2 hin (H.at hin hv) hg hs hd _ kt
theorem own_len (X : Stand p l e R s m args below meth c T locs cells slots) (hx : p.tables.exec = Jvm.exec) (hZ : Z.Warmed39 s.vm) (eT : T.heap = h) {a : Addr} {k : ClassId} {ty : FieldType} {n : Int32} {vs : List Value} {dv : Value} (F : Arv Z h a k ty n vs dv)
    {g : JFrame} (hg : g.method = m) {rest : List Value} (hs : g.stack = .ref a :: rest) (hd : decode c.code g.pc = .ok (.arraylength, 1)) :
    ∀ t, Steps p.tables e below (T.setTop { g with pc := g.pc + 1, stack := .int n :: rest }) t → Steps p.tables e below (T.setTop g) t := by
  obtain ⟨cl, A, q1, q2, q3, H, G⟩ := F
  exact fun t kt => X.arraylength hx (by rw [eT]; exact A.1) (State.isArrayOf_alike hZ.alike A.2.1) hg hs hd _ (by rw [len_of q2 q3]; exact kt)
end Own
/-- an array of small numbers by a function of the place -/
def own_Arf (Z : State) (h : Heap) (a : Addr) (k : ClassId) (ty : FieldType) (n : Int32) (f : Nat → Int32) : Prop := ∃ c : Cell, Arr Z h a c ty ∧ c.cls = k ∧ c.slots.size = n.toNatClampNeg ∧ ¬ n < 0 ∧ ∀ i, i < c.slots.size → c.slots[i]? = some (.int (f i))
def own_upd (f : Nat → Int32) (j : Nat) (x : Int32) : Nat → Int32 := fun i => if i = j then x else f i
section OwnF
variable {p : Program} {l : Launch} {e : Env} {R : Room} {s : State} {m : MethodId} {args : Array Value} {below : List Frame} {meth : Method} {c : Code} {T : State} {locs : List Loc} {cells slots : Nat} {Z : State} {a0 : Array Value} {h h' : Heap} {a b : Addr} {k : ClassId} {ty : FieldType} {n : Int32} {f : Nat → Int32} {ws : List Addr} {sl : Nat} {v : Value}
theorem own_Arf.lt (F : own_Arf Z h a k ty n f) : a < h.size := by obtain ⟨c, A, -⟩ := F; exact A.lt
theorem own_Arf.ext (F : own_Arf Z h a k ty n f) (E : Ext h h') : own_Arf Z h' a k ty n f := by obtain ⟨c, A, r⟩ := F; exact ⟨c, A.ext E, r⟩
theorem own_Arf.other (F : own_Arf Z h b k ty n f) (W : Wr h h' a sl v) (q : b ≠ a) : own_Arf Z h' b k ty n f := by obtain ⟨c, A, r⟩ := F; exact ⟨c, A.other W q, r⟩
theorem own_Arf.keep (F : own_Arf Z h a k ty n f) (K : Keep h h' ws) (q : a ∉ ws) : own_Arf Z h' a k ty n f := by obtain ⟨c, A, r⟩ := F; exact ⟨c, ⟨K.2.1 a c A.1 q, A.2⟩, r⟩
theorem own_Arf.of {N : Nat} (F : Arv Z h a k ty n (List.replicate N (.int 0)) (.int 0)) : own_Arf Z h a k ty n (fun _ => 0) := by
  obtain ⟨c, A, q1, q2, q3, H, -⟩ := F
  refine ⟨c, A, q1, q2, q3, fun i hi => ?_⟩
  rw [H i hi]; congr 1
  rw [List.getD_eq_getElem?_getD, List.getElem?_replicate]; split <;> rfl
theorem own_lenF (X : Stand p l e R s m args below meth c T locs cells slots) (hx : p.tables.exec = Jvm.exec) (hZ : Z.Warmed39 s.vm) (eT : T.heap = h) (F : own_Arf Z h a k ty n f)
    {g : JFrame} (hg : g.method = m) {rest : List Value} (hs : g.stack = .ref a :: rest) (hd : decode c.code g.pc = .ok (.arraylength, 1)) :
    ∀ t, Steps p.tables e below (T.setTop { g with pc := g.pc + 1, stack := .int n :: rest }) t → Steps p.tables e below (T.setTop g) t := by
  obtain ⟨cl, A, q1, q2, q3, H⟩ := F
  exact fun t kt => X.arraylength hx (by rw [eT]; exact A.1) (State.isArrayOf_alike hZ.alike A.2.1) hg hs hd _ (by rw [len_of q2 q3]; exact kt)
theorem own_ldFI (X : Stand p l e R s m args below meth c T locs cells slots) (hx : p.tables.exec = Jvm.exec) (hZ : Z.Warmed39 s.vm) (eT : T.heap = h) (F : own_Arf Z h a k .int n f) {j : Int32} (hj : ¬ j < 0 ∧ j < n)
    {g : JFrame} (hg : g.method = m) {rest : List Value} (hs : g.stack = .int j :: .ref a :: rest) (hd : decode c.code g.pc = .ok (.iaload, 1)) :
    ∀ t, Steps p.tables e below (T.setTop { g with pc := g.pc + 1, stack := .int (f j.toNatClampNeg) :: rest }) t → Steps p.tables e below (T.setTop g) t := by
  obtain ⟨cl, A, q1, q2, q3, H⟩ := F
  have hin := inb_of q2 hj
  exact fun t kt => X.iaload hx (j := j) (by rw [eT]; exact A.1) (State.isArrayOf_alike hZ.alike A.2.1) A.2.2 hin (H _ (Nat.lt_of_not_le fun y => hin (Or.inr y))) hg hs hd _ kt
theorem own_ldFB (X : Stand p l e R s m args below meth c T locs cells slots) (hx : p.tables.exec = Jvm.exec) (hZ : Z.Warmed39 s.vm) (eT : T.heap = h) (F : own_Arf Z h a k .byte n f) {j : Int32} (hj : ¬ j < 0 ∧ j < n)
    {g : JFrame} (hg : g.method = m) {rest : List Value} (hs : g.stack = .int j :: .ref a :: rest) (hd : decode c.code g.pc = .ok (.baload, 1)) :
    ∀ t, Steps p.tables e below (T.setTop { g with pc := g.pc + 1, stack := .int (f j.toNatClampNeg) :: rest }) t → Steps p.tables e below (T.setTop g) t := by
  obtain ⟨cl, A, q1, q2, q3, H⟩ := F
  have hin := inb_of q2 hj
  exact fun t kt => X.baloadBytes hx (j := j) (by rw [eT]; exact A.1) (State.isArrayOf_alike hZ.alike A.2.1) A.2.2 hin (H _ (Nat.lt_of_not_le fun y => hin (Or.inr y))) hg hs hd _ kt
theorem own_updF {c : Cell} {j : Int32} {x : Int32} (A : Arr Z h a c ty) (q1 : c.cls = k) (q2 : c.slots.size = n.toNatClampNeg) (q3 : ¬ n < 0) (H : ∀ i, i < c.slots.size → c.slots[i]? = some (.int (f i))) (W : Wr h h' a j.toNatClampNeg (.int x)) : own_Arf Z h' a k ty n (own_upd f j.toNatClampNeg x) := by
  refine ⟨_, A.same W, q1, by rw [sz_set]; exact q2, q3, fun i hi => ?_⟩
  rw [sz_set] at hi
  unfold own_upd
  by_cases e : i = j.toNatClampNeg
  · subst e; simp [Cell.setSlot, hi]
  · rw [if_neg e]; simp only [Cell.setSlot]; rw [Array.getElem?_setIfInBounds_ne (Ne.symm e)]; exact H i hi
theorem own_stFI (X : Stand p l e R s m args below meth c T locs cells slots) (hx : p.tables.exec = Jvm.exec) (hZ : Z.Warmed39 s.vm) (eT : T.heap = h) (F : own_Arf Z h a k .int n f) {j x : Int32} (hj : ¬ j < 0 ∧ j < n)
    {g : JFrame} (hg : g.method = m) {rest : List Value} (hs : g.stack = .int x :: .int j :: .ref a :: rest) (hd : decode c.code g.pc = .ok (.iastore, 1)) :
    ∃ T' h', Stand p l e R s m args below meth c T' (locs ++ [⟨a, j.toNatClampNeg⟩]) cells slots ∧ T'.heap = h' ∧ own_Arf Z h' a k .int n (own_upd f j.toNatClampNeg x) ∧ Wr h h' a j.toNatClampNeg (.int x) ∧ ∀ t, Steps p.tables e below (T'.setTop { g with pc := g.pc + 1, stack := rest }) t → Steps p.tables e below (T.setTop g) t := by
  obtain ⟨cl, A, q1, q2, q3, H⟩ := F
  obtain ⟨T', h', X', e', W, st⟩ := stI X hx hZ eT A (j := j) (inb_of q2 hj) hg hs hd
  exact ⟨T', h', X', e', own_updF A q1 q2 q3 H W, W, st⟩
theorem own_stFB (X : Stand p l e R s m args below meth c T locs cells slots) (hx : p.tables.exec = Jvm.exec) (hZ : Z.Warmed39 s.vm) (eT : T.heap = h) (F : own_Arf Z h a k .byte n f) {j x : Int32} (hj : ¬ j < 0 ∧ j < n)
    {g : JFrame} (hg : g.method = m) {rest : List Value} (hs : g.stack = .int x :: .int j :: .ref a :: rest) (hd : decode c.code g.pc = .ok (.bastore, 1)) :
    ∃ T' h', Stand p l e R s m args below meth c T' (locs ++ [⟨a, j.toNatClampNeg⟩]) cells slots ∧ T'.heap = h' ∧ own_Arf Z h' a k .byte n (own_upd f j.toNatClampNeg (nar .byte x)) ∧ Wr h h' a j.toNatClampNeg (.int (nar .byte x)) ∧ ∀ t, Steps p.tables e below (T'.setTop { g with pc := g.pc + 1, stack := rest }) t → Steps p.tables e below (T.setTop g) t := by
  obtain ⟨cl, A, q1, q2, q3, H⟩ := F
  obtain ⟨T', h', X', e', W, st⟩ := stB X hx hZ eT A (j := j) (inb_of q2 hj) hg hs hd
  exact ⟨T', h', X', e', own_updF A q1 q2 q3 H W, W, st⟩
end OwnF

theorem own_b1 {f : Int32} (h : f = 1) : some (Value.int (nar .boolean (1 : Int32))) = some (.int f) := by rw [h]; rfl
theorem own_b0 {f : Int32} (h : f = 0) : some (Value.int (nar .boolean (0 : Int32))) = some (.int f) := by rw [h]; rfl
/-- the first k signs are the last k of the first i + 1 -/
def own_Bd (f : Nat → Int32) (i k : Nat) : Prop := ∀ j, j < k → f j = f (i + 1 - k + j)
instance (f : Nat → Int32) (i k : Nat) : Decidable (own_Bd f i k) := inferInstanceAs (Decidable (∀ j, j < k → f j = f (i + 1 - k + j)))
def own_Max (f : Nat → Int32) (i k : Nat) : Prop := k ≤ i ∧ own_Bd f i k ∧ ∀ k', k' ≤ i → own_Bd f i k' → k' ≤ k
def own_ind (P : Prop) [Decidable P] : Int32 := if P then 1 else 0
theorem own_ind1 {P : Prop} [Decidable P] (h : P) : own_ind P = 1 := if_pos h
theorem own_ind0 {P : Prop} [Decidable P] (h : ¬ P) : own_ind P = 0 := if_neg h
theorem own_no {P : Prop} [Decidable P] (h : own_ind P = 0) : ¬ P := fun q => by rw [own_ind1 q] at h; exact absurd h (by decide)
theorem own_yes {P : Prop} [Decidable P] (h : ¬ own_ind P = 0) : P := Decidable.byContradiction fun q => h (own_ind0 q)
theorem own_un {f : Nat → Int32} {i c : Nat} (U : ∀ k', k' ≤ i → own_Bd f i k' → k' ≤ c + 1) (nb : ¬ own_Bd f i (c + 1)) : ∀ k', k' ≤ i → own_Bd f i k' → k' ≤ c := fun k' h1 h2 => by
  have := U k' h1 h2
  rcases Nat.lt_or_ge c k' with q | q
  · exfalso; apply nb; rw [show c + 1 = k' by omega]; exact h2
  · exact q
theorem own_un0 {f : Nat → Int32} {i : Nat} : ∀ k', k' ≤ i → own_Bd f i k' → k' ≤ i := fun _ h _ => h
theorem own_max_uniq {f : Nat → Int32} {i a b : Nat} (h1 : own_Max f i a) (h2 : own_Max f i b) : a = b := Nat.le_antisymm (h2.2.2 _ h1.1 h1.2.1) (h1.2.2 _ h2.1 h2.2.1)
theorem own_uniq {f : Nat → Int32} {i : Nat} {x y : Int32} (hx : ¬ x < 0 ∧ own_Max f i x.toNatClampNeg) (hy : ¬ y < 0 ∧ own_Max f i y.toNatClampNeg) : x = y := by
  have h := own_max_uniq hx.2 hy.2
  have e1 : x.toNatClampNeg = x.toInt.toNat := rfl
  have e2 : y.toNatClampNeg = y.toInt.toNat := rfl
  have q0 : (0 : Int32).toInt = 0 := by decide
  have h1 := hx.1; have h2 := hy.1
  rw [Int32.lt_iff_toInt_lt] at h1 h2
  apply Int32.toInt_inj.mp; omega
/-- where the search for the next border stands: m is a border of the first i signs, and none that goes on with sign i is longer -/
def own_Inv (f : Nat → Int32) (i m : Nat) : Prop := m + 1 ≤ i ∧ own_Bd f (i - 1) m ∧ ∀ k, k + 1 ≤ i → own_Bd f (i - 1) k → f k = f i → k ≤ m
theorem own_Inv.start {f : Nat → Int32} {i m : Nat} (hi : 1 ≤ i) (h : own_Max f (i - 1) m) : own_Inv f i m := ⟨by have := h.1; omega, h.2.1, fun k h1 h2 _ => h.2.2 k (by omega) h2⟩
theorem own_Inv.step {f : Nat → Int32} {i m m' : Nat} (h : own_Inv f i m) (hm : 0 < m) (hn : ¬ f m = f i) (hM : own_Max f (m - 1) m') : own_Inv f i m' := by
  obtain ⟨h1, h2, h3⟩ := h
  obtain ⟨g1, g2, g3⟩ := hM
  refine ⟨by omega, fun j hj => ?_, fun k q1 q2 q3 => ?_⟩
  · have a := g2 j hj
    have b := h2 (m - 1 + 1 - m' + j) (by omega)
    rw [a, b]; congr 1; omega
  · have q4 := h3 k q1 q2 q3
    have q5 : k ≠ m := fun q => hn (q ▸ q3)
    apply g3 k (by omega)
    intro j hj
    have a := q2 j hj
    have b := h2 (m - 1 + 1 - k + j) (by omega)
    rw [a, b]; congr 1; omega
theorem own_Inv.hit {f : Nat → Int32} {i m : Nat} (h : own_Inv f i m) (hq : f m = f i) : own_Max f i (m + 1) := by
  obtain ⟨h1, h2, h3⟩ := h
  refine ⟨by omega, fun j hj => ?_, fun k q1 q2 => ?_⟩
  · rcases Nat.lt_or_ge j m with q | q
    · rw [h2 j q]; congr 1; omega
    · rw [show j = m by omega, hq]; congr 1; omega
  · rcases k with _ | k
    · omega
    · have a : own_Bd f (i - 1) k := fun j hj => by rw [q2 j (by omega)]; congr 1; omega
      have b := q2 k (by omega)
      have := h3 k q1 a (by rw [b]; congr 1; omega)
      omega
theorem own_Inv.miss {f : Nat → Int32} {i : Nat} (h : own_Inv f i 0) (hq : ¬ f 0 = f i) : own_Max f i 0 := by
  obtain ⟨h1, h2, h3⟩ := h
  refine ⟨by omega, fun j hj => absurd hj (by omega), fun k q1 q2 => ?_⟩
  rcases k with _ | k
  · omega
  · exfalso
    have a : own_Bd f (i - 1) k := fun j hj => by rw [q2 j (by omega)]; congr 1; omega
    have b := q2 k (by omega)
    have c : f k = f i := by rw [b]; congr 1; omega
    have := h3 k q1 a c
    rw [show k = 0 by omega] at c
    exact hq c
theorem own_Max0 {f : Nat → Int32} : own_Max f 0 0 := ⟨Nat.le_refl _, fun j hj => absurd hj (by omega), fun _ h _ => h⟩
/-- the table's first i places hold the longest borders -/
def own_T (f g : Nat → Int32) (i : Nat) : Prop := ∀ j, j < i → ¬ g j < 0 ∧ own_Max f j (g j).toNatClampNeg
theorem own_T.upd {f g : Nat → Int32} {i : Nat} {r : Int32} (h : own_T f g i) (hr : ¬ r < 0 ∧ own_Max f i r.toNatClampNeg) : own_T f (own_upd g i r) (i + 1) := fun j hj => by
  unfold own_upd
  by_cases e : j = i
  · rw [if_pos e, e]; exact hr
  · rw [if_neg e]; exact h j (by omega)
theorem own_T.one {f : Nat → Int32} : own_T f (fun _ => 0) 1 := fun j hj => by
  rw [show j = 0 by omega]; exact ⟨by decide, own_Max0⟩
theorem own_ltn {x L n : Int32} (h : x < L) (hn : ¬ n < L) : x < n := by
  rw [Int32.lt_iff_toInt_lt] at *; omega
theorem own_nat {x : Int32} (h : ¬ x < 0) : x.toInt = x.toNatClampNeg := nat_of h
theorem own_idx {x n : Int32} (h : ¬ x < 0) (hn : ¬ n < 0) (hl : x.toNatClampNeg < n.toNatClampNeg) : ¬ x < 0 ∧ x < n := ⟨h, by
  have a := nat_of h; have b := nat_of hn
  rw [Int32.lt_iff_toInt_lt]; omega⟩
theorem own_add1 {x n : Int32} (h : ¬ x < 0) (hl : x.toNatClampNeg < n.toNatClampNeg) : ¬ (x + 1) < 0 ∧ (x + 1).toNatClampNeg = x.toNatClampNeg + 1 := by
  have a := nat_of h
  have c := c_iadd x 1
  have q1 : (1 : Int32).toInt = 1 := by decide
  have q0 : (0 : Int32).toInt = 0 := by decide
  have r := rng32 n
  have r1 := rng32 (x + 1)
  have en : n.toNatClampNeg = n.toInt.toNat := rfl
  have e1 : (x + 1).toNatClampNeg = (x + 1).toInt.toNat := rfl
  rw [Int32.lt_iff_toInt_lt] at *
  omega
theorem own_sub1 {x : Int32} (h : 0 < x) : ¬ (x - 1) < 0 ∧ (x - 1).toNatClampNeg = x.toNatClampNeg - 1 ∧ 0 < x.toNatClampNeg := by
  have c := c_isub x 1
  have q1 : (1 : Int32).toInt = 1 := by decide
  have q0 : (0 : Int32).toInt = 0 := by decide
  have r := rng32 x
  have r1 := rng32 (x - 1)
  have en : x.toNatClampNeg = x.toInt.toNat := rfl
  have e1 : (x - 1).toNatClampNeg = (x - 1).toInt.toNat := rfl
  rw [Int32.lt_iff_toInt_lt] at *
  omega
theorem own_zero {x : Int32} (h : ¬ x < 0) (h2 : ¬ 0 < x) : x.toNatClampNeg = 0 := by
  have q0 : (0 : Int32).toInt = 0 := by decide
  have en : x.toNatClampNeg = x.toInt.toNat := rfl
  rw [Int32.lt_iff_toInt_lt] at *
  omega
theorem own_pos {x : Int32} (h : x.toNatClampNeg ≤ 0) : ¬ 0 < x := by
  have q0 : (0 : Int32).toInt = 0 := by decide
  have en : x.toNatClampNeg = x.toInt.toNat := rfl
  rw [Int32.lt_iff_toInt_lt]
  omega
theorem own_n7 (x : Int32) : (x &&& 2147483647) % 7 = 0 ∨ (x &&& 2147483647) % 7 = 1 ∨ (x &&& 2147483647) % 7 = 2 ∨ (x &&& 2147483647) % 7 = 3 ∨ (x &&& 2147483647) % 7 = 4 ∨ (x &&& 2147483647) % 7 = 5 ∨ (x &&& 2147483647) % 7 = 6 := by
  have h1 := c_mask x 2147483647 31 (by omega) (by decide)
  have h2 := (c_irem (x &&& 2147483647) 7 7 (by decide)).1 (by rw [h1]; exact Int.emod_nonneg _ (by decide))
  have q : ∀ k : Int32, ((x &&& 2147483647) % 7).toInt = k.toInt → (x &&& 2147483647) % 7 = k := fun k => Int32.toInt_inj.mp
  rcases (by omega : ((x &&& 2147483647) % 7).toInt = 0 ∨ ((x &&& 2147483647) % 7).toInt = 1 ∨ ((x &&& 2147483647) % 7).toInt = 2 ∨ ((x &&& 2147483647) % 7).toInt = 3 ∨ ((x &&& 2147483647) % 7).toInt = 4 ∨ ((x &&& 2147483647) % 7).toInt = 5 ∨ ((x &&& 2147483647) % 7).toInt = 6) with h | h | h | h | h | h | h
  · exact Or.inl (q 0 (by rw [h]; decide))
  · exact Or.inr (Or.inl (q 1 (by rw [h]; decide)))
  · exact Or.inr (Or.inr (Or.inl (q 2 (by rw [h]; decide))))
  · exact Or.inr (Or.inr (Or.inr (Or.inl (q 3 (by rw [h]; decide)))))
  · exact Or.inr (Or.inr (Or.inr (Or.inr (Or.inl (q 4 (by rw [h]; decide))))))
  · exact Or.inr (Or.inr (Or.inr (Or.inr (Or.inr (Or.inl (q 5 (by rw [h]; decide)))))))
  · exact Or.inr (Or.inr (Or.inr (Or.inr (Or.inr (Or.inr (q 6 (by rw [h]; decide)))))))
def own_QE (h0 : Heap) (n0 : Nat) (v : Option Value) (h : Heap) (L : List Loc) : Prop := ∃ z : Int32, v = some (.int z) ∧ Fr n0 L ∧ h = h0
def own_QB (f : Nat → Int32) (i : Nat) (h0 : Heap) (n0 : Nat) (v : Option Value) (h : Heap) (L : List Loc) : Prop := ∃ r : Int32, v = some (.int r) ∧ Fr n0 L ∧ h = h0 ∧ ¬ r < 0 ∧ own_Max f i r.toNatClampNeg
def own_QT (Z : State) (f : Nat → Int32) (n : Int32) (h0 : Heap) (n0 : Nat) (v : Option Value) (h : Heap) (L : List Loc) : Prop := ∃ (r : Addr) (kt : ClassId) (g : Nat → Int32), v = some (.ref r) ∧ Fr n0 L ∧ Keep h0 h [] ∧ h0.size ≤ r ∧ own_Arf Z h r kt .int n g ∧ own_T f g n.toNatClampNeg
theorem d1_0 : decode method_2_code 0 = .ok (.iload_n 0, 1) := by decide +kernel
theorem d1_1 : decode method_2_code 1 = .ok (.iconst 2, 1) := by decide +kernel
theorem d1_2 : decode method_2_code 2 = .ok (.iload_n 1, 1) := by decide +kernel
theorem d1_3 : decode method_2_code 3 = .ok (.imul, 1) := by decide +kernel
theorem d1_4 : decode method_2_code 4 = .ok (.iushr, 1) := by decide +kernel
theorem d1_5 : decode method_2_code 5 = .ok (.iconst 3, 1) := by decide +kernel
theorem d1_6 : decode method_2_code 6 = .ok (.iand, 1) := by decide +kernel
theorem d1_7 : decode method_2_code 7 = .ok (.istore 5, 2) := by decide +kernel
theorem d1_9 : decode method_2_code 9 = .ok (.iload 5, 2) := by decide +kernel
theorem d1_11 : decode method_2_code 11 = .ok (.iconst 1, 1) := by decide +kernel
theorem d1_12 : decode method_2_code 12 = .ok (.if_icmp .ne 7, 3) := by decide +kernel
theorem d1_15 : decode method_2_code 15 = .ok (.iload_n 3, 1) := by decide +kernel
theorem d1_16 : decode method_2_code 16 = .ok (.goto 15, 3) := by decide +kernel
theorem d1_19 : decode method_2_code 19 = .ok (.iload 5, 2) := by decide +kernel
theorem d1_21 : decode method_2_code 21 = .ok (.iconst 2, 1) := by decide +kernel
theorem d1_22 : decode method_2_code 22 = .ok (.if_icmp .ne 8, 3) := by decide +kernel
theorem d1_25 : decode method_2_code 25 = .ok (.iload 4, 2) := by decide +kernel
theorem d1_27 : decode method_2_code 27 = .ok (.goto 4, 3) := by decide +kernel
theorem d1_30 : decode method_2_code 30 = .ok (.iload_n 2, 1) := by decide +kernel
theorem d1_31 : decode method_2_code 31 = .ok (.i2b, 1) := by decide +kernel
theorem d1_32 : decode method_2_code 32 = .ok (.ireturn, 1) := by decide +kernel
theorem pn_1 : plainFor (⟨"com/example/needlewise/needlewise/KnuthMorrisPrattPartialMatchPinLaw", "pick", "(IIIII)B"⟩ : MethodName) = true := plainFor_of_name (by first | (simp [plainName, overriddenIn]; done) | decide +kernel)
theorem ef_1 (m : MethodId) (x0 : Int32) (x1 : Int32) (x2 : Int32) (x3 : Int32) (x4 : Int32) : entryFrame m #[(.int x0), (.int x1), (.int x2), (.int x3), (.int x4)] 6 = mkF m 0 #[.val (.int x0), .val (.int x1), .val (.int x2), .val (.int x3), .val (.int x4), .unset] [] := by first | (simp [entryFrame, mkF, argsToLocals, Value.category]; done) | rfl
set_option maxRecDepth 65536 in
set_option maxHeartbeats 40000000 in
theorem rm1 (l : Launch) (Z : State) (a0 : Array Value) (hw : ∀ d ∈ tables_1, d.before a0 Z = true) (p1 : Int32) (p2 : Int32) (p3 : Int32) (p4 : Int32) (p5 : Int32)  (h0 : Heap) (n0 : Nat) (Z0 : n0 ≤ h0.size)  :
    own_Met l Z [] (⟨"com/example/needlewise/needlewise/KnuthMorrisPrattPartialMatchPinLaw", "pick", "(IIIII)B"⟩ : MethodName) method_2_code 6 (some .byte) ({ frames := 0, cells := 0, slots := 0, locals := 0 } : Room) #[(.int p1), (.int p2), (.int p3), (.int p4), (.int p5)] h0 (own_QE h0 n0) := by
  refine own_enter pn_1 ?_
  intro p e s m below meth c s₁ X0 hx hby hml hown hret hlk hnm hZ e0
  have hml : c.maxLocals = 6 := hml
  have N0 := Fr.nil n0
  rw [ef_1 m p1 p2 p3 p4 p5]
  show own_Fin p e below s _ _ _ (s₁.setTop (mkF m 0 #[.val (.int p1), .val (.int p2), .val (.int p3), .val (.int p4), .val (.int p5), .unset] []))
  refine own_Fin.step (fun _ => XS.iloadN X0.here hx rfl (hb hby d1_0) rfl) ?_
  show own_Fin p e below s _ _ _ (s₁.setTop (mkF m 1 #[.val (.int p1), .val (.int p2), .val (.int p3), .val (.int p4), .val (.int p5), .unset] [(.int p1)]))
  refine own_Fin.step (fun _ => XS.iconst X0.here hx rfl (hb hby d1_1)) ?_
  show own_Fin p e below s _ _ _ (s₁.setTop (mkF m 2 #[.val (.int p1), .val (.int p2), .val (.int p3), .val (.int p4), .val (.int p5), .unset] [(.int (2 : Int32)), (.int p1)]))
  refine own_Fin.step (fun _ => XS.iloadN X0.here hx rfl (hb hby d1_2) rfl) ?_
  show own_Fin p e below s _ _ _ (s₁.setTop (mkF m 3 #[.val (.int p1), .val (.int p2), .val (.int p3), .val (.int p4), .val (.int p5), .unset] [(.int p2), (.int (2 : Int32)), (.int p1)]))
  refine own_Fin.step (fun _ => XS.imul X0.here hx rfl (hb hby d1_3) rfl) ?_
  show own_Fin p e below s _ _ _ (s₁.setTop (mkF m 4 #[.val (.int p1), .val (.int p2), .val (.int p3), .val (.int p4), .val (.int p5), .unset] [(.int ((2 : Int32) * p2)), (.int p1)]))
  refine own_Fin.step (fun _ => XS.iushr X0.here hx rfl (hb hby d1_4) rfl) ?_
  show own_Fin p e below s _ _ _ (s₁.setTop (mkF m 5 #[.val (.int p1), .val (.int p2), .val (.int p3), .val (.int p4), .val (.int p5), .unset] [(.int ((p1.toUInt32 >>> (((2 : Int32) * p2) &&& 31).toUInt32).toInt32))]))
  refine own_Fin.step (fun _ => XS.iconst X0.here hx rfl (hb hby d1_5)) ?_
  show own_Fin p e below s _ _ _ (s₁.setTop (mkF m 6 #[.val (.int p1), .val (.int p2), .val (.int p3), .val (.int p4), .val (.int p5), .unset] [(.int (3 : Int32)), (.int ((p1.toUInt32 >>> (((2 : Int32) * p2) &&& 31).toUInt32).toInt32))]))
  refine own_Fin.step (fun _ => XS.iand X0.here hx rfl (hb hby d1_6) rfl) ?_
  show own_Fin p e below s _ _ _ (s₁.setTop (mkF m 7 #[.val (.int p1), .val (.int p2), .val (.int p3), .val (.int p4), .val (.int p5), .unset] [(.int (((p1.toUInt32 >>> (((2 : Int32) * p2) &&& 31).toUInt32).toInt32) &&& (3 : Int32)))]))
  refine own_Fin.step (fun _ => XS.istore X0.here hx rfl (hb hby d1_7) rfl (l' := #[.val (.int p1), .val (.int p2), .val (.int p3), .val (.int p4), .val (.int p5), .val (.int (((p1.toUInt32 >>> (((2 : Int32) * p2) &&& 31).toUInt32).toInt32) &&& (3 : Int32)))]) rfl) ?_
  show own_Fin p e below s _ _ _ (s₁.setTop (mkF m 9 #[.val (.int p1), .val (.int p2), .val (.int p3), .val (.int p4), .val (.int p5), .val (.int (((p1.toUInt32 >>> (((2 : Int32) * p2) &&& 31).toUInt32).toInt32) &&& (3 : Int32)))] []))
  refine own_Fin.step (fun _ => XS.iload X0.here hx rfl (hb hby d1_9) rfl) ?_
  show own_Fin p e below s _ _ _ (s₁.setTop (mkF m 11 #[.val (.int p1), .val (.int p2), .val (.int p3), .val (.int p4), .val (.int p5), .val (.int (((p1.toUInt32 >>> (((2 : Int32) * p2) &&& 31).toUInt32).toInt32) &&& (3 : Int32)))] [(.int (((p1.toUInt32 >>> (((2 : Int32) * p2) &&& 31).toUInt32).toInt32) &&& (3 : Int32)))]))
  refine own_Fin.step (fun _ => XS.iconst X0.here hx rfl (hb hby d1_11)) ?_
  show own_Fin p e below s _ _ _ (s₁.setTop (mkF m 12 #[.val (.int p1), .val (.int p2), .val (.int p3), .val (.int p4), .val (.int p5), .val (.int (((p1.toUInt32 >>> (((2 : Int32) * p2) &&& 31).toUInt32).toInt32) &&& (3 : Int32)))] [(.int (1 : Int32)), (.int (((p1.toUInt32 >>> (((2 : Int32) * p2) &&& 31).toUInt32).toInt32) &&& (3 : Int32)))]))
  by_cases hc12_1 : (((p1.toUInt32 >>> (((2 : Int32) * p2) &&& 31).toUInt32).toInt32) &&& (3 : Int32)) = (1 : Int32)
  ·
    refine own_Fin.step (fun _ => XS.icmpNo X0.here hx rfl (hb hby d1_12) rfl (XT.ii_ne_f hc12_1)) ?_
    show own_Fin p e below s _ _ _ (s₁.setTop (mkF m 15 #[.val (.int p1), .val (.int p2), .val (.int p3), .val (.int p4), .val (.int p5), .val (.int (((p1.toUInt32 >>> (((2 : Int32) * p2) &&& 31).toUInt32).toInt32) &&& (3 : Int32)))] []))
    refine own_Fin.step (fun _ => XS.iloadN X0.here hx rfl (hb hby d1_15) rfl) ?_
    show own_Fin p e below s _ _ _ (s₁.setTop (mkF m 16 #[.val (.int p1), .val (.int p2), .val (.int p3), .val (.int p4), .val (.int p5), .val (.int (((p1.toUInt32 >>> (((2 : Int32) * p2) &&& 31).toUInt32).toInt32) &&& (3 : Int32)))] [(.int p4)]))
    refine own_Fin.step (fun _ => XS.goto X0.here hx rfl (pc0 := 16) (pc' := 31) rfl (hb hby d1_16) (by decide) (by decide)) ?_
    show own_Fin p e below s _ _ _ (s₁.setTop (mkF m 31 #[.val (.int p1), .val (.int p2), .val (.int p3), .val (.int p4), .val (.int p5), .val (.int (((p1.toUInt32 >>> (((2 : Int32) * p2) &&& 31).toUInt32).toInt32) &&& (3 : Int32)))] [(.int p4)]))
    refine own_Fin.step (fun _ => XS.i2b X0.here hx rfl (hb hby d1_31) rfl) ?_
    show own_Fin p e below s _ _ _ (s₁.setTop (mkF m 32 #[.val (.int p1), .val (.int p2), .val (.int p3), .val (.int p4), .val (.int p5), .val (.int (((p1.toUInt32 >>> (((2 : Int32) * p2) &&& 31).toUInt32).toInt32) &&& (3 : Int32)))] [(.int (p4.toInt8.toInt32))]))
    exact own_retN X0 hx hlk (t := .byte) hret (by simp) (hb hby d1_32) ⟨_, rfl, N0, e0⟩ (by decide) (by decide)
  ·
    refine own_Fin.step (fun _ => XS.icmpYes X0.here hx rfl (pc0 := 12) (pc' := 19) rfl (hb hby d1_12) rfl (XT.ii_ne_t hc12_1) (by decide) (by decide)) ?_
    show own_Fin p e below s _ _ _ (s₁.setTop (mkF m 19 #[.val (.int p1), .val (.int p2), .val (.int p3), .val (.int p4), .val (.int p5), .val (.int (((p1.toUInt32 >>> (((2 : Int32) * p2) &&& 31).toUInt32).toInt32) &&& (3 : Int32)))] []))
    refine own_Fin.step (fun _ => XS.iload X0.here hx rfl (hb hby d1_19) rfl) ?_
    show own_Fin p e below s _ _ _ (s₁.setTop (mkF m 21 #[.val (.int p1), .val (.int p2), .val (.int p3), .val (.int p4), .val (.int p5), .val (.int (((p1.toUInt32 >>> (((2 : Int32) * p2) &&& 31).toUInt32).toInt32) &&& (3 : Int32)))] [(.int (((p1.toUInt32 >>> (((2 : Int32) * p2) &&& 31).toUInt32).toInt32) &&& (3 : Int32)))]))
    refine own_Fin.step (fun _ => XS.iconst X0.here hx rfl (hb hby d1_21)) ?_
    show own_Fin p e below s _ _ _ (s₁.setTop (mkF m 22 #[.val (.int p1), .val (.int p2), .val (.int p3), .val (.int p4), .val (.int p5), .val (.int (((p1.toUInt32 >>> (((2 : Int32) * p2) &&& 31).toUInt32).toInt32) &&& (3 : Int32)))] [(.int (2 : Int32)), (.int (((p1.toUInt32 >>> (((2 : Int32) * p2) &&& 31).toUInt32).toInt32) &&& (3 : Int32)))]))
    by_cases hc22_2 : (((p1.toUInt32 >>> (((2 : Int32) * p2) &&& 31).toUInt32).toInt32) &&& (3 : Int32)) = (2 : Int32)
    ·
      refine own_Fin.step (fun _ => XS.icmpNo X0.here hx rfl (hb hby d1_22) rfl (XT.ii_ne_f hc22_2)) ?_
      show own_Fin p e below s _ _ _ (s₁.setTop (mkF m 25 #[.val (.int p1), .val (.int p2), .val (.int p3), .val (.int p4), .val (.int p5), .val (.int (((p1.toUInt32 >>> (((2 : Int32) * p2) &&& 31).toUInt32).toInt32) &&& (3 : Int32)))] []))
      refine own_Fin.step (fun _ => XS.iload X0.here hx rfl (hb hby d1_25) rfl) ?_
      show own_Fin p e below s _ _ _ (s₁.setTop (mkF m 27 #[.val (.int p1), .val (.int p2), .val (.int p3), .val (.int p4), .val (.int p5), .val (.int (((p1.toUInt32 >>> (((2 : Int32) * p2) &&& 31).toUInt32).toInt32) &&& (3 : Int32)))] [(.int p5)]))
      refine own_Fin.step (fun _ => XS.goto X0.here hx rfl (pc0 := 27) (pc' := 31) rfl (hb hby d1_27) (by decide) (by decide)) ?_
      show own_Fin p e below s _ _ _ (s₁.setTop (mkF m 31 #[.val (.int p1), .val (.int p2), .val (.int p3), .val (.int p4), .val (.int p5), .val (.int (((p1.toUInt32 >>> (((2 : Int32) * p2) &&& 31).toUInt32).toInt32) &&& (3 : Int32)))] [(.int p5)]))
      refine own_Fin.step (fun _ => XS.i2b X0.here hx rfl (hb hby d1_31) rfl) ?_
      show own_Fin p e below s _ _ _ (s₁.setTop (mkF m 32 #[.val (.int p1), .val (.int p2), .val (.int p3), .val (.int p4), .val (.int p5), .val (.int (((p1.toUInt32 >>> (((2 : Int32) * p2) &&& 31).toUInt32).toInt32) &&& (3 : Int32)))] [(.int (p5.toInt8.toInt32))]))
      exact own_retN X0 hx hlk (t := .byte) hret (by simp) (hb hby d1_32) ⟨_, rfl, N0, e0⟩ (by decide) (by decide)
    ·
      refine own_Fin.step (fun _ => XS.icmpYes X0.here hx rfl (pc0 := 22) (pc' := 30) rfl (hb hby d1_22) rfl (XT.ii_ne_t hc22_2) (by decide) (by decide)) ?_
      show own_Fin p e below s _ _ _ (s₁.setTop (mkF m 30 #[.val (.int p1), .val (.int p2), .val (.int p3), .val (.int p4), .val (.int p5), .val (.int (((p1.toUInt32 >>> (((2 : Int32) * p2) &&& 31).toUInt32).toInt32) &&& (3 : Int32)))] []))
      refine own_Fin.step (fun _ => XS.iloadN X0.here hx rfl (hb hby d1_30) rfl) ?_
      show own_Fin p e below s _ _ _ (s₁.setTop (mkF m 31 #[.val (.int p1), .val (.int p2), .val (.int p3), .val (.int p4), .val (.int p5), .val (.int (((p1.toUInt32 >>> (((2 : Int32) * p2) &&& 31).toUInt32).toInt32) &&& (3 : Int32)))] [(.int p3)]))
      refine own_Fin.step (fun _ => XS.i2b X0.here hx rfl (hb hby d1_31) rfl) ?_
      show own_Fin p e below s _ _ _ (s₁.setTop (mkF m 32 #[.val (.int p1), .val (.int p2), .val (.int p3), .val (.int p4), .val (.int p5), .val (.int (((p1.toUInt32 >>> (((2 : Int32) * p2) &&& 31).toUInt32).toInt32) &&& (3 : Int32)))] [(.int (p3.toInt8.toInt32))]))
      exact own_retN X0 hx hlk (t := .byte) hret (by simp) (hb hby d1_32) ⟨_, rfl, N0, e0⟩ (by decide) (by decide)
theorem d2_0 : decode method_3_code 0 = .ok (.iload_n 2, 1) := by decide +kernel
theorem d2_1 : decode method_3_code 1 = .ok (.iconst 1, 1) := by decide +kernel
theorem d2_2 : decode method_3_code 2 = .ok (.if_icmp .lt 12, 3) := by decide +kernel
theorem d2_5 : decode method_3_code 5 = .ok (.aload_n 0, 1) := by decide +kernel
theorem d2_6 : decode method_3_code 6 = .ok (.iconst 0, 1) := by decide +kernel
theorem d2_7 : decode method_3_code 7 = .ok (.baload, 1) := by decide +kernel
theorem d2_8 : decode method_3_code 8 = .ok (.aload_n 0, 1) := by decide +kernel
theorem d2_9 : decode method_3_code 9 = .ok (.iload_n 1, 1) := by decide +kernel
theorem d2_10 : decode method_3_code 10 = .ok (.baload, 1) := by decide +kernel
theorem d2_11 : decode method_3_code 11 = .ok (.if_icmp .ne 71, 3) := by decide +kernel
theorem d2_14 : decode method_3_code 14 = .ok (.iload_n 2, 1) := by decide +kernel
theorem d2_15 : decode method_3_code 15 = .ok (.iconst 2, 1) := by decide +kernel
theorem d2_16 : decode method_3_code 16 = .ok (.if_icmp .lt 14, 3) := by decide +kernel
theorem d2_19 : decode method_3_code 19 = .ok (.aload_n 0, 1) := by decide +kernel
theorem d2_20 : decode method_3_code 20 = .ok (.iconst 1, 1) := by decide +kernel
theorem d2_21 : decode method_3_code 21 = .ok (.baload, 1) := by decide +kernel
theorem d2_22 : decode method_3_code 22 = .ok (.aload_n 0, 1) := by decide +kernel
theorem d2_23 : decode method_3_code 23 = .ok (.iload_n 1, 1) := by decide +kernel
theorem d2_24 : decode method_3_code 24 = .ok (.iconst 1, 1) := by decide +kernel
theorem d2_25 : decode method_3_code 25 = .ok (.iadd, 1) := by decide +kernel
theorem d2_26 : decode method_3_code 26 = .ok (.baload, 1) := by decide +kernel
theorem d2_27 : decode method_3_code 27 = .ok (.if_icmp .ne 55, 3) := by decide +kernel
theorem d2_30 : decode method_3_code 30 = .ok (.iload_n 2, 1) := by decide +kernel
theorem d2_31 : decode method_3_code 31 = .ok (.iconst 3, 1) := by decide +kernel
theorem d2_32 : decode method_3_code 32 = .ok (.if_icmp .lt 14, 3) := by decide +kernel
theorem d2_35 : decode method_3_code 35 = .ok (.aload_n 0, 1) := by decide +kernel
theorem d2_36 : decode method_3_code 36 = .ok (.iconst 2, 1) := by decide +kernel
theorem d2_37 : decode method_3_code 37 = .ok (.baload, 1) := by decide +kernel
theorem d2_38 : decode method_3_code 38 = .ok (.aload_n 0, 1) := by decide +kernel
theorem d2_39 : decode method_3_code 39 = .ok (.iload_n 1, 1) := by decide +kernel
theorem d2_40 : decode method_3_code 40 = .ok (.iconst 2, 1) := by decide +kernel
theorem d2_41 : decode method_3_code 41 = .ok (.iadd, 1) := by decide +kernel
theorem d2_42 : decode method_3_code 42 = .ok (.baload, 1) := by decide +kernel
theorem d2_43 : decode method_3_code 43 = .ok (.if_icmp .ne 39, 3) := by decide +kernel
theorem d2_46 : decode method_3_code 46 = .ok (.iload_n 2, 1) := by decide +kernel
theorem d2_47 : decode method_3_code 47 = .ok (.iconst 4, 1) := by decide +kernel
theorem d2_48 : decode method_3_code 48 = .ok (.if_icmp .lt 14, 3) := by decide +kernel
theorem d2_51 : decode method_3_code 51 = .ok (.aload_n 0, 1) := by decide +kernel
theorem d2_52 : decode method_3_code 52 = .ok (.iconst 3, 1) := by decide +kernel
theorem d2_53 : decode method_3_code 53 = .ok (.baload, 1) := by decide +kernel
theorem d2_54 : decode method_3_code 54 = .ok (.aload_n 0, 1) := by decide +kernel
theorem d2_55 : decode method_3_code 55 = .ok (.iload_n 1, 1) := by decide +kernel
theorem d2_56 : decode method_3_code 56 = .ok (.iconst 3, 1) := by decide +kernel
theorem d2_57 : decode method_3_code 57 = .ok (.iadd, 1) := by decide +kernel
theorem d2_58 : decode method_3_code 58 = .ok (.baload, 1) := by decide +kernel
theorem d2_59 : decode method_3_code 59 = .ok (.if_icmp .ne 23, 3) := by decide +kernel
theorem d2_62 : decode method_3_code 62 = .ok (.iload_n 2, 1) := by decide +kernel
theorem d2_63 : decode method_3_code 63 = .ok (.iconst 5, 1) := by decide +kernel
theorem d2_64 : decode method_3_code 64 = .ok (.if_icmp .lt 14, 3) := by decide +kernel
theorem d2_67 : decode method_3_code 67 = .ok (.aload_n 0, 1) := by decide +kernel
theorem d2_68 : decode method_3_code 68 = .ok (.iconst 4, 1) := by decide +kernel
theorem d2_69 : decode method_3_code 69 = .ok (.baload, 1) := by decide +kernel
theorem d2_70 : decode method_3_code 70 = .ok (.aload_n 0, 1) := by decide +kernel
theorem d2_71 : decode method_3_code 71 = .ok (.iload_n 1, 1) := by decide +kernel
theorem d2_72 : decode method_3_code 72 = .ok (.iconst 4, 1) := by decide +kernel
theorem d2_73 : decode method_3_code 73 = .ok (.iadd, 1) := by decide +kernel
theorem d2_74 : decode method_3_code 74 = .ok (.baload, 1) := by decide +kernel
theorem d2_75 : decode method_3_code 75 = .ok (.if_icmp .ne 7, 3) := by decide +kernel
theorem d2_78 : decode method_3_code 78 = .ok (.iconst 1, 1) := by decide +kernel
theorem d2_79 : decode method_3_code 79 = .ok (.goto 4, 3) := by decide +kernel
theorem d2_82 : decode method_3_code 82 = .ok (.iconst 0, 1) := by decide +kernel
theorem d2_83 : decode method_3_code 83 = .ok (.ireturn, 1) := by decide +kernel
theorem pn_2 : plainFor (⟨"com/example/needlewise/needlewise/KnuthMorrisPrattPartialMatchPinLaw", "eq", "([BII)Z"⟩ : MethodName) = true := plainFor_of_name (by first | (simp [plainName, overriddenIn]; done) | decide +kernel)
theorem ef_2 (m : MethodId) (x0 : Addr) (x1 : Int32) (x2 : Int32) : entryFrame m #[(.ref x0), (.int x1), (.int x2)] 3 = mkF m 0 #[.val (.ref x0), .val (.int x1), .val (.int x2)] [] := by first | (simp [entryFrame, mkF, argsToLocals, Value.category]; done) | rfl
set_option maxRecDepth 65536 in
set_option maxHeartbeats 40000000 in
theorem rm2e1 (l : Launch) (Z : State) (a0 : Array Value) (hw : ∀ d ∈ tables_1, d.before a0 Z = true) (a1 : Addr) (p2 : Int32) (ka : ClassId) (n : Int32) (f : Nat → Int32) (i : Nat) (h0 : Heap) (n0 : Nat) (Z0 : n0 ≤ h0.size) (F : own_Arf Z h0 a1 ka .byte n f) (c0 : ¬ (0 : Int32) < 0 ∧ (0 : Int32) < n) (j0 : ¬ p2 < 0 ∧ p2 < n) (t0 : (p2).toNatClampNeg = i + 1 - 1 + 0) :
    own_Met l Z [] (⟨"com/example/needlewise/needlewise/KnuthMorrisPrattPartialMatchPinLaw", "eq", "([BII)Z"⟩ : MethodName) method_3_code 3 (some .boolean) ({ frames := 0, cells := 0, slots := 0, locals := 0 } : Room) #[(.ref a1), (.int p2), (.int (1 : Int32))] h0 (own_QP (some (.int (own_ind (own_Bd f i 1)))) h0 n0) := by
  refine own_enter pn_2 ?_
  intro p e s m below meth c s₁ X0 hx hby hml hown hret hlk hnm hZ e0
  have hml : c.maxLocals = 3 := hml
  have N0 := Fr.nil n0
  rw [ef_2 m a1 p2 (1 : Int32)]
  show own_Fin p e below s _ _ _ (s₁.setTop (mkF m 0 #[.val (.ref a1), .val (.int p2), .val (.int (1 : Int32))] []))
  refine own_Fin.step (fun _ => XS.iloadN X0.here hx rfl (hb hby d2_0) rfl) ?_
  show own_Fin p e below s _ _ _ (s₁.setTop (mkF m 1 #[.val (.ref a1), .val (.int p2), .val (.int (1 : Int32))] [(.int (1 : Int32))]))
  refine own_Fin.step (fun _ => XS.iconst X0.here hx rfl (hb hby d2_1)) ?_
  show own_Fin p e below s _ _ _ (s₁.setTop (mkF m 2 #[.val (.ref a1), .val (.int p2), .val (.int (1 : Int32))] [(.int (1 : Int32)), (.int (1 : Int32))]))
  refine own_Fin.step (fun _ => XS.icmpNo X0.here hx rfl (hb hby d2_2) rfl (XT.ii_lt_f (by decide : ¬ ((1 : Int32) < (1 : Int32))))) ?_
  show own_Fin p e below s _ _ _ (s₁.setTop (mkF m 5 #[.val (.ref a1), .val (.int p2), .val (.int (1 : Int32))] []))
  refine own_Fin.step (fun _ => XS.aloadN X0.here hx rfl (hb hby d2_5) rfl rfl) ?_
  show own_Fin p e below s _ _ _ (s₁.setTop (mkF m 6 #[.val (.ref a1), .val (.int p2), .val (.int (1 : Int32))] [(.ref a1)]))
  refine own_Fin.step (fun _ => XS.iconst X0.here hx rfl (hb hby d2_6)) ?_
  show own_Fin p e below s _ _ _ (s₁.setTop (mkF m 7 #[.val (.ref a1), .val (.int p2), .val (.int (1 : Int32))] [(.int (0 : Int32)), (.ref a1)]))
  refine own_Fin.step (own_ldFB X0 hx hZ e0 F (j := (0 : Int32)) c0 (g := (mkF m 7 #[.val (.ref a1), .val (.int p2), .val (.int (1 : Int32))] [(.int (0 : Int32)), (.ref a1)])) rfl rfl (hb hby d2_7)) ?_
  show own_Fin p e below s _ _ _ (s₁.setTop (mkF m 8 #[.val (.ref a1), .val (.int p2), .val (.int (1 : Int32))] [(.int (f ((0 : Int32)).toNatClampNeg))]))
  refine own_Fin.step (fun _ => XS.aloadN X0.here hx rfl (hb hby d2_8) rfl rfl) ?_
  show own_Fin p e below s _ _ _ (s₁.setTop (mkF m 9 #[.val (.ref a1), .val (.int p2), .val (.int (1 : Int32))] [(.ref a1), (.int (f ((0 : Int32)).toNatClampNeg))]))
  refine own_Fin.step (fun _ => XS.iloadN X0.here hx rfl (hb hby d2_9) rfl) ?_
  show own_Fin p e below s _ _ _ (s₁.setTop (mkF m 10 #[.val (.ref a1), .val (.int p2), .val (.int (1 : Int32))] [(.int p2), (.ref a1), (.int (f ((0 : Int32)).toNatClampNeg))]))
  refine own_Fin.step (own_ldFB X0 hx hZ e0 F (j := p2) j0 (g := (mkF m 10 #[.val (.ref a1), .val (.int p2), .val (.int (1 : Int32))] [(.int p2), (.ref a1), (.int (f ((0 : Int32)).toNatClampNeg))])) rfl rfl (hb hby d2_10)) ?_
  show own_Fin p e below s _ _ _ (s₁.setTop (mkF m 11 #[.val (.ref a1), .val (.int p2), .val (.int (1 : Int32))] [(.int (f (p2).toNatClampNeg)), (.int (f ((0 : Int32)).toNatClampNeg))]))
  by_cases hc11_1 : (f ((0 : Int32)).toNatClampNeg) = (f (p2).toNatClampNeg)
  ·
    refine own_Fin.step (fun _ => XS.icmpNo X0.here hx rfl (hb hby d2_11) rfl (XT.ii_ne_f hc11_1)) ?_
    show own_Fin p e below s _ _ _ (s₁.setTop (mkF m 14 #[.val (.ref a1), .val (.int p2), .val (.int (1 : Int32))] []))
    refine own_Fin.step (fun _ => XS.iloadN X0.here hx rfl (hb hby d2_14) rfl) ?_
    show own_Fin p e below s _ _ _ (s₁.setTop (mkF m 15 #[.val (.ref a1), .val (.int p2), .val (.int (1 : Int32))] [(.int (1 : Int32))]))
    refine own_Fin.step (fun _ => XS.iconst X0.here hx rfl (hb hby d2_15)) ?_
    show own_Fin p e below s _ _ _ (s₁.setTop (mkF m 16 #[.val (.ref a1), .val (.int p2), .val (.int (1 : Int32))] [(.int (2 : Int32)), (.int (1 : Int32))]))
    refine own_Fin.step (fun _ => XS.icmpYes X0.here hx rfl (pc0 := 16) (pc' := 30) rfl (hb hby d2_16) rfl (XT.ii_lt_t (by decide : (1 : Int32) < (2 : Int32))) (by decide) (by decide)) ?_
    show own_Fin p e below s _ _ _ (s₁.setTop (mkF m 30 #[.val (.ref a1), .val (.int p2), .val (.int (1 : Int32))] []))
    refine own_Fin.step (fun _ => XS.iloadN X0.here hx rfl (hb hby d2_30) rfl) ?_
    show own_Fin p e below s _ _ _ (s₁.setTop (mkF m 31 #[.val (.ref a1), .val (.int p2), .val (.int (1 : Int32))] [(.int (1 : Int32))]))
    refine own_Fin.step (fun _ => XS.iconst X0.here hx rfl (hb hby d2_31)) ?_
    show own_Fin p e below s _ _ _ (s₁.setTop (mkF m 32 #[.val (.ref a1), .val (.int p2), .val (.int (1 : Int32))] [(.int (3 : Int32)), (.int (1 : Int32))]))
    refine own_Fin.step (fun _ => XS.icmpYes X0.here hx rfl (pc0 := 32) (pc' := 46) rfl (hb hby d2_32) rfl (XT.ii_lt_t (by decide : (1 : Int32) < (3 : Int32))) (by decide) (by decide)) ?_
    show own_Fin p e below s _ _ _ (s₁.setTop (mkF m 46 #[.val (.ref a1), .val (.int p2), .val (.int (1 : Int32))] []))
    refine own_Fin.step (fun _ => XS.iloadN X0.here hx rfl (hb hby d2_46) rfl) ?_
    show own_Fin p e below s _ _ _ (s₁.setTop (mkF m 47 #[.val (.ref a1), .val (.int p2), .val (.int (1 : Int32))] [(.int (1 : Int32))]))
    refine own_Fin.step (fun _ => XS.iconst X0.here hx rfl (hb hby d2_47)) ?_
    show own_Fin p e below s _ _ _ (s₁.setTop (mkF m 48 #[.val (.ref a1), .val (.int p2), .val (.int (1 : Int32))] [(.int (4 : Int32)), (.int (1 : Int32))]))
    refine own_Fin.step (fun _ => XS.icmpYes X0.here hx rfl (pc0 := 48) (pc' := 62) rfl (hb hby d2_48) rfl (XT.ii_lt_t (by decide : (1 : Int32) < (4 : Int32))) (by decide) (by decide)) ?_
    show own_Fin p e below s _ _ _ (s₁.setTop (mkF m 62 #[.val (.ref a1), .val (.int p2), .val (.int (1 : Int32))] []))
    refine own_Fin.step (fun _ => XS.iloadN X0.here hx rfl (hb hby d2_62) rfl) ?_
    show own_Fin p e below s _ _ _ (s₁.setTop (mkF m 63 #[.val (.ref a1), .val (.int p2), .val (.int (1 : Int32))] [(.int (1 : Int32))]))
    refine own_Fin.step (fun _ => XS.iconst X0.here hx rfl (hb hby d2_63)) ?_
    show own_Fin p e below s _ _ _ (s₁.setTop (mkF m 64 #[.val (.ref a1), .val (.int p2), .val (.int (1 : Int32))] [(.int (5 : Int32)), (.int (1 : Int32))]))
    refine own_Fin.step (fun _ => XS.icmpYes X0.here hx rfl (pc0 := 64) (pc' := 78) rfl (hb hby d2_64) rfl (XT.ii_lt_t (by decide : (1 : Int32) < (5 : Int32))) (by decide) (by decide)) ?_
    show own_Fin p e below s _ _ _ (s₁.setTop (mkF m 78 #[.val (.ref a1), .val (.int p2), .val (.int (1 : Int32))] []))
    refine own_Fin.step (fun _ => XS.iconst X0.here hx rfl (hb hby d2_78)) ?_
    show own_Fin p e below s _ _ _ (s₁.setTop (mkF m 79 #[.val (.ref a1), .val (.int p2), .val (.int (1 : Int32))] [(.int (1 : Int32))]))
    refine own_Fin.step (fun _ => XS.goto X0.here hx rfl (pc0 := 79) (pc' := 83) rfl (hb hby d2_79) (by decide) (by decide)) ?_
    show own_Fin p e below s _ _ _ (s₁.setTop (mkF m 83 #[.val (.ref a1), .val (.int p2), .val (.int (1 : Int32))] [(.int (1 : Int32))]))
    exact own_retN X0 hx hlk (t := .boolean) hret (by simp) (hb hby d2_83) ⟨own_b1 (own_ind1 (fun j hj => by
          rcases j with _ | j
          · have q := hc11_1; rw [t0] at q; exact q
          · omega)), N0, e0⟩ (by decide) (by decide)
  ·
    refine own_Fin.step (fun _ => XS.icmpYes X0.here hx rfl (pc0 := 11) (pc' := 82) rfl (hb hby d2_11) rfl (XT.ii_ne_t hc11_1) (by decide) (by decide)) ?_
    show own_Fin p e below s _ _ _ (s₁.setTop (mkF m 82 #[.val (.ref a1), .val (.int p2), .val (.int (1 : Int32))] []))
    refine own_Fin.step (fun _ => XS.iconst X0.here hx rfl (hb hby d2_82)) ?_
    show own_Fin p e below s _ _ _ (s₁.setTop (mkF m 83 #[.val (.ref a1), .val (.int p2), .val (.int (1 : Int32))] [(.int (0 : Int32))]))
    exact own_retN X0 hx hlk (t := .boolean) hret (by simp) (hb hby d2_83) ⟨own_b0 (own_ind0 (fun q => hc11_1 (by rw [t0]; exact q 0 (by decide)))), N0, e0⟩ (by decide) (by decide)
set_option maxRecDepth 65536 in
set_option maxHeartbeats 40000000 in
theorem rm2e2 (l : Launch) (Z : State) (a0 : Array Value) (hw : ∀ d ∈ tables_1, d.before a0 Z = true) (a1 : Addr) (p2 : Int32) (ka : ClassId) (n : Int32) (f : Nat → Int32) (i : Nat) (h0 : Heap) (n0 : Nat) (Z0 : n0 ≤ h0.size) (F : own_Arf Z h0 a1 ka .byte n f) (c0 : ¬ (0 : Int32) < 0 ∧ (0 : Int32) < n) (j0 : ¬ p2 < 0 ∧ p2 < n) (t0 : (p2).toNatClampNeg = i + 1 - 2 + 0) (c1 : ¬ (1 : Int32) < 0 ∧ (1 : Int32) < n) (j1 : ¬ (p2 + (1 : Int32)) < 0 ∧ (p2 + (1 : Int32)) < n) (t1 : ((p2 + (1 : Int32))).toNatClampNeg = i + 1 - 2 + 1) :
    own_Met l Z [] (⟨"com/example/needlewise/needlewise/KnuthMorrisPrattPartialMatchPinLaw", "eq", "([BII)Z"⟩ : MethodName) method_3_code 3 (some .boolean) ({ frames := 0, cells := 0, slots := 0, locals := 0 } : Room) #[(.ref a1), (.int p2), (.int (2 : Int32))] h0 (own_QP (some (.int (own_ind (own_Bd f i 2)))) h0 n0) := by
  refine own_enter pn_2 ?_
  intro p e s m below meth c s₁ X0 hx hby hml hown hret hlk hnm hZ e0
  have hml : c.maxLocals = 3 := hml
  have N0 := Fr.nil n0
  rw [ef_2 m a1 p2 (2 : Int32)]
  show own_Fin p e below s _ _ _ (s₁.setTop (mkF m 0 #[.val (.ref a1), .val (.int p2), .val (.int (2 : Int32))] []))
  refine own_Fin.step (fun _ => XS.iloadN X0.here hx rfl (hb hby d2_0) rfl) ?_
  show own_Fin p e below s _ _ _ (s₁.setTop (mkF m 1 #[.val (.ref a1), .val (.int p2), .val (.int (2 : Int32))] [(.int (2 : Int32))]))
  refine own_Fin.step (fun _ => XS.iconst X0.here hx rfl (hb hby d2_1)) ?_
  show own_Fin p e below s _ _ _ (s₁.setTop (mkF m 2 #[.val (.ref a1), .val (.int p2), .val (.int (2 : Int32))] [(.int (1 : Int32)), (.int (2 : Int32))]))
  refine own_Fin.step (fun _ => XS.icmpNo X0.here hx rfl (hb hby d2_2) rfl (XT.ii_lt_f (by decide : ¬ ((2 : Int32) < (1 : Int32))))) ?_
  show own_Fin p e below s _ _ _ (s₁.setTop (mkF m 5 #[.val (.ref a1), .val (.int p2), .val (.int (2 : Int32))] []))
  refine own_Fin.step (fun _ => XS.aloadN X0.here hx rfl (hb hby d2_5) rfl rfl) ?_
  show own_Fin p e below s _ _ _ (s₁.setTop (mkF m 6 #[.val (.ref a1), .val (.int p2), .val (.int (2 : Int32))] [(.ref a1)]))
  refine own_Fin.step (fun _ => XS.iconst X0.here hx rfl (hb hby d2_6)) ?_
  show own_Fin p e below s _ _ _ (s₁.setTop (mkF m 7 #[.val (.ref a1), .val (.int p2), .val (.int (2 : Int32))] [(.int (0 : Int32)), (.ref a1)]))
  refine own_Fin.step (own_ldFB X0 hx hZ e0 F (j := (0 : Int32)) c0 (g := (mkF m 7 #[.val (.ref a1), .val (.int p2), .val (.int (2 : Int32))] [(.int (0 : Int32)), (.ref a1)])) rfl rfl (hb hby d2_7)) ?_
  show own_Fin p e below s _ _ _ (s₁.setTop (mkF m 8 #[.val (.ref a1), .val (.int p2), .val (.int (2 : Int32))] [(.int (f ((0 : Int32)).toNatClampNeg))]))
  refine own_Fin.step (fun _ => XS.aloadN X0.here hx rfl (hb hby d2_8) rfl rfl) ?_
  show own_Fin p e below s _ _ _ (s₁.setTop (mkF m 9 #[.val (.ref a1), .val (.int p2), .val (.int (2 : Int32))] [(.ref a1), (.int (f ((0 : Int32)).toNatClampNeg))]))
  refine own_Fin.step (fun _ => XS.iloadN X0.here hx rfl (hb hby d2_9) rfl) ?_
  show own_Fin p e below s _ _ _ (s₁.setTop (mkF m 10 #[.val (.ref a1), .val (.int p2), .val (.int (2 : Int32))] [(.int p2), (.ref a1), (.int (f ((0 : Int32)).toNatClampNeg))]))
  refine own_Fin.step (own_ldFB X0 hx hZ e0 F (j := p2) j0 (g := (mkF m 10 #[.val (.ref a1), .val (.int p2), .val (.int (2 : Int32))] [(.int p2), (.ref a1), (.int (f ((0 : Int32)).toNatClampNeg))])) rfl rfl (hb hby d2_10)) ?_
  show own_Fin p e below s _ _ _ (s₁.setTop (mkF m 11 #[.val (.ref a1), .val (.int p2), .val (.int (2 : Int32))] [(.int (f (p2).toNatClampNeg)), (.int (f ((0 : Int32)).toNatClampNeg))]))
  by_cases hc11_1 : (f ((0 : Int32)).toNatClampNeg) = (f (p2).toNatClampNeg)
  ·
    refine own_Fin.step (fun _ => XS.icmpNo X0.here hx rfl (hb hby d2_11) rfl (XT.ii_ne_f hc11_1)) ?_
    show own_Fin p e below s _ _ _ (s₁.setTop (mkF m 14 #[.val (.ref a1), .val (.int p2), .val (.int (2 : Int32))] []))
    refine own_Fin.step (fun _ => XS.iloadN X0.here hx rfl (hb hby d2_14) rfl) ?_
    show own_Fin p e below s _ _ _ (s₁.setTop (mkF m 15 #[.val (.ref a1), .val (.int p2), .val (.int (2 : Int32))] [(.int (2 : Int32))]))
    refine own_Fin.step (fun _ => XS.iconst X0.here hx rfl (hb hby d2_15)) ?_
    show own_Fin p e below s _ _ _ (s₁.setTop (mkF m 16 #[.val (.ref a1), .val (.int p2), .val (.int (2 : Int32))] [(.int (2 : Int32)), (.int (2 : Int32))]))
    refine own_Fin.step (fun _ => XS.icmpNo X0.here hx rfl (hb hby d2_16) rfl (XT.ii_lt_f (by decide : ¬ ((2 : Int32) < (2 : Int32))))) ?_
    show own_Fin p e below s _ _ _ (s₁.setTop (mkF m 19 #[.val (.ref a1), .val (.int p2), .val (.int (2 : Int32))] []))
    refine own_Fin.step (fun _ => XS.aloadN X0.here hx rfl (hb hby d2_19) rfl rfl) ?_
    show own_Fin p e below s _ _ _ (s₁.setTop (mkF m 20 #[.val (.ref a1), .val (.int p2), .val (.int (2 : Int32))] [(.ref a1)]))
    refine own_Fin.step (fun _ => XS.iconst X0.here hx rfl (hb hby d2_20)) ?_
    show own_Fin p e below s _ _ _ (s₁.setTop (mkF m 21 #[.val (.ref a1), .val (.int p2), .val (.int (2 : Int32))] [(.int (1 : Int32)), (.ref a1)]))
    refine own_Fin.step (own_ldFB X0 hx hZ e0 F (j := (1 : Int32)) c1 (g := (mkF m 21 #[.val (.ref a1), .val (.int p2), .val (.int (2 : Int32))] [(.int (1 : Int32)), (.ref a1)])) rfl rfl (hb hby d2_21)) ?_
    show own_Fin p e below s _ _ _ (s₁.setTop (mkF m 22 #[.val (.ref a1), .val (.int p2), .val (.int (2 : Int32))] [(.int (f ((1 : Int32)).toNatClampNeg))]))
    refine own_Fin.step (fun _ => XS.aloadN X0.here hx rfl (hb hby d2_22) rfl rfl) ?_
    show own_Fin p e below s _ _ _ (s₁.setTop (mkF m 23 #[.val (.ref a1), .val (.int p2), .val (.int (2 : Int32))] [(.ref a1), (.int (f ((1 : Int32)).toNatClampNeg))]))
    refine own_Fin.step (fun _ => XS.iloadN X0.here hx rfl (hb hby d2_23) rfl) ?_
    show own_Fin p e below s _ _ _ (s₁.setTop (mkF m 24 #[.val (.ref a1), .val (.int p2), .val (.int (2 : Int32))] [(.int p2), (.ref a1), (.int (f ((1 : Int32)).toNatClampNeg))]))
    refine own_Fin.step (fun _ => XS.iconst X0.here hx rfl (hb hby d2_24)) ?_
    show own_Fin p e below s _ _ _ (s₁.setTop (mkF m 25 #[.val (.ref a1), .val (.int p2), .val (.int (2 : Int32))] [(.int (1 : Int32)), (.int p2), (.ref a1), (.int (f ((1 : Int32)).toNatClampNeg))]))
    refine own_Fin.step (fun _ => XS.iadd X0.here hx rfl (hb hby d2_25) rfl) ?_
    show own_Fin p e below s _ _ _ (s₁.setTop (mkF m 26 #[.val (.ref a1), .val (.int p2), .val (.int (2 : Int32))] [(.int (p2 + (1 : Int32))), (.ref a1), (.int (f ((1 : Int32)).toNatClampNeg))]))
    refine own_Fin.step (own_ldFB X0 hx hZ e0 F (j := (p2 + (1 : Int32))) j1 (g := (mkF m 26 #[.val (.ref a1), .val (.int p2), .val (.int (2 : Int32))] [(.int (p2 + (1 : Int32))), (.ref a1), (.int (f ((1 : Int32)).toNatClampNeg))])) rfl rfl (hb hby d2_26)) ?_
    show own_Fin p e below s _ _ _ (s₁.setTop (mkF m 27 #[.val (.ref a1), .val (.int p2), .val (.int (2 : Int32))] [(.int (f ((p2 + (1 : Int32))).toNatClampNeg)), (.int (f ((1 : Int32)).toNatClampNeg))]))
    by_cases hc27_2 : (f ((1 : Int32)).toNatClampNeg) = (f ((p2 + (1 : Int32))).toNatClampNeg)
    ·
      refine own_Fin.step (fun _ => XS.icmpNo X0.here hx rfl (hb hby d2_27) rfl (XT.ii_ne_f hc27_2)) ?_
      show own_Fin p e below s _ _ _ (s₁.setTop (mkF m 30 #[.val (.ref a1), .val (.int p2), .val (.int (2 : Int32))] []))
      refine own_Fin.step (fun _ => XS.iloadN X0.here hx rfl (hb hby d2_30) rfl) ?_
      show own_Fin p e below s _ _ _ (s₁.setTop (mkF m 31 #[.val (.ref a1), .val (.int p2), .val (.int (2 : Int32))] [(.int (2 : Int32))]))
      refine own_Fin.step (fun _ => XS.iconst X0.here hx rfl (hb hby d2_31)) ?_
      show own_Fin p e below s _ _ _ (s₁.setTop (mkF m 32 #[.val (.ref a1), .val (.int p2), .val (.int (2 : Int32))] [(.int (3 : Int32)), (.int (2 : Int32))]))
      refine own_Fin.step (fun _ => XS.icmpYes X0.here hx rfl (pc0 := 32) (pc' := 46) rfl (hb hby d2_32) rfl (XT.ii_lt_t (by decide : (2 : Int32) < (3 : Int32))) (by decide) (by decide)) ?_
      show own_Fin p e below s _ _ _ (s₁.setTop (mkF m 46 #[.val (.ref a1), .val (.int p2), .val (.int (2 : Int32))] []))
      refine own_Fin.step (fun _ => XS.iloadN X0.here hx rfl (hb hby d2_46) rfl) ?_
      show own_Fin p e below s _ _ _ (s₁.setTop (mkF m 47 #[.val (.ref a1), .val (.int p2), .val (.int (2 : Int32))] [(.int (2 : Int32))]))
      refine own_Fin.step (fun _ => XS.iconst X0.here hx rfl (hb hby d2_47)) ?_
      show own_Fin p e below s _ _ _ (s₁.setTop (mkF m 48 #[.val (.ref a1), .val (.int p2), .val (.int (2 : Int32))] [(.int (4 : Int32)), (.int (2 : Int32))]))
      refine own_Fin.step (fun _ => XS.icmpYes X0.here hx rfl (pc0 := 48) (pc' := 62) rfl (hb hby d2_48) rfl (XT.ii_lt_t (by decide : (2 : Int32) < (4 : Int32))) (by decide) (by decide)) ?_
      show own_Fin p e below s _ _ _ (s₁.setTop (mkF m 62 #[.val (.ref a1), .val (.int p2), .val (.int (2 : Int32))] []))
      refine own_Fin.step (fun _ => XS.iloadN X0.here hx rfl (hb hby d2_62) rfl) ?_
      show own_Fin p e below s _ _ _ (s₁.setTop (mkF m 63 #[.val (.ref a1), .val (.int p2), .val (.int (2 : Int32))] [(.int (2 : Int32))]))
      refine own_Fin.step (fun _ => XS.iconst X0.here hx rfl (hb hby d2_63)) ?_
      show own_Fin p e below s _ _ _ (s₁.setTop (mkF m 64 #[.val (.ref a1), .val (.int p2), .val (.int (2 : Int32))] [(.int (5 : Int32)), (.int (2 : Int32))]))
      refine own_Fin.step (fun _ => XS.icmpYes X0.here hx rfl (pc0 := 64) (pc' := 78) rfl (hb hby d2_64) rfl (XT.ii_lt_t (by decide : (2 : Int32) < (5 : Int32))) (by decide) (by decide)) ?_
      show own_Fin p e below s _ _ _ (s₁.setTop (mkF m 78 #[.val (.ref a1), .val (.int p2), .val (.int (2 : Int32))] []))
      refine own_Fin.step (fun _ => XS.iconst X0.here hx rfl (hb hby d2_78)) ?_
      show own_Fin p e below s _ _ _ (s₁.setTop (mkF m 79 #[.val (.ref a1), .val (.int p2), .val (.int (2 : Int32))] [(.int (1 : Int32))]))
      refine own_Fin.step (fun _ => XS.goto X0.here hx rfl (pc0 := 79) (pc' := 83) rfl (hb hby d2_79) (by decide) (by decide)) ?_
      show own_Fin p e below s _ _ _ (s₁.setTop (mkF m 83 #[.val (.ref a1), .val (.int p2), .val (.int (2 : Int32))] [(.int (1 : Int32))]))
      exact own_retN X0 hx hlk (t := .boolean) hret (by simp) (hb hby d2_83) ⟨own_b1 (own_ind1 (fun j hj => by
            rcases j with _ | _ | j
            · have q := hc11_1; rw [t0] at q; exact q
            · have q := hc27_2; rw [t1] at q; exact q
            · omega)), N0, e0⟩ (by decide) (by decide)
    ·
      refine own_Fin.step (fun _ => XS.icmpYes X0.here hx rfl (pc0 := 27) (pc' := 82) rfl (hb hby d2_27) rfl (XT.ii_ne_t hc27_2) (by decide) (by decide)) ?_
      show own_Fin p e below s _ _ _ (s₁.setTop (mkF m 82 #[.val (.ref a1), .val (.int p2), .val (.int (2 : Int32))] []))
      refine own_Fin.step (fun _ => XS.iconst X0.here hx rfl (hb hby d2_82)) ?_
      show own_Fin p e below s _ _ _ (s₁.setTop (mkF m 83 #[.val (.ref a1), .val (.int p2), .val (.int (2 : Int32))] [(.int (0 : Int32))]))
      exact own_retN X0 hx hlk (t := .boolean) hret (by simp) (hb hby d2_83) ⟨own_b0 (own_ind0 (fun q => hc27_2 (by rw [t1]; exact q 1 (by decide)))), N0, e0⟩ (by decide) (by decide)
  ·
    refine own_Fin.step (fun _ => XS.icmpYes X0.here hx rfl (pc0 := 11) (pc' := 82) rfl (hb hby d2_11) rfl (XT.ii_ne_t hc11_1) (by decide) (by decide)) ?_
    show own_Fin p e below s _ _ _ (s₁.setTop (mkF m 82 #[.val (.ref a1), .val (.int p2), .val (.int (2 : Int32))] []))
    refine own_Fin.step (fun _ => XS.iconst X0.here hx rfl (hb hby d2_82)) ?_
    show own_Fin p e below s _ _ _ (s₁.setTop (mkF m 83 #[.val (.ref a1), .val (.int p2), .val (.int (2 : Int32))] [(.int (0 : Int32))]))
    exact own_retN X0 hx hlk (t := .boolean) hret (by simp) (hb hby d2_83) ⟨own_b0 (own_ind0 (fun q => hc11_1 (by rw [t0]; exact q 0 (by decide)))), N0, e0⟩ (by decide) (by decide)
set_option maxRecDepth 65536 in
set_option maxHeartbeats 40000000 in
theorem rm2e3 (l : Launch) (Z : State) (a0 : Array Value) (hw : ∀ d ∈ tables_1, d.before a0 Z = true) (a1 : Addr) (p2 : Int32) (ka : ClassId) (n : Int32) (f : Nat → Int32) (i : Nat) (h0 : Heap) (n0 : Nat) (Z0 : n0 ≤ h0.size) (F : own_Arf Z h0 a1 ka .byte n f) (c0 : ¬ (0 : Int32) < 0 ∧ (0 : Int32) < n) (j0 : ¬ p2 < 0 ∧ p2 < n) (t0 : (p2).toNatClampNeg = i + 1 - 3 + 0) (c1 : ¬ (1 : Int32) < 0 ∧ (1 : Int32) < n) (j1 : ¬ (p2 + (1 : Int32)) < 0 ∧ (p2 + (1 : Int32)) < n) (t1 : ((p2 + (1 : Int32))).toNatClampNeg = i + 1 - 3 + 1) (c2 : ¬ (2 : Int32) < 0 ∧ (2 : Int32) < n) (j2 : ¬ (p2 + (2 : Int32)) < 0 ∧ (p2 + (2 : Int32)) < n) (t2 : ((p2 + (2 : Int32))).toNatClampNeg = i + 1 - 3 + 2) :
    own_Met l Z [] (⟨"com/example/needlewise/needlewise/KnuthMorrisPrattPartialMatchPinLaw", "eq", "([BII)Z"⟩ : MethodName) method_3_code 3 (some .boolean) ({ frames := 0, cells := 0, slots := 0, locals := 0 } : Room) #[(.ref a1), (.int p2), (.int (3 : Int32))] h0 (own_QP (some (.int (own_ind (own_Bd f i 3)))) h0 n0) := by
  refine own_enter pn_2 ?_
  intro p e s m below meth c s₁ X0 hx hby hml hown hret hlk hnm hZ e0
  have hml : c.maxLocals = 3 := hml
  have N0 := Fr.nil n0
  rw [ef_2 m a1 p2 (3 : Int32)]
  show own_Fin p e below s _ _ _ (s₁.setTop (mkF m 0 #[.val (.ref a1), .val (.int p2), .val (.int (3 : Int32))] []))
  refine own_Fin.step (fun _ => XS.iloadN X0.here hx rfl (hb hby d2_0) rfl) ?_
  show own_Fin p e below s _ _ _ (s₁.setTop (mkF m 1 #[.val (.ref a1), .val (.int p2), .val (.int (3 : Int32))] [(.int (3 : Int32))]))
  refine own_Fin.step (fun _ => XS.iconst X0.here hx rfl (hb hby d2_1)) ?_
  show own_Fin p e below s _ _ _ (s₁.setTop (mkF m 2 #[.val (.ref a1), .val (.int p2), .val (.int (3 : Int32))] [(.int (1 : Int32)), (.int (3 : Int32))]))
  refine own_Fin.step (fun _ => XS.icmpNo X0.here hx rfl (hb hby d2_2) rfl (XT.ii_lt_f (by decide : ¬ ((3 : Int32) < (1 : Int32))))) ?_
  show own_Fin p e below s _ _ _ (s₁.setTop (mkF m 5 #[.val (.ref a1), .val (.int p2), .val (.int (3 : Int32))] []))
  refine own_Fin.step (fun _ => XS.aloadN X0.here hx rfl (hb hby d2_5) rfl rfl) ?_
  show own_Fin p e below s _ _ _ (s₁.setTop (mkF m 6 #[.val (.ref a1), .val (.int p2), .val (.int (3 : Int32))] [(.ref a1)]))
  refine own_Fin.step (fun _ => XS.iconst X0.here hx rfl (hb hby d2_6)) ?_
  show own_Fin p e below s _ _ _ (s₁.setTop (mkF m 7 #[.val (.ref a1), .val (.int p2), .val (.int (3 : Int32))] [(.int (0 : Int32)), (.ref a1)]))
  refine own_Fin.step (own_ldFB X0 hx hZ e0 F (j := (0 : Int32)) c0 (g := (mkF m 7 #[.val (.ref a1), .val (.int p2), .val (.int (3 : Int32))] [(.int (0 : Int32)), (.ref a1)])) rfl rfl (hb hby d2_7)) ?_
  show own_Fin p e below s _ _ _ (s₁.setTop (mkF m 8 #[.val (.ref a1), .val (.int p2), .val (.int (3 : Int32))] [(.int (f ((0 : Int32)).toNatClampNeg))]))
  refine own_Fin.step (fun _ => XS.aloadN X0.here hx rfl (hb hby d2_8) rfl rfl) ?_
  show own_Fin p e below s _ _ _ (s₁.setTop (mkF m 9 #[.val (.ref a1), .val (.int p2), .val (.int (3 : Int32))] [(.ref a1), (.int (f ((0 : Int32)).toNatClampNeg))]))
  refine own_Fin.step (fun _ => XS.iloadN X0.here hx rfl (hb hby d2_9) rfl) ?_
  show own_Fin p e below s _ _ _ (s₁.setTop (mkF m 10 #[.val (.ref a1), .val (.int p2), .val (.int (3 : Int32))] [(.int p2), (.ref a1), (.int (f ((0 : Int32)).toNatClampNeg))]))
  refine own_Fin.step (own_ldFB X0 hx hZ e0 F (j := p2) j0 (g := (mkF m 10 #[.val (.ref a1), .val (.int p2), .val (.int (3 : Int32))] [(.int p2), (.ref a1), (.int (f ((0 : Int32)).toNatClampNeg))])) rfl rfl (hb hby d2_10)) ?_
  show own_Fin p e below s _ _ _ (s₁.setTop (mkF m 11 #[.val (.ref a1), .val (.int p2), .val (.int (3 : Int32))] [(.int (f (p2).toNatClampNeg)), (.int (f ((0 : Int32)).toNatClampNeg))]))
  by_cases hc11_1 : (f ((0 : Int32)).toNatClampNeg) = (f (p2).toNatClampNeg)
  ·
    refine own_Fin.step (fun _ => XS.icmpNo X0.here hx rfl (hb hby d2_11) rfl (XT.ii_ne_f hc11_1)) ?_
    show own_Fin p e below s _ _ _ (s₁.setTop (mkF m 14 #[.val (.ref a1), .val (.int p2), .val (.int (3 : Int32))] []))
    refine own_Fin.step (fun _ => XS.iloadN X0.here hx rfl (hb hby d2_14) rfl) ?_
    show own_Fin p e below s _ _ _ (s₁.setTop (mkF m 15 #[.val (.ref a1), .val (.int p2), .val (.int (3 : Int32))] [(.int (3 : Int32))]))
    refine own_Fin.step (fun _ => XS.iconst X0.here hx rfl (hb hby d2_15)) ?_
    show own_Fin p e below s _ _ _ (s₁.setTop (mkF m 16 #[.val (.ref a1), .val (.int p2), .val (.int (3 : Int32))] [(.int (2 : Int32)), (.int (3 : Int32))]))
    refine own_Fin.step (fun _ => XS.icmpNo X0.here hx rfl (hb hby d2_16) rfl (XT.ii_lt_f (by decide : ¬ ((3 : Int32) < (2 : Int32))))) ?_
    show own_Fin p e below s _ _ _ (s₁.setTop (mkF m 19 #[.val (.ref a1), .val (.int p2), .val (.int (3 : Int32))] []))
    refine own_Fin.step (fun _ => XS.aloadN X0.here hx rfl (hb hby d2_19) rfl rfl) ?_
    show own_Fin p e below s _ _ _ (s₁.setTop (mkF m 20 #[.val (.ref a1), .val (.int p2), .val (.int (3 : Int32))] [(.ref a1)]))
    refine own_Fin.step (fun _ => XS.iconst X0.here hx rfl (hb hby d2_20)) ?_
    show own_Fin p e below s _ _ _ (s₁.setTop (mkF m 21 #[.val (.ref a1), .val (.int p2), .val (.int (3 : Int32))] [(.int (1 : Int32)), (.ref a1)]))
    refine own_Fin.step (own_ldFB X0 hx hZ e0 F (j := (1 : Int32)) c1 (g := (mkF m 21 #[.val (.ref a1), .val (.int p2), .val (.int (3 : Int32))] [(.int (1 : Int32)), (.ref a1)])) rfl rfl (hb hby d2_21)) ?_
    show own_Fin p e below s _ _ _ (s₁.setTop (mkF m 22 #[.val (.ref a1), .val (.int p2), .val (.int (3 : Int32))] [(.int (f ((1 : Int32)).toNatClampNeg))]))
    refine own_Fin.step (fun _ => XS.aloadN X0.here hx rfl (hb hby d2_22) rfl rfl) ?_
    show own_Fin p e below s _ _ _ (s₁.setTop (mkF m 23 #[.val (.ref a1), .val (.int p2), .val (.int (3 : Int32))] [(.ref a1), (.int (f ((1 : Int32)).toNatClampNeg))]))
    refine own_Fin.step (fun _ => XS.iloadN X0.here hx rfl (hb hby d2_23) rfl) ?_
    show own_Fin p e below s _ _ _ (s₁.setTop (mkF m 24 #[.val (.ref a1), .val (.int p2), .val (.int (3 : Int32))] [(.int p2), (.ref a1), (.int (f ((1 : Int32)).toNatClampNeg))]))
    refine own_Fin.step (fun _ => XS.iconst X0.here hx rfl (hb hby d2_24)) ?_
    show own_Fin p e below s _ _ _ (s₁.setTop (mkF m 25 #[.val (.ref a1), .val (.int p2), .val (.int (3 : Int32))] [(.int (1 : Int32)), (.int p2), (.ref a1), (.int (f ((1 : Int32)).toNatClampNeg))]))
    refine own_Fin.step (fun _ => XS.iadd X0.here hx rfl (hb hby d2_25) rfl) ?_
    show own_Fin p e below s _ _ _ (s₁.setTop (mkF m 26 #[.val (.ref a1), .val (.int p2), .val (.int (3 : Int32))] [(.int (p2 + (1 : Int32))), (.ref a1), (.int (f ((1 : Int32)).toNatClampNeg))]))
    refine own_Fin.step (own_ldFB X0 hx hZ e0 F (j := (p2 + (1 : Int32))) j1 (g := (mkF m 26 #[.val (.ref a1), .val (.int p2), .val (.int (3 : Int32))] [(.int (p2 + (1 : Int32))), (.ref a1), (.int (f ((1 : Int32)).toNatClampNeg))])) rfl rfl (hb hby d2_26)) ?_
    show own_Fin p e below s _ _ _ (s₁.setTop (mkF m 27 #[.val (.ref a1), .val (.int p2), .val (.int (3 : Int32))] [(.int (f ((p2 + (1 : Int32))).toNatClampNeg)), (.int (f ((1 : Int32)).toNatClampNeg))]))
    by_cases hc27_2 : (f ((1 : Int32)).toNatClampNeg) = (f ((p2 + (1 : Int32))).toNatClampNeg)
    ·
      refine own_Fin.step (fun _ => XS.icmpNo X0.here hx rfl (hb hby d2_27) rfl (XT.ii_ne_f hc27_2)) ?_
      show own_Fin p e below s _ _ _ (s₁.setTop (mkF m 30 #[.val (.ref a1), .val (.int p2), .val (.int (3 : Int32))] []))
      refine own_Fin.step (fun _ => XS.iloadN X0.here hx rfl (hb hby d2_30) rfl) ?_
      show own_Fin p e below s _ _ _ (s₁.setTop (mkF m 31 #[.val (.ref a1), .val (.int p2), .val (.int (3 : Int32))] [(.int (3 : Int32))]))
      refine own_Fin.step (fun _ => XS.iconst X0.here hx rfl (hb hby d2_31)) ?_
      show own_Fin p e below s _ _ _ (s₁.setTop (mkF m 32 #[.val (.ref a1), .val (.int p2), .val (.int (3 : Int32))] [(.int (3 : Int32)), (.int (3 : Int32))]))
      refine own_Fin.step (fun _ => XS.icmpNo X0.here hx rfl (hb hby d2_32) rfl (XT.ii_lt_f (by decide : ¬ ((3 : Int32) < (3 : Int32))))) ?_
      show own_Fin p e below s _ _ _ (s₁.setTop (mkF m 35 #[.val (.ref a1), .val (.int p2), .val (.int (3 : Int32))] []))
      refine own_Fin.step (fun _ => XS.aloadN X0.here hx rfl (hb hby d2_35) rfl rfl) ?_
      show own_Fin p e below s _ _ _ (s₁.setTop (mkF m 36 #[.val (.ref a1), .val (.int p2), .val (.int (3 : Int32))] [(.ref a1)]))
      refine own_Fin.step (fun _ => XS.iconst X0.here hx rfl (hb hby d2_36)) ?_
      show own_Fin p e below s _ _ _ (s₁.setTop (mkF m 37 #[.val (.ref a1), .val (.int p2), .val (.int (3 : Int32))] [(.int (2 : Int32)), (.ref a1)]))
      refine own_Fin.step (own_ldFB X0 hx hZ e0 F (j := (2 : Int32)) c2 (g := (mkF m 37 #[.val (.ref a1), .val (.int p2), .val (.int (3 : Int32))] [(.int (2 : Int32)), (.ref a1)])) rfl rfl (hb hby d2_37)) ?_
      show own_Fin p e below s _ _ _ (s₁.setTop (mkF m 38 #[.val (.ref a1), .val (.int p2), .val (.int (3 : Int32))] [(.int (f ((2 : Int32)).toNatClampNeg))]))
      refine own_Fin.step (fun _ => XS.aloadN X0.here hx rfl (hb hby d2_38) rfl rfl) ?_
      show own_Fin p e below s _ _ _ (s₁.setTop (mkF m 39 #[.val (.ref a1), .val (.int p2), .val (.int (3 : Int32))] [(.ref a1), (.int (f ((2 : Int32)).toNatClampNeg))]))
      refine own_Fin.step (fun _ => XS.iloadN X0.here hx rfl (hb hby d2_39) rfl) ?_
      show own_Fin p e below s _ _ _ (s₁.setTop (mkF m 40 #[.val (.ref a1), .val (.int p2), .val (.int (3 : Int32))] [(.int p2), (.ref a1), (.int (f ((2 : Int32)).toNatClampNeg))]))
      refine own_Fin.step (fun _ => XS.iconst X0.here hx rfl (hb hby d2_40)) ?_
      show own_Fin p e below s _ _ _ (s₁.setTop (mkF m 41 #[.val (.ref a1), .val (.int p2), .val (.int (3 : Int32))] [(.int (2 : Int32)), (.int p2), (.ref a1), (.int (f ((2 : Int32)).toNatClampNeg))]))
      refine own_Fin.step (fun _ => XS.iadd X0.here hx rfl (hb hby d2_41) rfl) ?_
      show own_Fin p e below s _ _ _ (s₁.setTop (mkF m 42 #[.val (.ref a1), .val (.int p2), .val (.int (3 : Int32))] [(.int (p2 + (2 : Int32))), (.ref a1), (.int (f ((2 : Int32)).toNatClampNeg))]))
      refine own_Fin.step (own_ldFB X0 hx hZ e0 F (j := (p2 + (2 : Int32))) j2 (g := (mkF m 42 #[.val (.ref a1), .val (.int p2), .val (.int (3 : Int32))] [(.int (p2 + (2 : Int32))), (.ref a1), (.int (f ((2 : Int32)).toNatClampNeg))])) rfl rfl (hb hby d2_42)) ?_
      show own_Fin p e below s _ _ _ (s₁.setTop (mkF m 43 #[.val (.ref a1), .val (.int p2), .val (.int (3 : Int32))] [(.int (f ((p2 + (2 : Int32))).toNatClampNeg)), (.int (f ((2 : Int32)).toNatClampNeg))]))
      by_cases hc43_3 : (f ((2 : Int32)).toNatClampNeg) = (f ((p2 + (2 : Int32))).toNatClampNeg)
      ·
        refine own_Fin.step (fun _ => XS.icmpNo X0.here hx rfl (hb hby d2_43) rfl (XT.ii_ne_f hc43_3)) ?_
        show own_Fin p e below s _ _ _ (s₁.setTop (mkF m 46 #[.val (.ref a1), .val (.int p2), .val (.int (3 : Int32))] []))
        refine own_Fin.step (fun _ => XS.iloadN X0.here hx rfl (hb hby d2_46) rfl) ?_
        show own_Fin p e below s _ _ _ (s₁.setTop (mkF m 47 #[.val (.ref a1), .val (.int p2), .val (.int (3 : Int32))] [(.int (3 : Int32))]))
        refine own_Fin.step (fun _ => XS.iconst X0.here hx rfl (hb hby d2_47)) ?_
        show own_Fin p e below s _ _ _ (s₁.setTop (mkF m 48 #[.val (.ref a1), .val (.int p2), .val (.int (3 : Int32))] [(.int (4 : Int32)), (.int (3 : Int32))]))
        refine own_Fin.step (fun _ => XS.icmpYes X0.here hx rfl (pc0 := 48) (pc' := 62) rfl (hb hby d2_48) rfl (XT.ii_lt_t (by decide : (3 : Int32) < (4 : Int32))) (by decide) (by decide)) ?_
        show own_Fin p e below s _ _ _ (s₁.setTop (mkF m 62 #[.val (.ref a1), .val (.int p2), .val (.int (3 : Int32))] []))
        refine own_Fin.step (fun _ => XS.iloadN X0.here hx rfl (hb hby d2_62) rfl) ?_
        show own_Fin p e below s _ _ _ (s₁.setTop (mkF m 63 #[.val (.ref a1), .val (.int p2), .val (.int (3 : Int32))] [(.int (3 : Int32))]))
        refine own_Fin.step (fun _ => XS.iconst X0.here hx rfl (hb hby d2_63)) ?_
        show own_Fin p e below s _ _ _ (s₁.setTop (mkF m 64 #[.val (.ref a1), .val (.int p2), .val (.int (3 : Int32))] [(.int (5 : Int32)), (.int (3 : Int32))]))
        refine own_Fin.step (fun _ => XS.icmpYes X0.here hx rfl (pc0 := 64) (pc' := 78) rfl (hb hby d2_64) rfl (XT.ii_lt_t (by decide : (3 : Int32) < (5 : Int32))) (by decide) (by decide)) ?_
        show own_Fin p e below s _ _ _ (s₁.setTop (mkF m 78 #[.val (.ref a1), .val (.int p2), .val (.int (3 : Int32))] []))
        refine own_Fin.step (fun _ => XS.iconst X0.here hx rfl (hb hby d2_78)) ?_
        show own_Fin p e below s _ _ _ (s₁.setTop (mkF m 79 #[.val (.ref a1), .val (.int p2), .val (.int (3 : Int32))] [(.int (1 : Int32))]))
        refine own_Fin.step (fun _ => XS.goto X0.here hx rfl (pc0 := 79) (pc' := 83) rfl (hb hby d2_79) (by decide) (by decide)) ?_
        show own_Fin p e below s _ _ _ (s₁.setTop (mkF m 83 #[.val (.ref a1), .val (.int p2), .val (.int (3 : Int32))] [(.int (1 : Int32))]))
        exact own_retN X0 hx hlk (t := .boolean) hret (by simp) (hb hby d2_83) ⟨own_b1 (own_ind1 (fun j hj => by
              rcases j with _ | _ | _ | j
              · have q := hc11_1; rw [t0] at q; exact q
              · have q := hc27_2; rw [t1] at q; exact q
              · have q := hc43_3; rw [t2] at q; exact q
              · omega)), N0, e0⟩ (by decide) (by decide)
      ·
        refine own_Fin.step (fun _ => XS.icmpYes X0.here hx rfl (pc0 := 43) (pc' := 82) rfl (hb hby d2_43) rfl (XT.ii_ne_t hc43_3) (by decide) (by decide)) ?_
        show own_Fin p e below s _ _ _ (s₁.setTop (mkF m 82 #[.val (.ref a1), .val (.int p2), .val (.int (3 : Int32))] []))
        refine own_Fin.step (fun _ => XS.iconst X0.here hx rfl (hb hby d2_82)) ?_
        show own_Fin p e below s _ _ _ (s₁.setTop (mkF m 83 #[.val (.ref a1), .val (.int p2), .val (.int (3 : Int32))] [(.int (0 : Int32))]))
        exact own_retN X0 hx hlk (t := .boolean) hret (by simp) (hb hby d2_83) ⟨own_b0 (own_ind0 (fun q => hc43_3 (by rw [t2]; exact q 2 (by decide)))), N0, e0⟩ (by decide) (by decide)
    ·
      refine own_Fin.step (fun _ => XS.icmpYes X0.here hx rfl (pc0 := 27) (pc' := 82) rfl (hb hby d2_27) rfl (XT.ii_ne_t hc27_2) (by decide) (by decide)) ?_
      show own_Fin p e below s _ _ _ (s₁.setTop (mkF m 82 #[.val (.ref a1), .val (.int p2), .val (.int (3 : Int32))] []))
      refine own_Fin.step (fun _ => XS.iconst X0.here hx rfl (hb hby d2_82)) ?_
      show own_Fin p e below s _ _ _ (s₁.setTop (mkF m 83 #[.val (.ref a1), .val (.int p2), .val (.int (3 : Int32))] [(.int (0 : Int32))]))
      exact own_retN X0 hx hlk (t := .boolean) hret (by simp) (hb hby d2_83) ⟨own_b0 (own_ind0 (fun q => hc27_2 (by rw [t1]; exact q 1 (by decide)))), N0, e0⟩ (by decide) (by decide)
  ·
    refine own_Fin.step (fun _ => XS.icmpYes X0.here hx rfl (pc0 := 11) (pc' := 82) rfl (hb hby d2_11) rfl (XT.ii_ne_t hc11_1) (by decide) (by decide)) ?_
    show own_Fin p e below s _ _ _ (s₁.setTop (mkF m 82 #[.val (.ref a1), .val (.int p2), .val (.int (3 : Int32))] []))
    refine own_Fin.step (fun _ => XS.iconst X0.here hx rfl (hb hby d2_82)) ?_
    show own_Fin p e below s _ _ _ (s₁.setTop (mkF m 83 #[.val (.ref a1), .val (.int p2), .val (.int (3 : Int32))] [(.int (0 : Int32))]))
    exact own_retN X0 hx hlk (t := .boolean) hret (by simp) (hb hby d2_83) ⟨own_b0 (own_ind0 (fun q => hc11_1 (by rw [t0]; exact q 0 (by decide)))), N0, e0⟩ (by decide) (by decide)
set_option maxRecDepth 65536 in
set_option maxHeartbeats 40000000 in
theorem rm2e4 (l : Launch) (Z : State) (a0 : Array Value) (hw : ∀ d ∈ tables_1, d.before a0 Z = true) (a1 : Addr) (p2 : Int32) (ka : ClassId) (n : Int32) (f : Nat → Int32) (i : Nat) (h0 : Heap) (n0 : Nat) (Z0 : n0 ≤ h0.size) (F : own_Arf Z h0 a1 ka .byte n f) (c0 : ¬ (0 : Int32) < 0 ∧ (0 : Int32) < n) (j0 : ¬ p2 < 0 ∧ p2 < n) (t0 : (p2).toNatClampNeg = i + 1 - 4 + 0) (c1 : ¬ (1 : Int32) < 0 ∧ (1 : Int32) < n) (j1 : ¬ (p2 + (1 : Int32)) < 0 ∧ (p2 + (1 : Int32)) < n) (t1 : ((p2 + (1 : Int32))).toNatClampNeg = i + 1 - 4 + 1) (c2 : ¬ (2 : Int32) < 0 ∧ (2 : Int32) < n) (j2 : ¬ (p2 + (2 : Int32)) < 0 ∧ (p2 + (2 : Int32)) < n) (t2 : ((p2 + (2 : Int32))).toNatClampNeg = i + 1 - 4 + 2) (c3 : ¬ (3 : Int32) < 0 ∧ (3 : Int32) < n) (j3 : ¬ (p2 + (3 : Int32)) < 0 ∧ (p2 + (3 : Int32)) < n) (t3 : ((p2 + (3 : Int32))).toNatClampNeg = i + 1 - 4 + 3) :
    own_Met l Z [] (⟨"com/example/needlewise/needlewise/KnuthMorrisPrattPartialMatchPinLaw", "eq", "([BII)Z"⟩ : MethodName) method_3_code 3 (some .boolean) ({ frames := 0, cells := 0, slots := 0, locals := 0 } : Room) #[(.ref a1), (.int p2), (.int (4 : Int32))] h0 (own_QP (some (.int (own_ind (own_Bd f i 4)))) h0 n0) := by
  refine own_enter pn_2 ?_
  intro p e s m below meth c s₁ X0 hx hby hml hown hret hlk hnm hZ e0
  have hml : c.maxLocals = 3 := hml
  have N0 := Fr.nil n0
  rw [ef_2 m a1 p2 (4 : Int32)]
  show own_Fin p e below s _ _ _ (s₁.setTop (mkF m 0 #[.val (.ref a1), .val (.int p2), .val (.int (4 : Int32))] []))
  refine own_Fin.step (fun _ => XS.iloadN X0.here hx rfl (hb hby d2_0) rfl) ?_
  show own_Fin p e below s _ _ _ (s₁.setTop (mkF m 1 #[.val (.ref a1), .val (.int p2), .val (.int (4 : Int32))] [(.int (4 : Int32))]))
  refine own_Fin.step (fun _ => XS.iconst X0.here hx rfl (hb hby d2_1)) ?_
  show own_Fin p e below s _ _ _ (s₁.setTop (mkF m 2 #[.val (.ref a1), .val (.int p2), .val (.int (4 : Int32))] [(.int (1 : Int32)), (.int (4 : Int32))]))
  refine own_Fin.step (fun _ => XS.icmpNo X0.here hx rfl (hb hby d2_2) rfl (XT.ii_lt_f (by decide : ¬ ((4 : Int32) < (1 : Int32))))) ?_
  show own_Fin p e below s _ _ _ (s₁.setTop (mkF m 5 #[.val (.ref a1), .val (.int p2), .val (.int (4 : Int32))] []))
  refine own_Fin.step (fun _ => XS.aloadN X0.here hx rfl (hb hby d2_5) rfl rfl) ?_
  show own_Fin p e below s _ _ _ (s₁.setTop (mkF m 6 #[.val (.ref a1), .val (.int p2), .val (.int (4 : Int32))] [(.ref a1)]))
  refine own_Fin.step (fun _ => XS.iconst X0.here hx rfl (hb hby d2_6)) ?_
  show own_Fin p e below s _ _ _ (s₁.setTop (mkF m 7 #[.val (.ref a1), .val (.int p2), .val (.int (4 : Int32))] [(.int (0 : Int32)), (.ref a1)]))
  refine own_Fin.step (own_ldFB X0 hx hZ e0 F (j := (0 : Int32)) c0 (g := (mkF m 7 #[.val (.ref a1), .val (.int p2), .val (.int (4 : Int32))] [(.int (0 : Int32)), (.ref a1)])) rfl rfl (hb hby d2_7)) ?_
  show own_Fin p e below s _ _ _ (s₁.setTop (mkF m 8 #[.val (.ref a1), .val (.int p2), .val (.int (4 : Int32))] [(.int (f ((0 : Int32)).toNatClampNeg))]))
  refine own_Fin.step (fun _ => XS.aloadN X0.here hx rfl (hb hby d2_8) rfl rfl) ?_
  show own_Fin p e below s _ _ _ (s₁.setTop (mkF m 9 #[.val (.ref a1), .val (.int p2), .val (.int (4 : Int32))] [(.ref a1), (.int (f ((0 : Int32)).toNatClampNeg))]))
  refine own_Fin.step (fun _ => XS.iloadN X0.here hx rfl (hb hby d2_9) rfl) ?_
  show own_Fin p e below s _ _ _ (s₁.setTop (mkF m 10 #[.val (.ref a1), .val (.int p2), .val (.int (4 : Int32))] [(.int p2), (.ref a1), (.int (f ((0 : Int32)).toNatClampNeg))]))
  refine own_Fin.step (own_ldFB X0 hx hZ e0 F (j := p2) j0 (g := (mkF m 10 #[.val (.ref a1), .val (.int p2), .val (.int (4 : Int32))] [(.int p2), (.ref a1), (.int (f ((0 : Int32)).toNatClampNeg))])) rfl rfl (hb hby d2_10)) ?_
  show own_Fin p e below s _ _ _ (s₁.setTop (mkF m 11 #[.val (.ref a1), .val (.int p2), .val (.int (4 : Int32))] [(.int (f (p2).toNatClampNeg)), (.int (f ((0 : Int32)).toNatClampNeg))]))
  by_cases hc11_1 : (f ((0 : Int32)).toNatClampNeg) = (f (p2).toNatClampNeg)
  ·
    refine own_Fin.step (fun _ => XS.icmpNo X0.here hx rfl (hb hby d2_11) rfl (XT.ii_ne_f hc11_1)) ?_
    show own_Fin p e below s _ _ _ (s₁.setTop (mkF m 14 #[.val (.ref a1), .val (.int p2), .val (.int (4 : Int32))] []))
    refine own_Fin.step (fun _ => XS.iloadN X0.here hx rfl (hb hby d2_14) rfl) ?_
    show own_Fin p e below s _ _ _ (s₁.setTop (mkF m 15 #[.val (.ref a1), .val (.int p2), .val (.int (4 : Int32))] [(.int (4 : Int32))]))
    refine own_Fin.step (fun _ => XS.iconst X0.here hx rfl (hb hby d2_15)) ?_
    show own_Fin p e below s _ _ _ (s₁.setTop (mkF m 16 #[.val (.ref a1), .val (.int p2), .val (.int (4 : Int32))] [(.int (2 : Int32)), (.int (4 : Int32))]))
    refine own_Fin.step (fun _ => XS.icmpNo X0.here hx rfl (hb hby d2_16) rfl (XT.ii_lt_f (by decide : ¬ ((4 : Int32) < (2 : Int32))))) ?_
    show own_Fin p e below s _ _ _ (s₁.setTop (mkF m 19 #[.val (.ref a1), .val (.int p2), .val (.int (4 : Int32))] []))
    refine own_Fin.step (fun _ => XS.aloadN X0.here hx rfl (hb hby d2_19) rfl rfl) ?_
    show own_Fin p e below s _ _ _ (s₁.setTop (mkF m 20 #[.val (.ref a1), .val (.int p2), .val (.int (4 : Int32))] [(.ref a1)]))
    refine own_Fin.step (fun _ => XS.iconst X0.here hx rfl (hb hby d2_20)) ?_
    show own_Fin p e below s _ _ _ (s₁.setTop (mkF m 21 #[.val (.ref a1), .val (.int p2), .val (.int (4 : Int32))] [(.int (1 : Int32)), (.ref a1)]))
    refine own_Fin.step (own_ldFB X0 hx hZ e0 F (j := (1 : Int32)) c1 (g := (mkF m 21 #[.val (.ref a1), .val (.int p2), .val (.int (4 : Int32))] [(.int (1 : Int32)), (.ref a1)])) rfl rfl (hb hby d2_21)) ?_
    show own_Fin p e below s _ _ _ (s₁.setTop (mkF m 22 #[.val (.ref a1), .val (.int p2), .val (.int (4 : Int32))] [(.int (f ((1 : Int32)).toNatClampNeg))]))
    refine own_Fin.step (fun _ => XS.aloadN X0.here hx rfl (hb hby d2_22) rfl rfl) ?_
    show own_Fin p e below s _ _ _ (s₁.setTop (mkF m 23 #[.val (.ref a1), .val (.int p2), .val (.int (4 : Int32))] [(.ref a1), (.int (f ((1 : Int32)).toNatClampNeg))]))
    refine own_Fin.step (fun _ => XS.iloadN X0.here hx rfl (hb hby d2_23) rfl) ?_
    show own_Fin p e below s _ _ _ (s₁.setTop (mkF m 24 #[.val (.ref a1), .val (.int p2), .val (.int (4 : Int32))] [(.int p2), (.ref a1), (.int (f ((1 : Int32)).toNatClampNeg))]))
    refine own_Fin.step (fun _ => XS.iconst X0.here hx rfl (hb hby d2_24)) ?_
    show own_Fin p e below s _ _ _ (s₁.setTop (mkF m 25 #[.val (.ref a1), .val (.int p2), .val (.int (4 : Int32))] [(.int (1 : Int32)), (.int p2), (.ref a1), (.int (f ((1 : Int32)).toNatClampNeg))]))
    refine own_Fin.step (fun _ => XS.iadd X0.here hx rfl (hb hby d2_25) rfl) ?_
    show own_Fin p e below s _ _ _ (s₁.setTop (mkF m 26 #[.val (.ref a1), .val (.int p2), .val (.int (4 : Int32))] [(.int (p2 + (1 : Int32))), (.ref a1), (.int (f ((1 : Int32)).toNatClampNeg))]))
    refine own_Fin.step (own_ldFB X0 hx hZ e0 F (j := (p2 + (1 : Int32))) j1 (g := (mkF m 26 #[.val (.ref a1), .val (.int p2), .val (.int (4 : Int32))] [(.int (p2 + (1 : Int32))), (.ref a1), (.int (f ((1 : Int32)).toNatClampNeg))])) rfl rfl (hb hby d2_26)) ?_
    show own_Fin p e below s _ _ _ (s₁.setTop (mkF m 27 #[.val (.ref a1), .val (.int p2), .val (.int (4 : Int32))] [(.int (f ((p2 + (1 : Int32))).toNatClampNeg)), (.int (f ((1 : Int32)).toNatClampNeg))]))
    by_cases hc27_2 : (f ((1 : Int32)).toNatClampNeg) = (f ((p2 + (1 : Int32))).toNatClampNeg)
    ·
      refine own_Fin.step (fun _ => XS.icmpNo X0.here hx rfl (hb hby d2_27) rfl (XT.ii_ne_f hc27_2)) ?_
      show own_Fin p e below s _ _ _ (s₁.setTop (mkF m 30 #[.val (.ref a1), .val (.int p2), .val (.int (4 : Int32))] []))
      refine own_Fin.step (fun _ => XS.iloadN X0.here hx rfl (hb hby d2_30) rfl) ?_
      show own_Fin p e below s _ _ _ (s₁.setTop (mkF m 31 #[.val (.ref a1), .val (.int p2), .val (.int (4 : Int32))] [(.int (4 : Int32))]))
      refine own_Fin.step (fun _ => XS.iconst X0.here hx rfl (hb hby d2_31)) ?_
      show own_Fin p e below s _ _ _ (s₁.setTop (mkF m 32 #[.val (.ref a1), .val (.int p2), .val (.int (4 : Int32))] [(.int (3 : Int32)), (.int (4 : Int32))]))
      refine own_Fin.step (fun _ => XS.icmpNo X0.here hx rfl (hb hby d2_32) rfl (XT.ii_lt_f (by decide : ¬ ((4 : Int32) < (3 : Int32))))) ?_
      show own_Fin p e below s _ _ _ (s₁.setTop (mkF m 35 #[.val (.ref a1), .val (.int p2), .val (.int (4 : Int32))] []))
      refine own_Fin.step (fun _ => XS.aloadN X0.here hx rfl (hb hby d2_35) rfl rfl) ?_
      show own_Fin p e below s _ _ _ (s₁.setTop (mkF m 36 #[.val (.ref a1), .val (.int p2), .val (.int (4 : Int32))] [(.ref a1)]))
      refine own_Fin.step (fun _ => XS.iconst X0.here hx rfl (hb hby d2_36)) ?_
      show own_Fin p e below s _ _ _ (s₁.setTop (mkF m 37 #[.val (.ref a1), .val (.int p2), .val (.int (4 : Int32))] [(.int (2 : Int32)), (.ref a1)]))
      refine own_Fin.step (own_ldFB X0 hx hZ e0 F (j := (2 : Int32)) c2 (g := (mkF m 37 #[.val (.ref a1), .val (.int p2), .val (.int (4 : Int32))] [(.int (2 : Int32)), (.ref a1)])) rfl rfl (hb hby d2_37)) ?_
      show own_Fin p e below s _ _ _ (s₁.setTop (mkF m 38 #[.val (.ref a1), .val (.int p2), .val (.int (4 : Int32))] [(.int (f ((2 : Int32)).toNatClampNeg))]))
      refine own_Fin.step (fun _ => XS.aloadN X0.here hx rfl (hb hby d2_38) rfl rfl) ?_
      show own_Fin p e below s _ _ _ (s₁.setTop (mkF m 39 #[.val (.ref a1), .val (.int p2), .val (.int (4 : Int32))] [(.ref a1), (.int (f ((2 : Int32)).toNatClampNeg))]))
      refine own_Fin.step (fun _ => XS.iloadN X0.here hx rfl (hb hby d2_39) rfl) ?_
      show own_Fin p e below s _ _ _ (s₁.setTop (mkF m 40 #[.val (.ref a1), .val (.int p2), .val (.int (4 : Int32))] [(.int p2), (.ref a1), (.int (f ((2 : Int32)).toNatClampNeg))]))
      refine own_Fin.step (fun _ => XS.iconst X0.here hx rfl (hb hby d2_40)) ?_
      show own_Fin p e below s _ _ _ (s₁.setTop (mkF m 41 #[.val (.ref a1), .val (.int p2), .val (.int (4 : Int32))] [(.int (2 : Int32)), (.int p2), (.ref a1), (.int (f ((2 : Int32)).toNatClampNeg))]))
      refine own_Fin.step (fun _ => XS.iadd X0.here hx rfl (hb hby d2_41) rfl) ?_
      show own_Fin p e below s _ _ _ (s₁.setTop (mkF m 42 #[.val (.ref a1), .val (.int p2), .val (.int (4 : Int32))] [(.int (p2 + (2 : Int32))), (.ref a1), (.int (f ((2 : Int32)).toNatClampNeg))]))
      refine own_Fin.step (own_ldFB X0 hx hZ e0 F (j := (p2 + (2 : Int32))) j2 (g := (mkF m 42 #[.val (.ref a1), .val (.int p2), .val (.int (4 : Int32))] [(.int (p2 + (2 : Int32))), (.ref a1), (.int (f ((2 : Int32)).toNatClampNeg))])) rfl rfl (hb hby d2_42)) ?_
      show own_Fin p e below s _ _ _ (s₁.setTop (mkF m 43 #[.val (.ref a1), .val (.int p2), .val (.int (4 : Int32))] [(.int (f ((p2 + (2 : Int32))).toNatClampNeg)), (.int (f ((2 : Int32)).toNatClampNeg))]))
      by_cases hc43_3 : (f ((2 : Int32)).toNatClampNeg) = (f ((p2 + (2 : Int32))).toNatClampNeg)
      ·
        refine own_Fin.step (fun _ => XS.icmpNo X0.here hx rfl (hb hby d2_43) rfl (XT.ii_ne_f hc43_3)) ?_
        show own_Fin p e below s _ _ _ (s₁.setTop (mkF m 46 #[.val (.ref a1), .val (.int p2), .val (.int (4 : Int32))] []))
        refine own_Fin.step (fun _ => XS.iloadN X0.here hx rfl (hb hby d2_46) rfl) ?_
        show own_Fin p e below s _ _ _ (s₁.setTop (mkF m 47 #[.val (.ref a1), .val (.int p2), .val (.int (4 : Int32))] [(.int (4 : Int32))]))
        refine own_Fin.step (fun _ => XS.iconst X0.here hx rfl (hb hby d2_47)) ?_
        show own_Fin p e below s _ _ _ (s₁.setTop (mkF m 48 #[.val (.ref a1), .val (.int p2), .val (.int (4 : Int32))] [(.int (4 : Int32)), (.int (4 : Int32))]))
        refine own_Fin.step (fun _ => XS.icmpNo X0.here hx rfl (hb hby d2_48) rfl (XT.ii_lt_f (by decide : ¬ ((4 : Int32) < (4 : Int32))))) ?_
        show own_Fin p e below s _ _ _ (s₁.setTop (mkF m 51 #[.val (.ref a1), .val (.int p2), .val (.int (4 : Int32))] []))
        refine own_Fin.step (fun _ => XS.aloadN X0.here hx rfl (hb hby d2_51) rfl rfl) ?_
        show own_Fin p e below s _ _ _ (s₁.setTop (mkF m 52 #[.val (.ref a1), .val (.int p2), .val (.int (4 : Int32))] [(.ref a1)]))
        refine own_Fin.step (fun _ => XS.iconst X0.here hx rfl (hb hby d2_52)) ?_
        show own_Fin p e below s _ _ _ (s₁.setTop (mkF m 53 #[.val (.ref a1), .val (.int p2), .val (.int (4 : Int32))] [(.int (3 : Int32)), (.ref a1)]))
        refine own_Fin.step (own_ldFB X0 hx hZ e0 F (j := (3 : Int32)) c3 (g := (mkF m 53 #[.val (.ref a1), .val (.int p2), .val (.int (4 : Int32))] [(.int (3 : Int32)), (.ref a1)])) rfl rfl (hb hby d2_53)) ?_
        show own_Fin p e below s _ _ _ (s₁.setTop (mkF m 54 #[.val (.ref a1), .val (.int p2), .val (.int (4 : Int32))] [(.int (f ((3 : Int32)).toNatClampNeg))]))
        refine own_Fin.step (fun _ => XS.aloadN X0.here hx rfl (hb hby d2_54) rfl rfl) ?_
        show own_Fin p e below s _ _ _ (s₁.setTop (mkF m 55 #[.val (.ref a1), .val (.int p2), .val (.int (4 : Int32))] [(.ref a1), (.int (f ((3 : Int32)).toNatClampNeg))]))
        refine own_Fin.step (fun _ => XS.iloadN X0.here hx rfl (hb hby d2_55) rfl) ?_
        show own_Fin p e below s _ _ _ (s₁.setTop (mkF m 56 #[.val (.ref a1), .val (.int p2), .val (.int (4 : Int32))] [(.int p2), (.ref a1), (.int (f ((3 : Int32)).toNatClampNeg))]))
        refine own_Fin.step (fun _ => XS.iconst X0.here hx rfl (hb hby d2_56)) ?_
        show own_Fin p e below s _ _ _ (s₁.setTop (mkF m 57 #[.val (.ref a1), .val (.int p2), .val (.int (4 : Int32))] [(.int (3 : Int32)), (.int p2), (.ref a1), (.int (f ((3 : Int32)).toNatClampNeg))]))
        refine own_Fin.step (fun _ => XS.iadd X0.here hx rfl (hb hby d2_57) rfl) ?_
        show own_Fin p e below s _ _ _ (s₁.setTop (mkF m 58 #[.val (.ref a1), .val (.int p2), .val (.int (4 : Int32))] [(.int (p2 + (3 : Int32))), (.ref a1), (.int (f ((3 : Int32)).toNatClampNeg))]))
        refine own_Fin.step (own_ldFB X0 hx hZ e0 F (j := (p2 + (3 : Int32))) j3 (g := (mkF m 58 #[.val (.ref a1), .val (.int p2), .val (.int (4 : Int32))] [(.int (p2 + (3 : Int32))), (.ref a1), (.int (f ((3 : Int32)).toNatClampNeg))])) rfl rfl (hb hby d2_58)) ?_
        show own_Fin p e below s _ _ _ (s₁.setTop (mkF m 59 #[.val (.ref a1), .val (.int p2), .val (.int (4 : Int32))] [(.int (f ((p2 + (3 : Int32))).toNatClampNeg)), (.int (f ((3 : Int32)).toNatClampNeg))]))
        by_cases hc59_4 : (f ((3 : Int32)).toNatClampNeg) = (f ((p2 + (3 : Int32))).toNatClampNeg)
        ·
          refine own_Fin.step (fun _ => XS.icmpNo X0.here hx rfl (hb hby d2_59) rfl (XT.ii_ne_f hc59_4)) ?_
          show own_Fin p e below s _ _ _ (s₁.setTop (mkF m 62 #[.val (.ref a1), .val (.int p2), .val (.int (4 : Int32))] []))
          refine own_Fin.step (fun _ => XS.iloadN X0.here hx rfl (hb hby d2_62) rfl) ?_
          show own_Fin p e below s _ _ _ (s₁.setTop (mkF m 63 #[.val (.ref a1), .val (.int p2), .val (.int (4 : Int32))] [(.int (4 : Int32))]))
          refine own_Fin.step (fun _ => XS.iconst X0.here hx rfl (hb hby d2_63)) ?_
          show own_Fin p e below s _ _ _ (s₁.setTop (mkF m 64 #[.val (.ref a1), .val (.int p2), .val (.int (4 : Int32))] [(.int (5 : Int32)), (.int (4 : Int32))]))
          refine own_Fin.step (fun _ => XS.icmpYes X0.here hx rfl (pc0 := 64) (pc' := 78) rfl (hb hby d2_64) rfl (XT.ii_lt_t (by decide : (4 : Int32) < (5 : Int32))) (by decide) (by decide)) ?_
          show own_Fin p e below s _ _ _ (s₁.setTop (mkF m 78 #[.val (.ref a1), .val (.int p2), .val (.int (4 : Int32))] []))
          refine own_Fin.step (fun _ => XS.iconst X0.here hx rfl (hb hby d2_78)) ?_
          show own_Fin p e below s _ _ _ (s₁.setTop (mkF m 79 #[.val (.ref a1), .val (.int p2), .val (.int (4 : Int32))] [(.int (1 : Int32))]))
          refine own_Fin.step (fun _ => XS.goto X0.here hx rfl (pc0 := 79) (pc' := 83) rfl (hb hby d2_79) (by decide) (by decide)) ?_
          show own_Fin p e below s _ _ _ (s₁.setTop (mkF m 83 #[.val (.ref a1), .val (.int p2), .val (.int (4 : Int32))] [(.int (1 : Int32))]))
          exact own_retN X0 hx hlk (t := .boolean) hret (by simp) (hb hby d2_83) ⟨own_b1 (own_ind1 (fun j hj => by
                rcases j with _ | _ | _ | _ | j
                · have q := hc11_1; rw [t0] at q; exact q
                · have q := hc27_2; rw [t1] at q; exact q
                · have q := hc43_3; rw [t2] at q; exact q
                · have q := hc59_4; rw [t3] at q; exact q
                · omega)), N0, e0⟩ (by decide) (by decide)
        ·
          refine own_Fin.step (fun _ => XS.icmpYes X0.here hx rfl (pc0 := 59) (pc' := 82) rfl (hb hby d2_59) rfl (XT.ii_ne_t hc59_4) (by decide) (by decide)) ?_
          show own_Fin p e below s _ _ _ (s₁.setTop (mkF m 82 #[.val (.ref a1), .val (.int p2), .val (.int (4 : Int32))] []))
          refine own_Fin.step (fun _ => XS.iconst X0.here hx rfl (hb hby d2_82)) ?_
          show own_Fin p e below s _ _ _ (s₁.setTop (mkF m 83 #[.val (.ref a1), .val (.int p2), .val (.int (4 : Int32))] [(.int (0 : Int32))]))
          exact own_retN X0 hx hlk (t := .boolean) hret (by simp) (hb hby d2_83) ⟨own_b0 (own_ind0 (fun q => hc59_4 (by rw [t3]; exact q 3 (by decide)))), N0, e0⟩ (by decide) (by decide)
      ·
        refine own_Fin.step (fun _ => XS.icmpYes X0.here hx rfl (pc0 := 43) (pc' := 82) rfl (hb hby d2_43) rfl (XT.ii_ne_t hc43_3) (by decide) (by decide)) ?_
        show own_Fin p e below s _ _ _ (s₁.setTop (mkF m 82 #[.val (.ref a1), .val (.int p2), .val (.int (4 : Int32))] []))
        refine own_Fin.step (fun _ => XS.iconst X0.here hx rfl (hb hby d2_82)) ?_
        show own_Fin p e below s _ _ _ (s₁.setTop (mkF m 83 #[.val (.ref a1), .val (.int p2), .val (.int (4 : Int32))] [(.int (0 : Int32))]))
        exact own_retN X0 hx hlk (t := .boolean) hret (by simp) (hb hby d2_83) ⟨own_b0 (own_ind0 (fun q => hc43_3 (by rw [t2]; exact q 2 (by decide)))), N0, e0⟩ (by decide) (by decide)
    ·
      refine own_Fin.step (fun _ => XS.icmpYes X0.here hx rfl (pc0 := 27) (pc' := 82) rfl (hb hby d2_27) rfl (XT.ii_ne_t hc27_2) (by decide) (by decide)) ?_
      show own_Fin p e below s _ _ _ (s₁.setTop (mkF m 82 #[.val (.ref a1), .val (.int p2), .val (.int (4 : Int32))] []))
      refine own_Fin.step (fun _ => XS.iconst X0.here hx rfl (hb hby d2_82)) ?_
      show own_Fin p e below s _ _ _ (s₁.setTop (mkF m 83 #[.val (.ref a1), .val (.int p2), .val (.int (4 : Int32))] [(.int (0 : Int32))]))
      exact own_retN X0 hx hlk (t := .boolean) hret (by simp) (hb hby d2_83) ⟨own_b0 (own_ind0 (fun q => hc27_2 (by rw [t1]; exact q 1 (by decide)))), N0, e0⟩ (by decide) (by decide)
  ·
    refine own_Fin.step (fun _ => XS.icmpYes X0.here hx rfl (pc0 := 11) (pc' := 82) rfl (hb hby d2_11) rfl (XT.ii_ne_t hc11_1) (by decide) (by decide)) ?_
    show own_Fin p e below s _ _ _ (s₁.setTop (mkF m 82 #[.val (.ref a1), .val (.int p2), .val (.int (4 : Int32))] []))
    refine own_Fin.step (fun _ => XS.iconst X0.here hx rfl (hb hby d2_82)) ?_
    show own_Fin p e below s _ _ _ (s₁.setTop (mkF m 83 #[.val (.ref a1), .val (.int p2), .val (.int (4 : Int32))] [(.int (0 : Int32))]))
    exact own_retN X0 hx hlk (t := .boolean) hret (by simp) (hb hby d2_83) ⟨own_b0 (own_ind0 (fun q => hc11_1 (by rw [t0]; exact q 0 (by decide)))), N0, e0⟩ (by decide) (by decide)
set_option maxRecDepth 65536 in
set_option maxHeartbeats 40000000 in
theorem rm2e5 (l : Launch) (Z : State) (a0 : Array Value) (hw : ∀ d ∈ tables_1, d.before a0 Z = true) (a1 : Addr) (p2 : Int32) (ka : ClassId) (n : Int32) (f : Nat → Int32) (i : Nat) (h0 : Heap) (n0 : Nat) (Z0 : n0 ≤ h0.size) (F : own_Arf Z h0 a1 ka .byte n f) (c0 : ¬ (0 : Int32) < 0 ∧ (0 : Int32) < n) (j0 : ¬ p2 < 0 ∧ p2 < n) (t0 : (p2).toNatClampNeg = i + 1 - 5 + 0) (c1 : ¬ (1 : Int32) < 0 ∧ (1 : Int32) < n) (j1 : ¬ (p2 + (1 : Int32)) < 0 ∧ (p2 + (1 : Int32)) < n) (t1 : ((p2 + (1 : Int32))).toNatClampNeg = i + 1 - 5 + 1) (c2 : ¬ (2 : Int32) < 0 ∧ (2 : Int32) < n) (j2 : ¬ (p2 + (2 : Int32)) < 0 ∧ (p2 + (2 : Int32)) < n) (t2 : ((p2 + (2 : Int32))).toNatClampNeg = i + 1 - 5 + 2) (c3 : ¬ (3 : Int32) < 0 ∧ (3 : Int32) < n) (j3 : ¬ (p2 + (3 : Int32)) < 0 ∧ (p2 + (3 : Int32)) < n) (t3 : ((p2 + (3 : Int32))).toNatClampNeg = i + 1 - 5 + 3) (c4 : ¬ (4 : Int32) < 0 ∧ (4 : Int32) < n) (j4 : ¬ (p2 + (4 : Int32)) < 0 ∧ (p2 + (4 : Int32)) < n) (t4 : ((p2 + (4 : Int32))).toNatClampNeg = i + 1 - 5 + 4) :
    own_Met l Z [] (⟨"com/example/needlewise/needlewise/KnuthMorrisPrattPartialMatchPinLaw", "eq", "([BII)Z"⟩ : MethodName) method_3_code 3 (some .boolean) ({ frames := 0, cells := 0, slots := 0, locals := 0 } : Room) #[(.ref a1), (.int p2), (.int (5 : Int32))] h0 (own_QP (some (.int (own_ind (own_Bd f i 5)))) h0 n0) := by
  refine own_enter pn_2 ?_
  intro p e s m below meth c s₁ X0 hx hby hml hown hret hlk hnm hZ e0
  have hml : c.maxLocals = 3 := hml
  have N0 := Fr.nil n0
  rw [ef_2 m a1 p2 (5 : Int32)]
  show own_Fin p e below s _ _ _ (s₁.setTop (mkF m 0 #[.val (.ref a1), .val (.int p2), .val (.int (5 : Int32))] []))
  refine own_Fin.step (fun _ => XS.iloadN X0.here hx rfl (hb hby d2_0) rfl) ?_
  show own_Fin p e below s _ _ _ (s₁.setTop (mkF m 1 #[.val (.ref a1), .val (.int p2), .val (.int (5 : Int32))] [(.int (5 : Int32))]))
  refine own_Fin.step (fun _ => XS.iconst X0.here hx rfl (hb hby d2_1)) ?_
  show own_Fin p e below s _ _ _ (s₁.setTop (mkF m 2 #[.val (.ref a1), .val (.int p2), .val (.int (5 : Int32))] [(.int (1 : Int32)), (.int (5 : Int32))]))
  refine own_Fin.step (fun _ => XS.icmpNo X0.here hx rfl (hb hby d2_2) rfl (XT.ii_lt_f (by decide : ¬ ((5 : Int32) < (1 : Int32))))) ?_
  show own_Fin p e below s _ _ _ (s₁.setTop (mkF m 5 #[.val (.ref a1), .val (.int p2), .val (.int (5 : Int32))] []))
  refine own_Fin.step (fun _ => XS.aloadN X0.here hx rfl (hb hby d2_5) rfl rfl) ?_
  show own_Fin p e below s _ _ _ (s₁.setTop (mkF m 6 #[.val (.ref a1), .val (.int p2), .val (.int (5 : Int32))] [(.ref a1)]))
  refine own_Fin.step (fun _ => XS.iconst X0.here hx rfl (hb hby d2_6)) ?_
  show own_Fin p e below s _ _ _ (s₁.setTop (mkF m 7 #[.val (.ref a1), .val (.int p2), .val (.int (5 : Int32))] [(.int (0 : Int32)), (.ref a1)]))
  refine own_Fin.step (own_ldFB X0 hx hZ e0 F (j := (0 : Int32)) c0 (g := (mkF m 7 #[.val (.ref a1), .val (.int p2), .val (.int (5 : Int32))] [(.int (0 : Int32)), (.ref a1)])) rfl rfl (hb hby d2_7)) ?_
  show own_Fin p e below s _ _ _ (s₁.setTop (mkF m 8 #[.val (.ref a1), .val (.int p2), .val (.int (5 : Int32))] [(.int (f ((0 : Int32)).toNatClampNeg))]))
  refine own_Fin.step (fun _ => XS.aloadN X0.here hx rfl (hb hby d2_8) rfl rfl) ?_
  show own_Fin p e below s _ _ _ (s₁.setTop (mkF m 9 #[.val (.ref a1), .val (.int p2), .val (.int (5 : Int32))] [(.ref a1), (.int (f ((0 : Int32)).toNatClampNeg))]))
  refine own_Fin.step (fun _ => XS.iloadN X0.here hx rfl (hb hby d2_9) rfl) ?_
  show own_Fin p e below s _ _ _ (s₁.setTop (mkF m 10 #[.val (.ref a1), .val (.int p2), .val (.int (5 : Int32))] [(.int p2), (.ref a1), (.int (f ((0 : Int32)).toNatClampNeg))]))
  refine own_Fin.step (own_ldFB X0 hx hZ e0 F (j := p2) j0 (g := (mkF m 10 #[.val (.ref a1), .val (.int p2), .val (.int (5 : Int32))] [(.int p2), (.ref a1), (.int (f ((0 : Int32)).toNatClampNeg))])) rfl rfl (hb hby d2_10)) ?_
  show own_Fin p e below s _ _ _ (s₁.setTop (mkF m 11 #[.val (.ref a1), .val (.int p2), .val (.int (5 : Int32))] [(.int (f (p2).toNatClampNeg)), (.int (f ((0 : Int32)).toNatClampNeg))]))
  by_cases hc11_1 : (f ((0 : Int32)).toNatClampNeg) = (f (p2).toNatClampNeg)
  ·
    refine own_Fin.step (fun _ => XS.icmpNo X0.here hx rfl (hb hby d2_11) rfl (XT.ii_ne_f hc11_1)) ?_
    show own_Fin p e below s _ _ _ (s₁.setTop (mkF m 14 #[.val (.ref a1), .val (.int p2), .val (.int (5 : Int32))] []))
    refine own_Fin.step (fun _ => XS.iloadN X0.here hx rfl (hb hby d2_14) rfl) ?_
    show own_Fin p e below s _ _ _ (s₁.setTop (mkF m 15 #[.val (.ref a1), .val (.int p2), .val (.int (5 : Int32))] [(.int (5 : Int32))]))
    refine own_Fin.step (fun _ => XS.iconst X0.here hx rfl (hb hby d2_15)) ?_
    show own_Fin p e below s _ _ _ (s₁.setTop (mkF m 16 #[.val (.ref a1), .val (.int p2), .val (.int (5 : Int32))] [(.int (2 : Int32)), (.int (5 : Int32))]))
    refine own_Fin.step (fun _ => XS.icmpNo X0.here hx rfl (hb hby d2_16) rfl (XT.ii_lt_f (by decide : ¬ ((5 : Int32) < (2 : Int32))))) ?_
    show own_Fin p e below s _ _ _ (s₁.setTop (mkF m 19 #[.val (.ref a1), .val (.int p2), .val (.int (5 : Int32))] []))
    refine own_Fin.step (fun _ => XS.aloadN X0.here hx rfl (hb hby d2_19) rfl rfl) ?_
    show own_Fin p e below s _ _ _ (s₁.setTop (mkF m 20 #[.val (.ref a1), .val (.int p2), .val (.int (5 : Int32))] [(.ref a1)]))
    refine own_Fin.step (fun _ => XS.iconst X0.here hx rfl (hb hby d2_20)) ?_
    show own_Fin p e below s _ _ _ (s₁.setTop (mkF m 21 #[.val (.ref a1), .val (.int p2), .val (.int (5 : Int32))] [(.int (1 : Int32)), (.ref a1)]))
    refine own_Fin.step (own_ldFB X0 hx hZ e0 F (j := (1 : Int32)) c1 (g := (mkF m 21 #[.val (.ref a1), .val (.int p2), .val (.int (5 : Int32))] [(.int (1 : Int32)), (.ref a1)])) rfl rfl (hb hby d2_21)) ?_
    show own_Fin p e below s _ _ _ (s₁.setTop (mkF m 22 #[.val (.ref a1), .val (.int p2), .val (.int (5 : Int32))] [(.int (f ((1 : Int32)).toNatClampNeg))]))
    refine own_Fin.step (fun _ => XS.aloadN X0.here hx rfl (hb hby d2_22) rfl rfl) ?_
    show own_Fin p e below s _ _ _ (s₁.setTop (mkF m 23 #[.val (.ref a1), .val (.int p2), .val (.int (5 : Int32))] [(.ref a1), (.int (f ((1 : Int32)).toNatClampNeg))]))
    refine own_Fin.step (fun _ => XS.iloadN X0.here hx rfl (hb hby d2_23) rfl) ?_
    show own_Fin p e below s _ _ _ (s₁.setTop (mkF m 24 #[.val (.ref a1), .val (.int p2), .val (.int (5 : Int32))] [(.int p2), (.ref a1), (.int (f ((1 : Int32)).toNatClampNeg))]))
    refine own_Fin.step (fun _ => XS.iconst X0.here hx rfl (hb hby d2_24)) ?_
    show own_Fin p e below s _ _ _ (s₁.setTop (mkF m 25 #[.val (.ref a1), .val (.int p2), .val (.int (5 : Int32))] [(.int (1 : Int32)), (.int p2), (.ref a1), (.int (f ((1 : Int32)).toNatClampNeg))]))
    refine own_Fin.step (fun _ => XS.iadd X0.here hx rfl (hb hby d2_25) rfl) ?_
    show own_Fin p e below s _ _ _ (s₁.setTop (mkF m 26 #[.val (.ref a1), .val (.int p2), .val (.int (5 : Int32))] [(.int (p2 + (1 : Int32))), (.ref a1), (.int (f ((1 : Int32)).toNatClampNeg))]))
    refine own_Fin.step (own_ldFB X0 hx hZ e0 F (j := (p2 + (1 : Int32))) j1 (g := (mkF m 26 #[.val (.ref a1), .val (.int p2), .val (.int (5 : Int32))] [(.int (p2 + (1 : Int32))), (.ref a1), (.int (f ((1 : Int32)).toNatClampNeg))])) rfl rfl (hb hby d2_26)) ?_
    show own_Fin p e below s _ _ _ (s₁.setTop (mkF m 27 #[.val (.ref a1), .val (.int p2), .val (.int (5 : Int32))] [(.int (f ((p2 + (1 : Int32))).toNatClampNeg)), (.int (f ((1 : Int32)).toNatClampNeg))]))
    by_cases hc27_2 : (f ((1 : Int32)).toNatClampNeg) = (f ((p2 + (1 : Int32))).toNatClampNeg)
    ·
      refine own_Fin.step (fun _ => XS.icmpNo X0.here hx rfl (hb hby d2_27) rfl (XT.ii_ne_f hc27_2)) ?_
      show own_Fin p e below s _ _ _ (s₁.setTop (mkF m 30 #[.val (.ref a1), .val (.int p2), .val (.int (5 : Int32))] []))
      refine own_Fin.step (fun _ => XS.iloadN X0.here hx rfl (hb hby d2_30) rfl) ?_
      show own_Fin p e below s _ _ _ (s₁.setTop (mkF m 31 #[.val (.ref a1), .val (.int p2), .val (.int (5 : Int32))] [(.int (5 : Int32))]))
      refine own_Fin.step (fun _ => XS.iconst X0.here hx rfl (hb hby d2_31)) ?_
      show own_Fin p e below s _ _ _ (s₁.setTop (mkF m 32 #[.val (.ref a1), .val (.int p2), .val (.int (5 : Int32))] [(.int (3 : Int32)), (.int (5 : Int32))]))
      refine own_Fin.step (fun _ => XS.icmpNo X0.here hx rfl (hb hby d2_32) rfl (XT.ii_lt_f (by decide : ¬ ((5 : Int32) < (3 : Int32))))) ?_
      show own_Fin p e below s _ _ _ (s₁.setTop (mkF m 35 #[.val (.ref a1), .val (.int p2), .val (.int (5 : Int32))] []))
      refine own_Fin.step (fun _ => XS.aloadN X0.here hx rfl (hb hby d2_35) rfl rfl) ?_
      show own_Fin p e below s _ _ _ (s₁.setTop (mkF m 36 #[.val (.ref a1), .val (.int p2), .val (.int (5 : Int32))] [(.ref a1)]))
      refine own_Fin.step (fun _ => XS.iconst X0.here hx rfl (hb hby d2_36)) ?_
      show own_Fin p e below s _ _ _ (s₁.setTop (mkF m 37 #[.val (.ref a1), .val (.int p2), .val (.int (5 : Int32))] [(.int (2 : Int32)), (.ref a1)]))
      refine own_Fin.step (own_ldFB X0 hx hZ e0 F (j := (2 : Int32)) c2 (g := (mkF m 37 #[.val (.ref a1), .val (.int p2), .val (.int (5 : Int32))] [(.int (2 : Int32)), (.ref a1)])) rfl rfl (hb hby d2_37)) ?_
      show own_Fin p e below s _ _ _ (s₁.setTop (mkF m 38 #[.val (.ref a1), .val (.int p2), .val (.int (5 : Int32))] [(.int (f ((2 : Int32)).toNatClampNeg))]))
      refine own_Fin.step (fun _ => XS.aloadN X0.here hx rfl (hb hby d2_38) rfl rfl) ?_
      show own_Fin p e below s _ _ _ (s₁.setTop (mkF m 39 #[.val (.ref a1), .val (.int p2), .val (.int (5 : Int32))] [(.ref a1), (.int (f ((2 : Int32)).toNatClampNeg))]))
      refine own_Fin.step (fun _ => XS.iloadN X0.here hx rfl (hb hby d2_39) rfl) ?_
      show own_Fin p e below s _ _ _ (s₁.setTop (mkF m 40 #[.val (.ref a1), .val (.int p2), .val (.int (5 : Int32))] [(.int p2), (.ref a1), (.int (f ((2 : Int32)).toNatClampNeg))]))
      refine own_Fin.step (fun _ => XS.iconst X0.here hx rfl (hb hby d2_40)) ?_
      show own_Fin p e below s _ _ _ (s₁.setTop (mkF m 41 #[.val (.ref a1), .val (.int p2), .val (.int (5 : Int32))] [(.int (2 : Int32)), (.int p2), (.ref a1), (.int (f ((2 : Int32)).toNatClampNeg))]))
      refine own_Fin.step (fun _ => XS.iadd X0.here hx rfl (hb hby d2_41) rfl) ?_
      show own_Fin p e below s _ _ _ (s₁.setTop (mkF m 42 #[.val (.ref a1), .val (.int p2), .val (.int (5 : Int32))] [(.int (p2 + (2 : Int32))), (.ref a1), (.int (f ((2 : Int32)).toNatClampNeg))]))
      refine own_Fin.step (own_ldFB X0 hx hZ e0 F (j := (p2 + (2 : Int32))) j2 (g := (mkF m 42 #[.val (.ref a1), .val (.int p2), .val (.int (5 : Int32))] [(.int (p2 + (2 : Int32))), (.ref a1), (.int (f ((2 : Int32)).toNatClampNeg))])) rfl rfl (hb hby d2_42)) ?_
      show own_Fin p e below s _ _ _ (s₁.setTop (mkF m 43 #[.val (.ref a1), .val (.int p2), .val (.int (5 : Int32))] [(.int (f ((p2 + (2 : Int32))).toNatClampNeg)), (.int (f ((2 : Int32)).toNatClampNeg))]))
      by_cases hc43_3 : (f ((2 : Int32)).toNatClampNeg) = (f ((p2 + (2 : Int32))).toNatClampNeg)
      ·
        refine own_Fin.step (fun _ => XS.icmpNo X0.here hx rfl (hb hby d2_43) rfl (XT.ii_ne_f hc43_3)) ?_
        show own_Fin p e below s _ _ _ (s₁.setTop (mkF m 46 #[.val (.ref a1), .val (.int p2), .val (.int (5 : Int32))] []))
        refine own_Fin.step (fun _ => XS.iloadN X0.here hx rfl (hb hby d2_46) rfl) ?_
        show own_Fin p e below s _ _ _ (s₁.setTop (mkF m 47 #[.val (.ref a1), .val (.int p2), .val (.int (5 : Int32))] [(.int (5 : Int32))]))
        refine own_Fin.step (fun _ => XS.iconst X0.here hx rfl (hb hby d2_47)) ?_
        show own_Fin p e below s _ _ _ (s₁.setTop (mkF m 48 #[.val (.ref a1), .val (.int p2), .val (.int (5 : Int32))] [(.int (4 : Int32)), (.int (5 : Int32))]))
        refine own_Fin.step (fun _ => XS.icmpNo X0.here hx rfl (hb hby d2_48) rfl (XT.ii_lt_f (by decide : ¬ ((5 : Int32) < (4 : Int32))))) ?_
        show own_Fin p e below s _ _ _ (s₁.setTop (mkF m 51 #[.val (.ref a1), .val (.int p2), .val (.int (5 : Int32))] []))
        refine own_Fin.step (fun _ => XS.aloadN X0.here hx rfl (hb hby d2_51) rfl rfl) ?_
        show own_Fin p e below s _ _ _ (s₁.setTop (mkF m 52 #[.val (.ref a1), .val (.int p2), .val (.int (5 : Int32))] [(.ref a1)]))
        refine own_Fin.step (fun _ => XS.iconst X0.here hx rfl (hb hby d2_52)) ?_
        show own_Fin p e below s _ _ _ (s₁.setTop (mkF m 53 #[.val (.ref a1), .val (.int p2), .val (.int (5 : Int32))] [(.int (3 : Int32)), (.ref a1)]))
        refine own_Fin.step (own_ldFB X0 hx hZ e0 F (j := (3 : Int32)) c3 (g := (mkF m 53 #[.val (.ref a1), .val (.int p2), .val (.int (5 : Int32))] [(.int (3 : Int32)), (.ref a1)])) rfl rfl (hb hby d2_53)) ?_
        show own_Fin p e below s _ _ _ (s₁.setTop (mkF m 54 #[.val (.ref a1), .val (.int p2), .val (.int (5 : Int32))] [(.int (f ((3 : Int32)).toNatClampNeg))]))
        refine own_Fin.step (fun _ => XS.aloadN X0.here hx rfl (hb hby d2_54) rfl rfl) ?_
        show own_Fin p e below s _ _ _ (s₁.setTop (mkF m 55 #[.val (.ref a1), .val (.int p2), .val (.int (5 : Int32))] [(.ref a1), (.int (f ((3 : Int32)).toNatClampNeg))]))
        refine own_Fin.step (fun _ => XS.iloadN X0.here hx rfl (hb hby d2_55) rfl) ?_
        show own_Fin p e below s _ _ _ (s₁.setTop (mkF m 56 #[.val (.ref a1), .val (.int p2), .val (.int (5 : Int32))] [(.int p2), (.ref a1), (.int (f ((3 : Int32)).toNatClampNeg))]))
        refine own_Fin.step (fun _ => XS.iconst X0.here hx rfl (hb hby d2_56)) ?_
        show own_Fin p e below s _ _ _ (s₁.setTop (mkF m 57 #[.val (.ref a1), .val (.int p2), .val (.int (5 : Int32))] [(.int (3 : Int32)), (.int p2), (.ref a1), (.int (f ((3 : Int32)).toNatClampNeg))]))
        refine own_Fin.step (fun _ => XS.iadd X0.here hx rfl (hb hby d2_57) rfl) ?_
        show own_Fin p e below s _ _ _ (s₁.setTop (mkF m 58 #[.val (.ref a1), .val (.int p2), .val (.int (5 : Int32))] [(.int (p2 + (3 : Int32))), (.ref a1), (.int (f ((3 : Int32)).toNatClampNeg))]))
        refine own_Fin.step (own_ldFB X0 hx hZ e0 F (j := (p2 + (3 : Int32))) j3 (g := (mkF m 58 #[.val (.ref a1), .val (.int p2), .val (.int (5 : Int32))] [(.int (p2 + (3 : Int32))), (.ref a1), (.int (f ((3 : Int32)).toNatClampNeg))])) rfl rfl (hb hby d2_58)) ?_
        show own_Fin p e below s _ _ _ (s₁.setTop (mkF m 59 #[.val (.ref a1), .val (.int p2), .val (.int (5 : Int32))] [(.int (f ((p2 + (3 : Int32))).toNatClampNeg)), (.int (f ((3 : Int32)).toNatClampNeg))]))
        by_cases hc59_4 : (f ((3 : Int32)).toNatClampNeg) = (f ((p2 + (3 : Int32))).toNatClampNeg)
        ·
          refine own_Fin.step (fun _ => XS.icmpNo X0.here hx rfl (hb hby d2_59) rfl (XT.ii_ne_f hc59_4)) ?_
          show own_Fin p e below s _ _ _ (s₁.setTop (mkF m 62 #[.val (.ref a1), .val (.int p2), .val (.int (5 : Int32))] []))
          refine own_Fin.step (fun _ => XS.iloadN X0.here hx rfl (hb hby d2_62) rfl) ?_
          show own_Fin p e below s _ _ _ (s₁.setTop (mkF m 63 #[.val (.ref a1), .val (.int p2), .val (.int (5 : Int32))] [(.int (5 : Int32))]))
          refine own_Fin.step (fun _ => XS.iconst X0.here hx rfl (hb hby d2_63)) ?_
          show own_Fin p e below s _ _ _ (s₁.setTop (mkF m 64 #[.val (.ref a1), .val (.int p2), .val (.int (5 : Int32))] [(.int (5 : Int32)), (.int (5 : Int32))]))
          refine own_Fin.step (fun _ => XS.icmpNo X0.here hx rfl (hb hby d2_64) rfl (XT.ii_lt_f (by decide : ¬ ((5 : Int32) < (5 : Int32))))) ?_
          show own_Fin p e below s _ _ _ (s₁.setTop (mkF m 67 #[.val (.ref a1), .val (.int p2), .val (.int (5 : Int32))] []))
          refine own_Fin.step (fun _ => XS.aloadN X0.here hx rfl (hb hby d2_67) rfl rfl) ?_
          show own_Fin p e below s _ _ _ (s₁.setTop (mkF m 68 #[.val (.ref a1), .val (.int p2), .val (.int (5 : Int32))] [(.ref a1)]))
          refine own_Fin.step (fun _ => XS.iconst X0.here hx rfl (hb hby d2_68)) ?_
          show own_Fin p e below s _ _ _ (s₁.setTop (mkF m 69 #[.val (.ref a1), .val (.int p2), .val (.int (5 : Int32))] [(.int (4 : Int32)), (.ref a1)]))
          refine own_Fin.step (own_ldFB X0 hx hZ e0 F (j := (4 : Int32)) c4 (g := (mkF m 69 #[.val (.ref a1), .val (.int p2), .val (.int (5 : Int32))] [(.int (4 : Int32)), (.ref a1)])) rfl rfl (hb hby d2_69)) ?_
          show own_Fin p e below s _ _ _ (s₁.setTop (mkF m 70 #[.val (.ref a1), .val (.int p2), .val (.int (5 : Int32))] [(.int (f ((4 : Int32)).toNatClampNeg))]))
          refine own_Fin.step (fun _ => XS.aloadN X0.here hx rfl (hb hby d2_70) rfl rfl) ?_
          show own_Fin p e below s _ _ _ (s₁.setTop (mkF m 71 #[.val (.ref a1), .val (.int p2), .val (.int (5 : Int32))] [(.ref a1), (.int (f ((4 : Int32)).toNatClampNeg))]))
          refine own_Fin.step (fun _ => XS.iloadN X0.here hx rfl (hb hby d2_71) rfl) ?_
          show own_Fin p e below s _ _ _ (s₁.setTop (mkF m 72 #[.val (.ref a1), .val (.int p2), .val (.int (5 : Int32))] [(.int p2), (.ref a1), (.int (f ((4 : Int32)).toNatClampNeg))]))
          refine own_Fin.step (fun _ => XS.iconst X0.here hx rfl (hb hby d2_72)) ?_
          show own_Fin p e below s _ _ _ (s₁.setTop (mkF m 73 #[.val (.ref a1), .val (.int p2), .val (.int (5 : Int32))] [(.int (4 : Int32)), (.int p2), (.ref a1), (.int (f ((4 : Int32)).toNatClampNeg))]))
          refine own_Fin.step (fun _ => XS.iadd X0.here hx rfl (hb hby d2_73) rfl) ?_
          show own_Fin p e below s _ _ _ (s₁.setTop (mkF m 74 #[.val (.ref a1), .val (.int p2), .val (.int (5 : Int32))] [(.int (p2 + (4 : Int32))), (.ref a1), (.int (f ((4 : Int32)).toNatClampNeg))]))
          refine own_Fin.step (own_ldFB X0 hx hZ e0 F (j := (p2 + (4 : Int32))) j4 (g := (mkF m 74 #[.val (.ref a1), .val (.int p2), .val (.int (5 : Int32))] [(.int (p2 + (4 : Int32))), (.ref a1), (.int (f ((4 : Int32)).toNatClampNeg))])) rfl rfl (hb hby d2_74)) ?_
          show own_Fin p e below s _ _ _ (s₁.setTop (mkF m 75 #[.val (.ref a1), .val (.int p2), .val (.int (5 : Int32))] [(.int (f ((p2 + (4 : Int32))).toNatClampNeg)), (.int (f ((4 : Int32)).toNatClampNeg))]))
          by_cases hc75_5 : (f ((4 : Int32)).toNatClampNeg) = (f ((p2 + (4 : Int32))).toNatClampNeg)
          ·
            refine own_Fin.step (fun _ => XS.icmpNo X0.here hx rfl (hb hby d2_75) rfl (XT.ii_ne_f hc75_5)) ?_
            show own_Fin p e below s _ _ _ (s₁.setTop (mkF m 78 #[.val (.ref a1), .val (.int p2), .val (.int (5 : Int32))] []))
            refine own_Fin.step (fun _ => XS.iconst X0.here hx rfl (hb hby d2_78)) ?_
            show own_Fin p e below s _ _ _ (s₁.setTop (mkF m 79 #[.val (.ref a1), .val (.int p2), .val (.int (5 : Int32))] [(.int (1 : Int32))]))
            refine own_Fin.step (fun _ => XS.goto X0.here hx rfl (pc0 := 79) (pc' := 83) rfl (hb hby d2_79) (by decide) (by decide)) ?_
            show own_Fin p e below s _ _ _ (s₁.setTop (mkF m 83 #[.val (.ref a1), .val (.int p2), .val (.int (5 : Int32))] [(.int (1 : Int32))]))
            exact own_retN X0 hx hlk (t := .boolean) hret (by simp) (hb hby d2_83) ⟨own_b1 (own_ind1 (fun j hj => by
                  rcases j with _ | _ | _ | _ | _ | j
                  · have q := hc11_1; rw [t0] at q; exact q
                  · have q := hc27_2; rw [t1] at q; exact q
                  · have q := hc43_3; rw [t2] at q; exact q
                  · have q := hc59_4; rw [t3] at q; exact q
                  · have q := hc75_5; rw [t4] at q; exact q
                  · omega)), N0, e0⟩ (by decide) (by decide)
          ·
            refine own_Fin.step (fun _ => XS.icmpYes X0.here hx rfl (pc0 := 75) (pc' := 82) rfl (hb hby d2_75) rfl (XT.ii_ne_t hc75_5) (by decide) (by decide)) ?_
            show own_Fin p e below s _ _ _ (s₁.setTop (mkF m 82 #[.val (.ref a1), .val (.int p2), .val (.int (5 : Int32))] []))
            refine own_Fin.step (fun _ => XS.iconst X0.here hx rfl (hb hby d2_82)) ?_
            show own_Fin p e below s _ _ _ (s₁.setTop (mkF m 83 #[.val (.ref a1), .val (.int p2), .val (.int (5 : Int32))] [(.int (0 : Int32))]))
            exact own_retN X0 hx hlk (t := .boolean) hret (by simp) (hb hby d2_83) ⟨own_b0 (own_ind0 (fun q => hc75_5 (by rw [t4]; exact q 4 (by decide)))), N0, e0⟩ (by decide) (by decide)
        ·
          refine own_Fin.step (fun _ => XS.icmpYes X0.here hx rfl (pc0 := 59) (pc' := 82) rfl (hb hby d2_59) rfl (XT.ii_ne_t hc59_4) (by decide) (by decide)) ?_
          show own_Fin p e below s _ _ _ (s₁.setTop (mkF m 82 #[.val (.ref a1), .val (.int p2), .val (.int (5 : Int32))] []))
          refine own_Fin.step (fun _ => XS.iconst X0.here hx rfl (hb hby d2_82)) ?_
          show own_Fin p e below s _ _ _ (s₁.setTop (mkF m 83 #[.val (.ref a1), .val (.int p2), .val (.int (5 : Int32))] [(.int (0 : Int32))]))
          exact own_retN X0 hx hlk (t := .boolean) hret (by simp) (hb hby d2_83) ⟨own_b0 (own_ind0 (fun q => hc59_4 (by rw [t3]; exact q 3 (by decide)))), N0, e0⟩ (by decide) (by decide)
      ·
        refine own_Fin.step (fun _ => XS.icmpYes X0.here hx rfl (pc0 := 43) (pc' := 82) rfl (hb hby d2_43) rfl (XT.ii_ne_t hc43_3) (by decide) (by decide)) ?_
        show own_Fin p e below s _ _ _ (s₁.setTop (mkF m 82 #[.val (.ref a1), .val (.int p2), .val (.int (5 : Int32))] []))
        refine own_Fin.step (fun _ => XS.iconst X0.here hx rfl (hb hby d2_82)) ?_
        show own_Fin p e below s _ _ _ (s₁.setTop (mkF m 83 #[.val (.ref a1), .val (.int p2), .val (.int (5 : Int32))] [(.int (0 : Int32))]))
        exact own_retN X0 hx hlk (t := .boolean) hret (by simp) (hb hby d2_83) ⟨own_b0 (own_ind0 (fun q => hc43_3 (by rw [t2]; exact q 2 (by decide)))), N0, e0⟩ (by decide) (by decide)
    ·
      refine own_Fin.step (fun _ => XS.icmpYes X0.here hx rfl (pc0 := 27) (pc' := 82) rfl (hb hby d2_27) rfl (XT.ii_ne_t hc27_2) (by decide) (by decide)) ?_
      show own_Fin p e below s _ _ _ (s₁.setTop (mkF m 82 #[.val (.ref a1), .val (.int p2), .val (.int (5 : Int32))] []))
      refine own_Fin.step (fun _ => XS.iconst X0.here hx rfl (hb hby d2_82)) ?_
      show own_Fin p e below s _ _ _ (s₁.setTop (mkF m 83 #[.val (.ref a1), .val (.int p2), .val (.int (5 : Int32))] [(.int (0 : Int32))]))
      exact own_retN X0 hx hlk (t := .boolean) hret (by simp) (hb hby d2_83) ⟨own_b0 (own_ind0 (fun q => hc27_2 (by rw [t1]; exact q 1 (by decide)))), N0, e0⟩ (by decide) (by decide)
  ·
    refine own_Fin.step (fun _ => XS.icmpYes X0.here hx rfl (pc0 := 11) (pc' := 82) rfl (hb hby d2_11) rfl (XT.ii_ne_t hc11_1) (by decide) (by decide)) ?_
    show own_Fin p e below s _ _ _ (s₁.setTop (mkF m 82 #[.val (.ref a1), .val (.int p2), .val (.int (5 : Int32))] []))
    refine own_Fin.step (fun _ => XS.iconst X0.here hx rfl (hb hby d2_82)) ?_
    show own_Fin p e below s _ _ _ (s₁.setTop (mkF m 83 #[.val (.ref a1), .val (.int p2), .val (.int (5 : Int32))] [(.int (0 : Int32))]))
    exact own_retN X0 hx hlk (t := .boolean) hret (by simp) (hb hby d2_83) ⟨own_b0 (own_ind0 (fun q => hc11_1 (by rw [t0]; exact q 0 (by decide)))), N0, e0⟩ (by decide) (by decide)
theorem d3_0 : decode method_4_code 0 = .ok (.iload_n 1, 1) := by decide +kernel
theorem d3_1 : decode method_4_code 1 = .ok (.iconst 5, 1) := by decide +kernel
theorem d3_2 : decode method_4_code 2 = .ok (.if_icmp .lt 16, 3) := by decide +kernel
theorem d3_5 : decode method_4_code 5 = .ok (.aload_n 0, 1) := by decide +kernel
theorem d3_6 : decode method_4_code 6 = .ok (.iload_n 1, 1) := by decide +kernel
theorem d3_7 : decode method_4_code 7 = .ok (.iconst 4, 1) := by decide +kernel
theorem d3_8 : decode method_4_code 8 = .ok (.isub, 1) := by decide +kernel
theorem d3_9 : decode method_4_code 9 = .ok (.iconst 5, 1) := by decide +kernel
theorem d3_10 : decode method_4_code 10 = .ok (.invokestatic 7, 3) := by decide +kernel
theorem d3_13 : decode method_4_code 13 = .ok (.ifCond .eq 5, 3) := by decide +kernel
theorem d3_16 : decode method_4_code 16 = .ok (.iconst 5, 1) := by decide +kernel
theorem d3_17 : decode method_4_code 17 = .ok (.ireturn, 1) := by decide +kernel
theorem d3_18 : decode method_4_code 18 = .ok (.iload_n 1, 1) := by decide +kernel
theorem d3_19 : decode method_4_code 19 = .ok (.iconst 4, 1) := by decide +kernel
theorem d3_20 : decode method_4_code 20 = .ok (.if_icmp .lt 16, 3) := by decide +kernel
theorem d3_23 : decode method_4_code 23 = .ok (.aload_n 0, 1) := by decide +kernel
theorem d3_24 : decode method_4_code 24 = .ok (.iload_n 1, 1) := by decide +kernel
theorem d3_25 : decode method_4_code 25 = .ok (.iconst 3, 1) := by decide +kernel
theorem d3_26 : decode method_4_code 26 = .ok (.isub, 1) := by decide +kernel
theorem d3_27 : decode method_4_code 27 = .ok (.iconst 4, 1) := by decide +kernel
theorem d3_28 : decode method_4_code 28 = .ok (.invokestatic 7, 3) := by decide +kernel
theorem d3_31 : decode method_4_code 31 = .ok (.ifCond .eq 5, 3) := by decide +kernel
theorem d3_34 : decode method_4_code 34 = .ok (.iconst 4, 1) := by decide +kernel
theorem d3_35 : decode method_4_code 35 = .ok (.ireturn, 1) := by decide +kernel
theorem d3_36 : decode method_4_code 36 = .ok (.iload_n 1, 1) := by decide +kernel
theorem d3_37 : decode method_4_code 37 = .ok (.iconst 3, 1) := by decide +kernel
theorem d3_38 : decode method_4_code 38 = .ok (.if_icmp .lt 16, 3) := by decide +kernel
theorem d3_41 : decode method_4_code 41 = .ok (.aload_n 0, 1) := by decide +kernel
theorem d3_42 : decode method_4_code 42 = .ok (.iload_n 1, 1) := by decide +kernel
theorem d3_43 : decode method_4_code 43 = .ok (.iconst 2, 1) := by decide +kernel
theorem d3_44 : decode method_4_code 44 = .ok (.isub, 1) := by decide +kernel
theorem d3_45 : decode method_4_code 45 = .ok (.iconst 3, 1) := by decide +kernel
theorem d3_46 : decode method_4_code 46 = .ok (.invokestatic 7, 3) := by decide +kernel
theorem d3_49 : decode method_4_code 49 = .ok (.ifCond .eq 5, 3) := by decide +kernel
theorem d3_52 : decode method_4_code 52 = .ok (.iconst 3, 1) := by decide +kernel
theorem d3_53 : decode method_4_code 53 = .ok (.ireturn, 1) := by decide +kernel
theorem d3_54 : decode method_4_code 54 = .ok (.iload_n 1, 1) := by decide +kernel
theorem d3_55 : decode method_4_code 55 = .ok (.iconst 2, 1) := by decide +kernel
theorem d3_56 : decode method_4_code 56 = .ok (.if_icmp .lt 16, 3) := by decide +kernel
theorem d3_59 : decode method_4_code 59 = .ok (.aload_n 0, 1) := by decide +kernel
theorem d3_60 : decode method_4_code 60 = .ok (.iload_n 1, 1) := by decide +kernel
theorem d3_61 : decode method_4_code 61 = .ok (.iconst 1, 1) := by decide +kernel
theorem d3_62 : decode method_4_code 62 = .ok (.isub, 1) := by decide +kernel
theorem d3_63 : decode method_4_code 63 = .ok (.iconst 2, 1) := by decide +kernel
theorem d3_64 : decode method_4_code 64 = .ok (.invokestatic 7, 3) := by decide +kernel
theorem d3_67 : decode method_4_code 67 = .ok (.ifCond .eq 5, 3) := by decide +kernel
theorem d3_70 : decode method_4_code 70 = .ok (.iconst 2, 1) := by decide +kernel
theorem d3_71 : decode method_4_code 71 = .ok (.ireturn, 1) := by decide +kernel
theorem d3_72 : decode method_4_code 72 = .ok (.iload_n 1, 1) := by decide +kernel
theorem d3_73 : decode method_4_code 73 = .ok (.iconst 1, 1) := by decide +kernel
theorem d3_74 : decode method_4_code 74 = .ok (.if_icmp .lt 14, 3) := by decide +kernel
theorem d3_77 : decode method_4_code 77 = .ok (.aload_n 0, 1) := by decide +kernel
theorem d3_78 : decode method_4_code 78 = .ok (.iload_n 1, 1) := by decide +kernel
theorem d3_79 : decode method_4_code 79 = .ok (.iconst 1, 1) := by decide +kernel
theorem d3_80 : decode method_4_code 80 = .ok (.invokestatic 7, 3) := by decide +kernel
theorem d3_83 : decode method_4_code 83 = .ok (.ifCond .eq 5, 3) := by decide +kernel
theorem d3_86 : decode method_4_code 86 = .ok (.iconst 1, 1) := by decide +kernel
theorem d3_87 : decode method_4_code 87 = .ok (.ireturn, 1) := by decide +kernel
theorem d3_88 : decode method_4_code 88 = .ok (.iconst 0, 1) := by decide +kernel
theorem d3_89 : decode method_4_code 89 = .ok (.ireturn, 1) := by decide +kernel
theorem pn_3 : plainFor (⟨"com/example/needlewise/needlewise/KnuthMorrisPrattPartialMatchPinLaw", "border", "([BI)I"⟩ : MethodName) = true := plainFor_of_name (by first | (simp [plainName, overriddenIn]; done) | decide +kernel)
theorem ef_3 (m : MethodId) (x0 : Addr) (x1 : Int32) : entryFrame m #[(.ref x0), (.int x1)] 2 = mkF m 0 #[.val (.ref x0), .val (.int x1)] [] := by first | (simp [entryFrame, mkF, argsToLocals, Value.category]; done) | rfl
set_option maxRecDepth 65536 in
set_option maxHeartbeats 40000000 in
theorem rm3b0 (l : Launch) (Z : State) (a0 : Array Value) (hw : ∀ d ∈ tables_1, d.before a0 Z = true) (a1 : Addr) (ka : ClassId) (n : Int32) (f : Nat → Int32) (h0 : Heap) (n0 : Nat) (Z0 : n0 ≤ h0.size) (F : own_Arf Z h0 a1 ka .byte n f) (Hn : ¬ n < (1 : Int32)) :
    own_Met l Z [] (⟨"com/example/needlewise/needlewise/KnuthMorrisPrattPartialMatchPinLaw", "border", "([BI)I"⟩ : MethodName) method_4_code 2 (some .int) ({ frames := 0, cells := 0, slots := 0, locals := 0 } : Room) #[(.ref a1), (.int (0 : Int32))] h0 (own_QB f 0 h0 n0) := by
  refine own_enter pn_3 ?_
  intro p e s m below meth c s₁ X0 hx hby hml hown hret hlk hnm hZ e0
  have hml : c.maxLocals = 2 := hml
  have N0 := Fr.nil n0
  rw [ef_3 m a1 (0 : Int32)]
  show own_Fin p e below s _ _ _ (s₁.setTop (mkF m 0 #[.val (.ref a1), .val (.int (0 : Int32))] []))
  refine own_Fin.step (fun _ => XS.iloadN X0.here hx rfl (hb hby d3_0) rfl) ?_
  show own_Fin p e below s _ _ _ (s₁.setTop (mkF m 1 #[.val (.ref a1), .val (.int (0 : Int32))] [(.int (0 : Int32))]))
  refine own_Fin.step (fun _ => XS.iconst X0.here hx rfl (hb hby d3_1)) ?_
  show own_Fin p e below s _ _ _ (s₁.setTop (mkF m 2 #[.val (.ref a1), .val (.int (0 : Int32))] [(.int (5 : Int32)), (.int (0 : Int32))]))
  refine own_Fin.step (fun _ => XS.icmpYes X0.here hx rfl (pc0 := 2) (pc' := 18) rfl (hb hby d3_2) rfl (XT.ii_lt_t (by decide : (0 : Int32) < (5 : Int32))) (by decide) (by decide)) ?_
  show own_Fin p e below s _ _ _ (s₁.setTop (mkF m 18 #[.val (.ref a1), .val (.int (0 : Int32))] []))
  refine own_Fin.step (fun _ => XS.iloadN X0.here hx rfl (hb hby d3_18) rfl) ?_
  show own_Fin p e below s _ _ _ (s₁.setTop (mkF m 19 #[.val (.ref a1), .val (.int (0 : Int32))] [(.int (0 : Int32))]))
  refine own_Fin.step (fun _ => XS.iconst X0.here hx rfl (hb hby d3_19)) ?_
  show own_Fin p e below s _ _ _ (s₁.setTop (mkF m 20 #[.val (.ref a1), .val (.int (0 : Int32))] [(.int (4 : Int32)), (.int (0 : Int32))]))
  refine own_Fin.step (fun _ => XS.icmpYes X0.here hx rfl (pc0 := 20) (pc' := 36) rfl (hb hby d3_20) rfl (XT.ii_lt_t (by decide : (0 : Int32) < (4 : Int32))) (by decide) (by decide)) ?_
  show own_Fin p e below s _ _ _ (s₁.setTop (mkF m 36 #[.val (.ref a1), .val (.int (0 : Int32))] []))
  refine own_Fin.step (fun _ => XS.iloadN X0.here hx rfl (hb hby d3_36) rfl) ?_
  show own_Fin p e below s _ _ _ (s₁.setTop (mkF m 37 #[.val (.ref a1), .val (.int (0 : Int32))] [(.int (0 : Int32))]))
  refine own_Fin.step (fun _ => XS.iconst X0.here hx rfl (hb hby d3_37)) ?_
  show own_Fin p e below s _ _ _ (s₁.setTop (mkF m 38 #[.val (.ref a1), .val (.int (0 : Int32))] [(.int (3 : Int32)), (.int (0 : Int32))]))
  refine own_Fin.step (fun _ => XS.icmpYes X0.here hx rfl (pc0 := 38) (pc' := 54) rfl (hb hby d3_38) rfl (XT.ii_lt_t (by decide : (0 : Int32) < (3 : Int32))) (by decide) (by decide)) ?_
  show own_Fin p e below s _ _ _ (s₁.setTop (mkF m 54 #[.val (.ref a1), .val (.int (0 : Int32))] []))
  refine own_Fin.step (fun _ => XS.iloadN X0.here hx rfl (hb hby d3_54) rfl) ?_
  show own_Fin p e below s _ _ _ (s₁.setTop (mkF m 55 #[.val (.ref a1), .val (.int (0 : Int32))] [(.int (0 : Int32))]))
  refine own_Fin.step (fun _ => XS.iconst X0.here hx rfl (hb hby d3_55)) ?_
  show own_Fin p e below s _ _ _ (s₁.setTop (mkF m 56 #[.val (.ref a1), .val (.int (0 : Int32))] [(.int (2 : Int32)), (.int (0 : Int32))]))
  refine own_Fin.step (fun _ => XS.icmpYes X0.here hx rfl (pc0 := 56) (pc' := 72) rfl (hb hby d3_56) rfl (XT.ii_lt_t (by decide : (0 : Int32) < (2 : Int32))) (by decide) (by decide)) ?_
  show own_Fin p e below s _ _ _ (s₁.setTop (mkF m 72 #[.val (.ref a1), .val (.int (0 : Int32))] []))
  refine own_Fin.step (fun _ => XS.iloadN X0.here hx rfl (hb hby d3_72) rfl) ?_
  show own_Fin p e below s _ _ _ (s₁.setTop (mkF m 73 #[.val (.ref a1), .val (.int (0 : Int32))] [(.int (0 : Int32))]))
  refine own_Fin.step (fun _ => XS.iconst X0.here hx rfl (hb hby d3_73)) ?_
  show own_Fin p e below s _ _ _ (s₁.setTop (mkF m 74 #[.val (.ref a1), .val (.int (0 : Int32))] [(.int (1 : Int32)), (.int (0 : Int32))]))
  refine own_Fin.step (fun _ => XS.icmpYes X0.here hx rfl (pc0 := 74) (pc' := 88) rfl (hb hby d3_74) rfl (XT.ii_lt_t (by decide : (0 : Int32) < (1 : Int32))) (by decide) (by decide)) ?_
  show own_Fin p e below s _ _ _ (s₁.setTop (mkF m 88 #[.val (.ref a1), .val (.int (0 : Int32))] []))
  refine own_Fin.step (fun _ => XS.iconst X0.here hx rfl (hb hby d3_88)) ?_
  show own_Fin p e below s _ _ _ (s₁.setTop (mkF m 89 #[.val (.ref a1), .val (.int (0 : Int32))] [(.int (0 : Int32))]))
  exact own_retI X0 hx hlk hret (hb hby d3_89) ⟨_, rfl, N0, e0, by decide, (show own_Max f 0 0 from ⟨by decide, (fun j hj => absurd hj (by omega)), own_un0⟩)⟩ (by decide) (by decide)
theorem pd_0 : parseMethodDescriptor "([BII)Z" = some ⟨[(.array .byte), .int, .int], some .boolean⟩ := by decide +kernel
set_option maxRecDepth 65536 in
set_option maxHeartbeats 40000000 in
theorem rm3b1 (l : Launch) (Z : State) (a0 : Array Value) (hw : ∀ d ∈ tables_1, d.before a0 Z = true) (a1 : Addr) (ka : ClassId) (n : Int32) (f : Nat → Int32) (h0 : Heap) (n0 : Nat) (Z0 : n0 ≤ h0.size) (F : own_Arf Z h0 a1 ka .byte n f) (Hn : ¬ n < (2 : Int32)) :
    own_Met l Z [] (⟨"com/example/needlewise/needlewise/KnuthMorrisPrattPartialMatchPinLaw", "border", "([BI)I"⟩ : MethodName) method_4_code 2 (some .int) ({ frames := 1, cells := 0, slots := 0, locals := 14 } : Room) #[(.ref a1), (.int (1 : Int32))] h0 (own_QB f 1 h0 n0) := by
  refine own_enter pn_3 ?_
  intro p e s m below meth c s₁ X0 hx hby hml hown hret hlk hnm hZ e0
  have hml : c.maxLocals = 2 := hml
  have N0 := Fr.nil n0
  rw [ef_3 m a1 (1 : Int32)]
  show own_Fin p e below s _ _ _ (s₁.setTop (mkF m 0 #[.val (.ref a1), .val (.int (1 : Int32))] []))
  refine own_Fin.step (fun _ => XS.iloadN X0.here hx rfl (hb hby d3_0) rfl) ?_
  show own_Fin p e below s _ _ _ (s₁.setTop (mkF m 1 #[.val (.ref a1), .val (.int (1 : Int32))] [(.int (1 : Int32))]))
  refine own_Fin.step (fun _ => XS.iconst X0.here hx rfl (hb hby d3_1)) ?_
  show own_Fin p e below s _ _ _ (s₁.setTop (mkF m 2 #[.val (.ref a1), .val (.int (1 : Int32))] [(.int (5 : Int32)), (.int (1 : Int32))]))
  refine own_Fin.step (fun _ => XS.icmpYes X0.here hx rfl (pc0 := 2) (pc' := 18) rfl (hb hby d3_2) rfl (XT.ii_lt_t (by decide : (1 : Int32) < (5 : Int32))) (by decide) (by decide)) ?_
  show own_Fin p e below s _ _ _ (s₁.setTop (mkF m 18 #[.val (.ref a1), .val (.int (1 : Int32))] []))
  refine own_Fin.step (fun _ => XS.iloadN X0.here hx rfl (hb hby d3_18) rfl) ?_
  show own_Fin p e below s _ _ _ (s₁.setTop (mkF m 19 #[.val (.ref a1), .val (.int (1 : Int32))] [(.int (1 : Int32))]))
  refine own_Fin.step (fun _ => XS.iconst X0.here hx rfl (hb hby d3_19)) ?_
  show own_Fin p e below s _ _ _ (s₁.setTop (mkF m 20 #[.val (.ref a1), .val (.int (1 : Int32))] [(.int (4 : Int32)), (.int (1 : Int32))]))
  refine own_Fin.step (fun _ => XS.icmpYes X0.here hx rfl (pc0 := 20) (pc' := 36) rfl (hb hby d3_20) rfl (XT.ii_lt_t (by decide : (1 : Int32) < (4 : Int32))) (by decide) (by decide)) ?_
  show own_Fin p e below s _ _ _ (s₁.setTop (mkF m 36 #[.val (.ref a1), .val (.int (1 : Int32))] []))
  refine own_Fin.step (fun _ => XS.iloadN X0.here hx rfl (hb hby d3_36) rfl) ?_
  show own_Fin p e below s _ _ _ (s₁.setTop (mkF m 37 #[.val (.ref a1), .val (.int (1 : Int32))] [(.int (1 : Int32))]))
  refine own_Fin.step (fun _ => XS.iconst X0.here hx rfl (hb hby d3_37)) ?_
  show own_Fin p e below s _ _ _ (s₁.setTop (mkF m 38 #[.val (.ref a1), .val (.int (1 : Int32))] [(.int (3 : Int32)), (.int (1 : Int32))]))
  refine own_Fin.step (fun _ => XS.icmpYes X0.here hx rfl (pc0 := 38) (pc' := 54) rfl (hb hby d3_38) rfl (XT.ii_lt_t (by decide : (1 : Int32) < (3 : Int32))) (by decide) (by decide)) ?_
  show own_Fin p e below s _ _ _ (s₁.setTop (mkF m 54 #[.val (.ref a1), .val (.int (1 : Int32))] []))
  refine own_Fin.step (fun _ => XS.iloadN X0.here hx rfl (hb hby d3_54) rfl) ?_
  show own_Fin p e below s _ _ _ (s₁.setTop (mkF m 55 #[.val (.ref a1), .val (.int (1 : Int32))] [(.int (1 : Int32))]))
  refine own_Fin.step (fun _ => XS.iconst X0.here hx rfl (hb hby d3_55)) ?_
  show own_Fin p e below s _ _ _ (s₁.setTop (mkF m 56 #[.val (.ref a1), .val (.int (1 : Int32))] [(.int (2 : Int32)), (.int (1 : Int32))]))
  refine own_Fin.step (fun _ => XS.icmpYes X0.here hx rfl (pc0 := 56) (pc' := 72) rfl (hb hby d3_56) rfl (XT.ii_lt_t (by decide : (1 : Int32) < (2 : Int32))) (by decide) (by decide)) ?_
  show own_Fin p e below s _ _ _ (s₁.setTop (mkF m 72 #[.val (.ref a1), .val (.int (1 : Int32))] []))
  refine own_Fin.step (fun _ => XS.iloadN X0.here hx rfl (hb hby d3_72) rfl) ?_
  show own_Fin p e below s _ _ _ (s₁.setTop (mkF m 73 #[.val (.ref a1), .val (.int (1 : Int32))] [(.int (1 : Int32))]))
  refine own_Fin.step (fun _ => XS.iconst X0.here hx rfl (hb hby d3_73)) ?_
  show own_Fin p e below s _ _ _ (s₁.setTop (mkF m 74 #[.val (.ref a1), .val (.int (1 : Int32))] [(.int (1 : Int32)), (.int (1 : Int32))]))
  refine own_Fin.step (fun _ => XS.icmpNo X0.here hx rfl (hb hby d3_74) rfl (XT.ii_lt_f (by decide : ¬ ((1 : Int32) < (1 : Int32))))) ?_
  show own_Fin p e below s _ _ _ (s₁.setTop (mkF m 77 #[.val (.ref a1), .val (.int (1 : Int32))] []))
  refine own_Fin.step (fun _ => XS.aloadN X0.here hx rfl (hb hby d3_77) rfl rfl) ?_
  show own_Fin p e below s _ _ _ (s₁.setTop (mkF m 78 #[.val (.ref a1), .val (.int (1 : Int32))] [(.ref a1)]))
  refine own_Fin.step (fun _ => XS.iloadN X0.here hx rfl (hb hby d3_78) rfl) ?_
  show own_Fin p e below s _ _ _ (s₁.setTop (mkF m 79 #[.val (.ref a1), .val (.int (1 : Int32))] [(.int (1 : Int32)), (.ref a1)]))
  refine own_Fin.step (fun _ => XS.iconst X0.here hx rfl (hb hby d3_79)) ?_
  show own_Fin p e below s _ _ _ (s₁.setTop (mkF m 80 #[.val (.ref a1), .val (.int (1 : Int32))] [(.int (1 : Int32)), (.int (1 : Int32)), (.ref a1)]))
  obtain ⟨_, T1, L1, X1, ⟨rfl, N1q, e1⟩, st1⟩ := own_callS X0 hx hZ hown (own_w hw 17 rfl) (own_w hw 18 rfl) (own_w hw 9 rfl) (own_w hw 19 rfl) (by decide) (rm2e1 l Z a0 hw a1 (1 : Int32) ka n f 1 h0 n0 Z0 F ⟨by decide, own_ltn (by decide) Hn⟩ ⟨by decide, own_ltn (by decide) Hn⟩ (by decide)) (by decide) (by decide) e0 (W := 0) (g := (mkF m 80 #[.val (.ref a1), .val (.int (1 : Int32))] [(.int (1 : Int32)), (.int (1 : Int32)), (.ref a1)])) rfl (by rw [hml]; rfl) (argsL := [(.ref a1), (.int (1 : Int32)), (.int (1 : Int32))]) (rest := []) (lenOf pd_0 rfl) rfl rfl (by show 2 * 0 + _ ≤ _; exact Nat.le_of_eq rfl) (hb hby d3_80) (by decide) (by decide)
  have N1 := Fr.app N0 N1q
  refine own_Fin.step st1 ?_
  show own_Fin p e below s _ _ _ (T1.setTop (mkF m 83 #[.val (.ref a1), .val (.int (1 : Int32))] [(.int (own_ind (own_Bd f 1 1)))]))
  by_cases hc83_2 : (own_ind (own_Bd f 1 1)) = (0 : Int32)
  ·
    refine own_Fin.step (fun _ => XS.ifYes X1.here hx rfl (pc0 := 83) (pc' := 88) rfl (hb hby d3_83) rfl (XT.i0_eq_t hc83_2) (by decide) (by decide)) ?_
    show own_Fin p e below s _ _ _ (T1.setTop (mkF m 88 #[.val (.ref a1), .val (.int (1 : Int32))] []))
    refine own_Fin.step (fun _ => XS.iconst X1.here hx rfl (hb hby d3_88)) ?_
    show own_Fin p e below s _ _ _ (T1.setTop (mkF m 89 #[.val (.ref a1), .val (.int (1 : Int32))] [(.int (0 : Int32))]))
    exact own_retI X1 hx hlk hret (hb hby d3_89) ⟨_, rfl, N1, e1, by decide, (show own_Max f 1 0 from ⟨by decide, (fun j hj => absurd hj (by omega)), (own_un own_un0 (own_no hc83_2))⟩)⟩ (by decide) (by decide)
  ·
    refine own_Fin.step (fun _ => XS.ifNo X1.here hx rfl (hb hby d3_83) rfl (XT.i0_eq_f hc83_2)) ?_
    show own_Fin p e below s _ _ _ (T1.setTop (mkF m 86 #[.val (.ref a1), .val (.int (1 : Int32))] []))
    refine own_Fin.step (fun _ => XS.iconst X1.here hx rfl (hb hby d3_86)) ?_
    show own_Fin p e below s _ _ _ (T1.setTop (mkF m 87 #[.val (.ref a1), .val (.int (1 : Int32))] [(.int (1 : Int32))]))
    exact own_retI X1 hx hlk hret (hb hby d3_87) ⟨_, rfl, N1, e1, by decide, (show own_Max f 1 1 from ⟨by decide, (own_yes hc83_2), own_un0⟩)⟩ (by decide) (by decide)
set_option maxRecDepth 65536 in
set_option maxHeartbeats 40000000 in
theorem rm3b2 (l : Launch) (Z : State) (a0 : Array Value) (hw : ∀ d ∈ tables_1, d.before a0 Z = true) (a1 : Addr) (ka : ClassId) (n : Int32) (f : Nat → Int32) (h0 : Heap) (n0 : Nat) (Z0 : n0 ≤ h0.size) (F : own_Arf Z h0 a1 ka .byte n f) (Hn : ¬ n < (3 : Int32)) :
    own_Met l Z [] (⟨"com/example/needlewise/needlewise/KnuthMorrisPrattPartialMatchPinLaw", "border", "([BI)I"⟩ : MethodName) method_4_code 2 (some .int) ({ frames := 1, cells := 0, slots := 0, locals := 14 } : Room) #[(.ref a1), (.int (2 : Int32))] h0 (own_QB f 2 h0 n0) := by
  refine own_enter pn_3 ?_
  intro p e s m below meth c s₁ X0 hx hby hml hown hret hlk hnm hZ e0
  have hml : c.maxLocals = 2 := hml
  have N0 := Fr.nil n0
  rw [ef_3 m a1 (2 : Int32)]
  show own_Fin p e below s _ _ _ (s₁.setTop (mkF m 0 #[.val (.ref a1), .val (.int (2 : Int32))] []))
  refine own_Fin.step (fun _ => XS.iloadN X0.here hx rfl (hb hby d3_0) rfl) ?_
  show own_Fin p e below s _ _ _ (s₁.setTop (mkF m 1 #[.val (.ref a1), .val (.int (2 : Int32))] [(.int (2 : Int32))]))
  refine own_Fin.step (fun _ => XS.iconst X0.here hx rfl (hb hby d3_1)) ?_
  show own_Fin p e below s _ _ _ (s₁.setTop (mkF m 2 #[.val (.ref a1), .val (.int (2 : Int32))] [(.int (5 : Int32)), (.int (2 : Int32))]))
  refine own_Fin.step (fun _ => XS.icmpYes X0.here hx rfl (pc0 := 2) (pc' := 18) rfl (hb hby d3_2) rfl (XT.ii_lt_t (by decide : (2 : Int32) < (5 : Int32))) (by decide) (by decide)) ?_
  show own_Fin p e below s _ _ _ (s₁.setTop (mkF m 18 #[.val (.ref a1), .val (.int (2 : Int32))] []))
  refine own_Fin.step (fun _ => XS.iloadN X0.here hx rfl (hb hby d3_18) rfl) ?_
  show own_Fin p e below s _ _ _ (s₁.setTop (mkF m 19 #[.val (.ref a1), .val (.int (2 : Int32))] [(.int (2 : Int32))]))
  refine own_Fin.step (fun _ => XS.iconst X0.here hx rfl (hb hby d3_19)) ?_
  show own_Fin p e below s _ _ _ (s₁.setTop (mkF m 20 #[.val (.ref a1), .val (.int (2 : Int32))] [(.int (4 : Int32)), (.int (2 : Int32))]))
  refine own_Fin.step (fun _ => XS.icmpYes X0.here hx rfl (pc0 := 20) (pc' := 36) rfl (hb hby d3_20) rfl (XT.ii_lt_t (by decide : (2 : Int32) < (4 : Int32))) (by decide) (by decide)) ?_
  show own_Fin p e below s _ _ _ (s₁.setTop (mkF m 36 #[.val (.ref a1), .val (.int (2 : Int32))] []))
  refine own_Fin.step (fun _ => XS.iloadN X0.here hx rfl (hb hby d3_36) rfl) ?_
  show own_Fin p e below s _ _ _ (s₁.setTop (mkF m 37 #[.val (.ref a1), .val (.int (2 : Int32))] [(.int (2 : Int32))]))
  refine own_Fin.step (fun _ => XS.iconst X0.here hx rfl (hb hby d3_37)) ?_
  show own_Fin p e below s _ _ _ (s₁.setTop (mkF m 38 #[.val (.ref a1), .val (.int (2 : Int32))] [(.int (3 : Int32)), (.int (2 : Int32))]))
  refine own_Fin.step (fun _ => XS.icmpYes X0.here hx rfl (pc0 := 38) (pc' := 54) rfl (hb hby d3_38) rfl (XT.ii_lt_t (by decide : (2 : Int32) < (3 : Int32))) (by decide) (by decide)) ?_
  show own_Fin p e below s _ _ _ (s₁.setTop (mkF m 54 #[.val (.ref a1), .val (.int (2 : Int32))] []))
  refine own_Fin.step (fun _ => XS.iloadN X0.here hx rfl (hb hby d3_54) rfl) ?_
  show own_Fin p e below s _ _ _ (s₁.setTop (mkF m 55 #[.val (.ref a1), .val (.int (2 : Int32))] [(.int (2 : Int32))]))
  refine own_Fin.step (fun _ => XS.iconst X0.here hx rfl (hb hby d3_55)) ?_
  show own_Fin p e below s _ _ _ (s₁.setTop (mkF m 56 #[.val (.ref a1), .val (.int (2 : Int32))] [(.int (2 : Int32)), (.int (2 : Int32))]))
  refine own_Fin.step (fun _ => XS.icmpNo X0.here hx rfl (hb hby d3_56) rfl (XT.ii_lt_f (by decide : ¬ ((2 : Int32) < (2 : Int32))))) ?_
  show own_Fin p e below s _ _ _ (s₁.setTop (mkF m 59 #[.val (.ref a1), .val (.int (2 : Int32))] []))
  refine own_Fin.step (fun _ => XS.aloadN X0.here hx rfl (hb hby d3_59) rfl rfl) ?_
  show own_Fin p e below s _ _ _ (s₁.setTop (mkF m 60 #[.val (.ref a1), .val (.int (2 : Int32))] [(.ref a1)]))
  refine own_Fin.step (fun _ => XS.iloadN X0.here hx rfl (hb hby d3_60) rfl) ?_
  show own_Fin p e below s _ _ _ (s₁.setTop (mkF m 61 #[.val (.ref a1), .val (.int (2 : Int32))] [(.int (2 : Int32)), (.ref a1)]))
  refine own_Fin.step (fun _ => XS.iconst X0.here hx rfl (hb hby d3_61)) ?_
  show own_Fin p e below s _ _ _ (s₁.setTop (mkF m 62 #[.val (.ref a1), .val (.int (2 : Int32))] [(.int (1 : Int32)), (.int (2 : Int32)), (.ref a1)]))
  refine own_Fin.step (fun _ => XS.isub X0.here hx rfl (hb hby d3_62) rfl) ?_
  show own_Fin p e below s _ _ _ (s₁.setTop (mkF m 63 #[.val (.ref a1), .val (.int (2 : Int32))] [(.int (1 : Int32)), (.ref a1)]))
  refine own_Fin.step (fun _ => XS.iconst X0.here hx rfl (hb hby d3_63)) ?_
  show own_Fin p e below s _ _ _ (s₁.setTop (mkF m 64 #[.val (.ref a1), .val (.int (2 : Int32))] [(.int (2 : Int32)), (.int (1 : Int32)), (.ref a1)]))
  obtain ⟨_, T1, L1, X1, ⟨rfl, N1q, e1⟩, st1⟩ := own_callS X0 hx hZ hown (own_w hw 17 rfl) (own_w hw 18 rfl) (own_w hw 9 rfl) (own_w hw 19 rfl) (by decide) (rm2e2 l Z a0 hw a1 (1 : Int32) ka n f 2 h0 n0 Z0 F ⟨by decide, own_ltn (by decide) Hn⟩ ⟨by decide, own_ltn (by decide) Hn⟩ (by decide) ⟨by decide, own_ltn (by decide) Hn⟩ ⟨by decide, own_ltn (by decide) Hn⟩ (by decide)) (by decide) (by decide) e0 (W := 0) (g := (mkF m 64 #[.val (.ref a1), .val (.int (2 : Int32))] [(.int (2 : Int32)), (.int (1 : Int32)), (.ref a1)])) rfl (by rw [hml]; rfl) (argsL := [(.ref a1), (.int (1 : Int32)), (.int (2 : Int32))]) (rest := []) (lenOf pd_0 rfl) rfl rfl (by show 2 * 0 + _ ≤ _; exact Nat.le_of_eq rfl) (hb hby d3_64) (by decide) (by decide)
  have N1 := Fr.app N0 N1q
  refine own_Fin.step st1 ?_
  show own_Fin p e below s _ _ _ (T1.setTop (mkF m 67 #[.val (.ref a1), .val (.int (2 : Int32))] [(.int (own_ind (own_Bd f 2 2)))]))
  by_cases hc67_2 : (own_ind (own_Bd f 2 2)) = (0 : Int32)
  ·
    refine own_Fin.step (fun _ => XS.ifYes X1.here hx rfl (pc0 := 67) (pc' := 72) rfl (hb hby d3_67) rfl (XT.i0_eq_t hc67_2) (by decide) (by decide)) ?_
    show own_Fin p e below s _ _ _ (T1.setTop (mkF m 72 #[.val (.ref a1), .val (.int (2 : Int32))] []))
    refine own_Fin.step (fun _ => XS.iloadN X1.here hx rfl (hb hby d3_72) rfl) ?_
    show own_Fin p e below s _ _ _ (T1.setTop (mkF m 73 #[.val (.ref a1), .val (.int (2 : Int32))] [(.int (2 : Int32))]))
    refine own_Fin.step (fun _ => XS.iconst X1.here hx rfl (hb hby d3_73)) ?_
    show own_Fin p e below s _ _ _ (T1.setTop (mkF m 74 #[.val (.ref a1), .val (.int (2 : Int32))] [(.int (1 : Int32)), (.int (2 : Int32))]))
    refine own_Fin.step (fun _ => XS.icmpNo X1.here hx rfl (hb hby d3_74) rfl (XT.ii_lt_f (by decide : ¬ ((2 : Int32) < (1 : Int32))))) ?_
    show own_Fin p e below s _ _ _ (T1.setTop (mkF m 77 #[.val (.ref a1), .val (.int (2 : Int32))] []))
    refine own_Fin.step (fun _ => XS.aloadN X1.here hx rfl (hb hby d3_77) rfl rfl) ?_
    show own_Fin p e below s _ _ _ (T1.setTop (mkF m 78 #[.val (.ref a1), .val (.int (2 : Int32))] [(.ref a1)]))
    refine own_Fin.step (fun _ => XS.iloadN X1.here hx rfl (hb hby d3_78) rfl) ?_
    show own_Fin p e below s _ _ _ (T1.setTop (mkF m 79 #[.val (.ref a1), .val (.int (2 : Int32))] [(.int (2 : Int32)), (.ref a1)]))
    refine own_Fin.step (fun _ => XS.iconst X1.here hx rfl (hb hby d3_79)) ?_
    show own_Fin p e below s _ _ _ (T1.setTop (mkF m 80 #[.val (.ref a1), .val (.int (2 : Int32))] [(.int (1 : Int32)), (.int (2 : Int32)), (.ref a1)]))
    obtain ⟨_, T3, L3, X3, ⟨rfl, N3q, e3⟩, st3⟩ := own_callS X1 hx hZ hown (own_w hw 17 rfl) (own_w hw 18 rfl) (own_w hw 9 rfl) (own_w hw 19 rfl) (by decide) (rm2e1 l Z a0 hw a1 (2 : Int32) ka n f 2 h0 n0 Z0 F ⟨by decide, own_ltn (by decide) Hn⟩ ⟨by decide, own_ltn (by decide) Hn⟩ (by decide)) (by decide) (by decide) e1 (W := 0) (g := (mkF m 80 #[.val (.ref a1), .val (.int (2 : Int32))] [(.int (1 : Int32)), (.int (2 : Int32)), (.ref a1)])) rfl (by rw [hml]; rfl) (argsL := [(.ref a1), (.int (2 : Int32)), (.int (1 : Int32))]) (rest := []) (lenOf pd_0 rfl) rfl rfl (by show 2 * 0 + _ ≤ _; exact Nat.le_of_eq rfl) (hb hby d3_80) (by decide) (by decide)
    have N3 := Fr.app N1 N3q
    refine own_Fin.step st3 ?_
    show own_Fin p e below s _ _ _ (T3.setTop (mkF m 83 #[.val (.ref a1), .val (.int (2 : Int32))] [(.int (own_ind (own_Bd f 2 1)))]))
    by_cases hc83_4 : (own_ind (own_Bd f 2 1)) = (0 : Int32)
    ·
      refine own_Fin.step (fun _ => XS.ifYes X3.here hx rfl (pc0 := 83) (pc' := 88) rfl (hb hby d3_83) rfl (XT.i0_eq_t hc83_4) (by decide) (by decide)) ?_
      show own_Fin p e below s _ _ _ (T3.setTop (mkF m 88 #[.val (.ref a1), .val (.int (2 : Int32))] []))
      refine own_Fin.step (fun _ => XS.iconst X3.here hx rfl (hb hby d3_88)) ?_
      show own_Fin p e below s _ _ _ (T3.setTop (mkF m 89 #[.val (.ref a1), .val (.int (2 : Int32))] [(.int (0 : Int32))]))
      exact own_retI X3 hx hlk hret (hb hby d3_89) ⟨_, rfl, N3, e3, by decide, (show own_Max f 2 0 from ⟨by decide, (fun j hj => absurd hj (by omega)), (own_un (own_un own_un0 (own_no hc67_2)) (own_no hc83_4))⟩)⟩ (by decide) (by decide)
    ·
      refine own_Fin.step (fun _ => XS.ifNo X3.here hx rfl (hb hby d3_83) rfl (XT.i0_eq_f hc83_4)) ?_
      show own_Fin p e below s _ _ _ (T3.setTop (mkF m 86 #[.val (.ref a1), .val (.int (2 : Int32))] []))
      refine own_Fin.step (fun _ => XS.iconst X3.here hx rfl (hb hby d3_86)) ?_
      show own_Fin p e below s _ _ _ (T3.setTop (mkF m 87 #[.val (.ref a1), .val (.int (2 : Int32))] [(.int (1 : Int32))]))
      exact own_retI X3 hx hlk hret (hb hby d3_87) ⟨_, rfl, N3, e3, by decide, (show own_Max f 2 1 from ⟨by decide, (own_yes hc83_4), (own_un own_un0 (own_no hc67_2))⟩)⟩ (by decide) (by decide)
  ·
    refine own_Fin.step (fun _ => XS.ifNo X1.here hx rfl (hb hby d3_67) rfl (XT.i0_eq_f hc67_2)) ?_
    show own_Fin p e below s _ _ _ (T1.setTop (mkF m 70 #[.val (.ref a1), .val (.int (2 : Int32))] []))
    refine own_Fin.step (fun _ => XS.iconst X1.here hx rfl (hb hby d3_70)) ?_
    show own_Fin p e below s _ _ _ (T1.setTop (mkF m 71 #[.val (.ref a1), .val (.int (2 : Int32))] [(.int (2 : Int32))]))
    exact own_retI X1 hx hlk hret (hb hby d3_71) ⟨_, rfl, N1, e1, by decide, (show own_Max f 2 2 from ⟨by decide, (own_yes hc67_2), own_un0⟩)⟩ (by decide) (by decide)
set_option maxRecDepth 65536 in
set_option maxHeartbeats 40000000 in
theorem rm3b3 (l : Launch) (Z : State) (a0 : Array Value) (hw : ∀ d ∈ tables_1, d.before a0 Z = true) (a1 : Addr) (ka : ClassId) (n : Int32) (f : Nat → Int32) (h0 : Heap) (n0 : Nat) (Z0 : n0 ≤ h0.size) (F : own_Arf Z h0 a1 ka .byte n f) (Hn : ¬ n < (4 : Int32)) :
    own_Met l Z [] (⟨"com/example/needlewise/needlewise/KnuthMorrisPrattPartialMatchPinLaw", "border", "([BI)I"⟩ : MethodName) method_4_code 2 (some .int) ({ frames := 1, cells := 0, slots := 0, locals := 14 } : Room) #[(.ref a1), (.int (3 : Int32))] h0 (own_QB f 3 h0 n0) := by
  refine own_enter pn_3 ?_
  intro p e s m below meth c s₁ X0 hx hby hml hown hret hlk hnm hZ e0
  have hml : c.maxLocals = 2 := hml
  have N0 := Fr.nil n0
  rw [ef_3 m a1 (3 : Int32)]
  show own_Fin p e below s _ _ _ (s₁.setTop (mkF m 0 #[.val (.ref a1), .val (.int (3 : Int32))] []))
  refine own_Fin.step (fun _ => XS.iloadN X0.here hx rfl (hb hby d3_0) rfl) ?_
  show own_Fin p e below s _ _ _ (s₁.setTop (mkF m 1 #[.val (.ref a1), .val (.int (3 : Int32))] [(.int (3 : Int32))]))
  refine own_Fin.step (fun _ => XS.iconst X0.here hx rfl (hb hby d3_1)) ?_
  show own_Fin p e below s _ _ _ (s₁.setTop (mkF m 2 #[.val (.ref a1), .val (.int (3 : Int32))] [(.int (5 : Int32)), (.int (3 : Int32))]))
  refine own_Fin.step (fun _ => XS.icmpYes X0.here hx rfl (pc0 := 2) (pc' := 18) rfl (hb hby d3_2) rfl (XT.ii_lt_t (by decide : (3 : Int32) < (5 : Int32))) (by decide) (by decide)) ?_
  show own_Fin p e below s _ _ _ (s₁.setTop (mkF m 18 #[.val (.ref a1), .val (.int (3 : Int32))] []))
  refine own_Fin.step (fun _ => XS.iloadN X0.here hx rfl (hb hby d3_18) rfl) ?_
  show own_Fin p e below s _ _ _ (s₁.setTop (mkF m 19 #[.val (.ref a1), .val (.int (3 : Int32))] [(.int (3 : Int32))]))
  refine own_Fin.step (fun _ => XS.iconst X0.here hx rfl (hb hby d3_19)) ?_
  show own_Fin p e below s _ _ _ (s₁.setTop (mkF m 20 #[.val (.ref a1), .val (.int (3 : Int32))] [(.int (4 : Int32)), (.int (3 : Int32))]))
  refine own_Fin.step (fun _ => XS.icmpYes X0.here hx rfl (pc0 := 20) (pc' := 36) rfl (hb hby d3_20) rfl (XT.ii_lt_t (by decide : (3 : Int32) < (4 : Int32))) (by decide) (by decide)) ?_
  show own_Fin p e below s _ _ _ (s₁.setTop (mkF m 36 #[.val (.ref a1), .val (.int (3 : Int32))] []))
  refine own_Fin.step (fun _ => XS.iloadN X0.here hx rfl (hb hby d3_36) rfl) ?_
  show own_Fin p e below s _ _ _ (s₁.setTop (mkF m 37 #[.val (.ref a1), .val (.int (3 : Int32))] [(.int (3 : Int32))]))
  refine own_Fin.step (fun _ => XS.iconst X0.here hx rfl (hb hby d3_37)) ?_
  show own_Fin p e below s _ _ _ (s₁.setTop (mkF m 38 #[.val (.ref a1), .val (.int (3 : Int32))] [(.int (3 : Int32)), (.int (3 : Int32))]))
  refine own_Fin.step (fun _ => XS.icmpNo X0.here hx rfl (hb hby d3_38) rfl (XT.ii_lt_f (by decide : ¬ ((3 : Int32) < (3 : Int32))))) ?_
  show own_Fin p e below s _ _ _ (s₁.setTop (mkF m 41 #[.val (.ref a1), .val (.int (3 : Int32))] []))
  refine own_Fin.step (fun _ => XS.aloadN X0.here hx rfl (hb hby d3_41) rfl rfl) ?_
  show own_Fin p e below s _ _ _ (s₁.setTop (mkF m 42 #[.val (.ref a1), .val (.int (3 : Int32))] [(.ref a1)]))
  refine own_Fin.step (fun _ => XS.iloadN X0.here hx rfl (hb hby d3_42) rfl) ?_
  show own_Fin p e below s _ _ _ (s₁.setTop (mkF m 43 #[.val (.ref a1), .val (.int (3 : Int32))] [(.int (3 : Int32)), (.ref a1)]))
  refine own_Fin.step (fun _ => XS.iconst X0.here hx rfl (hb hby d3_43)) ?_
  show own_Fin p e below s _ _ _ (s₁.setTop (mkF m 44 #[.val (.ref a1), .val (.int (3 : Int32))] [(.int (2 : Int32)), (.int (3 : Int32)), (.ref a1)]))
  refine own_Fin.step (fun _ => XS.isub X0.here hx rfl (hb hby d3_44) rfl) ?_
  show own_Fin p e below s _ _ _ (s₁.setTop (mkF m 45 #[.val (.ref a1), .val (.int (3 : Int32))] [(.int (1 : Int32)), (.ref a1)]))
  refine own_Fin.step (fun _ => XS.iconst X0.here hx rfl (hb hby d3_45)) ?_
  show own_Fin p e below s _ _ _ (s₁.setTop (mkF m 46 #[.val (.ref a1), .val (.int (3 : Int32))] [(.int (3 : Int32)), (.int (1 : Int32)), (.ref a1)]))
  obtain ⟨_, T1, L1, X1, ⟨rfl, N1q, e1⟩, st1⟩ := own_callS X0 hx hZ hown (own_w hw 17 rfl) (own_w hw 18 rfl) (own_w hw 9 rfl) (own_w hw 19 rfl) (by decide) (rm2e3 l Z a0 hw a1 (1 : Int32) ka n f 3 h0 n0 Z0 F ⟨by decide, own_ltn (by decide) Hn⟩ ⟨by decide, own_ltn (by decide) Hn⟩ (by decide) ⟨by decide, own_ltn (by decide) Hn⟩ ⟨by decide, own_ltn (by decide) Hn⟩ (by decide) ⟨by decide, own_ltn (by decide) Hn⟩ ⟨by decide, own_ltn (by decide) Hn⟩ (by decide)) (by decide) (by decide) e0 (W := 0) (g := (mkF m 46 #[.val (.ref a1), .val (.int (3 : Int32))] [(.int (3 : Int32)), (.int (1 : Int32)), (.ref a1)])) rfl (by rw [hml]; rfl) (argsL := [(.ref a1), (.int (1 : Int32)), (.int (3 : Int32))]) (rest := []) (lenOf pd_0 rfl) rfl rfl (by show 2 * 0 + _ ≤ _; exact Nat.le_of_eq rfl) (hb hby d3_46) (by decide) (by decide)
  have N1 := Fr.app N0 N1q
  refine own_Fin.step st1 ?_
  show own_Fin p e below s _ _ _ (T1.setTop (mkF m 49 #[.val (.ref a1), .val (.int (3 : Int32))] [(.int (own_ind (own_Bd f 3 3)))]))
  by_cases hc49_2 : (own_ind (own_Bd f 3 3)) = (0 : Int32)
  ·
    refine own_Fin.step (fun _ => XS.ifYes X1.here hx rfl (pc0 := 49) (pc' := 54) rfl (hb hby d3_49) rfl (XT.i0_eq_t hc49_2) (by decide) (by decide)) ?_
    show own_Fin p e below s _ _ _ (T1.setTop (mkF m 54 #[.val (.ref a1), .val (.int (3 : Int32))] []))
    refine own_Fin.step (fun _ => XS.iloadN X1.here hx rfl (hb hby d3_54) rfl) ?_
    show own_Fin p e below s _ _ _ (T1.setTop (mkF m 55 #[.val (.ref a1), .val (.int (3 : Int32))] [(.int (3 : Int32))]))
    refine own_Fin.step (fun _ => XS.iconst X1.here hx rfl (hb hby d3_55)) ?_
    show own_Fin p e below s _ _ _ (T1.setTop (mkF m 56 #[.val (.ref a1), .val (.int (3 : Int32))] [(.int (2 : Int32)), (.int (3 : Int32))]))
    refine own_Fin.step (fun _ => XS.icmpNo X1.here hx rfl (hb hby d3_56) rfl (XT.ii_lt_f (by decide : ¬ ((3 : Int32) < (2 : Int32))))) ?_
    show own_Fin p e below s _ _ _ (T1.setTop (mkF m 59 #[.val (.ref a1), .val (.int (3 : Int32))] []))
    refine own_Fin.step (fun _ => XS.aloadN X1.here hx rfl (hb hby d3_59) rfl rfl) ?_
    show own_Fin p e below s _ _ _ (T1.setTop (mkF m 60 #[.val (.ref a1), .val (.int (3 : Int32))] [(.ref a1)]))
    refine own_Fin.step (fun _ => XS.iloadN X1.here hx rfl (hb hby d3_60) rfl) ?_
    show own_Fin p e below s _ _ _ (T1.setTop (mkF m 61 #[.val (.ref a1), .val (.int (3 : Int32))] [(.int (3 : Int32)), (.ref a1)]))
    refine own_Fin.step (fun _ => XS.iconst X1.here hx rfl (hb hby d3_61)) ?_
    show own_Fin p e below s _ _ _ (T1.setTop (mkF m 62 #[.val (.ref a1), .val (.int (3 : Int32))] [(.int (1 : Int32)), (.int (3 : Int32)), (.ref a1)]))
    refine own_Fin.step (fun _ => XS.isub X1.here hx rfl (hb hby d3_62) rfl) ?_
    show own_Fin p e below s _ _ _ (T1.setTop (mkF m 63 #[.val (.ref a1), .val (.int (3 : Int32))] [(.int (2 : Int32)), (.ref a1)]))
    refine own_Fin.step (fun _ => XS.iconst X1.here hx rfl (hb hby d3_63)) ?_
    show own_Fin p e below s _ _ _ (T1.setTop (mkF m 64 #[.val (.ref a1), .val (.int (3 : Int32))] [(.int (2 : Int32)), (.int (2 : Int32)), (.ref a1)]))
    obtain ⟨_, T3, L3, X3, ⟨rfl, N3q, e3⟩, st3⟩ := own_callS X1 hx hZ hown (own_w hw 17 rfl) (own_w hw 18 rfl) (own_w hw 9 rfl) (own_w hw 19 rfl) (by decide) (rm2e2 l Z a0 hw a1 (2 : Int32) ka n f 3 h0 n0 Z0 F ⟨by decide, own_ltn (by decide) Hn⟩ ⟨by decide, own_ltn (by decide) Hn⟩ (by decide) ⟨by decide, own_ltn (by decide) Hn⟩ ⟨by decide, own_ltn (by decide) Hn⟩ (by decide)) (by decide) (by decide) e1 (W := 0) (g := (mkF m 64 #[.val (.ref a1), .val (.int (3 : Int32))] [(.int (2 : Int32)), (.int (2 : Int32)), (.ref a1)])) rfl (by rw [hml]; rfl) (argsL := [(.ref a1), (.int (2 : Int32)), (.int (2 : Int32))]) (rest := []) (lenOf pd_0 rfl) rfl rfl (by show 2 * 0 + _ ≤ _; exact Nat.le_of_eq rfl) (hb hby d3_64) (by decide) (by decide)
    have N3 := Fr.app N1 N3q
    refine own_Fin.step st3 ?_
    show own_Fin p e below s _ _ _ (T3.setTop (mkF m 67 #[.val (.ref a1), .val (.int (3 : Int32))] [(.int (own_ind (own_Bd f 3 2)))]))
    by_cases hc67_4 : (own_ind (own_Bd f 3 2)) = (0 : Int32)
    ·
      refine own_Fin.step (fun _ => XS.ifYes X3.here hx rfl (pc0 := 67) (pc' := 72) rfl (hb hby d3_67) rfl (XT.i0_eq_t hc67_4) (by decide) (by decide)) ?_
      show own_Fin p e below s _ _ _ (T3.setTop (mkF m 72 #[.val (.ref a1), .val (.int (3 : Int32))] []))
      refine own_Fin.step (fun _ => XS.iloadN X3.here hx rfl (hb hby d3_72) rfl) ?_
      show own_Fin p e below s _ _ _ (T3.setTop (mkF m 73 #[.val (.ref a1), .val (.int (3 : Int32))] [(.int (3 : Int32))]))
      refine own_Fin.step (fun _ => XS.iconst X3.here hx rfl (hb hby d3_73)) ?_
      show own_Fin p e below s _ _ _ (T3.setTop (mkF m 74 #[.val (.ref a1), .val (.int (3 : Int32))] [(.int (1 : Int32)), (.int (3 : Int32))]))
      refine own_Fin.step (fun _ => XS.icmpNo X3.here hx rfl (hb hby d3_74) rfl (XT.ii_lt_f (by decide : ¬ ((3 : Int32) < (1 : Int32))))) ?_
      show own_Fin p e below s _ _ _ (T3.setTop (mkF m 77 #[.val (.ref a1), .val (.int (3 : Int32))] []))
      refine own_Fin.step (fun _ => XS.aloadN X3.here hx rfl (hb hby d3_77) rfl rfl) ?_
      show own_Fin p e below s _ _ _ (T3.setTop (mkF m 78 #[.val (.ref a1), .val (.int (3 : Int32))] [(.ref a1)]))
      refine own_Fin.step (fun _ => XS.iloadN X3.here hx rfl (hb hby d3_78) rfl) ?_
      show own_Fin p e below s _ _ _ (T3.setTop (mkF m 79 #[.val (.ref a1), .val (.int (3 : Int32))] [(.int (3 : Int32)), (.ref a1)]))
      refine own_Fin.step (fun _ => XS.iconst X3.here hx rfl (hb hby d3_79)) ?_
      show own_Fin p e below s _ _ _ (T3.setTop (mkF m 80 #[.val (.ref a1), .val (.int (3 : Int32))] [(.int (1 : Int32)), (.int (3 : Int32)), (.ref a1)]))
      obtain ⟨_, T5, L5, X5, ⟨rfl, N5q, e5⟩, st5⟩ := own_callS X3 hx hZ hown (own_w hw 17 rfl) (own_w hw 18 rfl) (own_w hw 9 rfl) (own_w hw 19 rfl) (by decide) (rm2e1 l Z a0 hw a1 (3 : Int32) ka n f 3 h0 n0 Z0 F ⟨by decide, own_ltn (by decide) Hn⟩ ⟨by decide, own_ltn (by decide) Hn⟩ (by decide)) (by decide) (by decide) e3 (W := 0) (g := (mkF m 80 #[.val (.ref a1), .val (.int (3 : Int32))] [(.int (1 : Int32)), (.int (3 : Int32)), (.ref a1)])) rfl (by rw [hml]; rfl) (argsL := [(.ref a1), (.int (3 : Int32)), (.int (1 : Int32))]) (rest := []) (lenOf pd_0 rfl) rfl rfl (by show 2 * 0 + _ ≤ _; exact Nat.le_of_eq rfl) (hb hby d3_80) (by decide) (by decide)
      have N5 := Fr.app N3 N5q
      refine own_Fin.step st5 ?_
      show own_Fin p e below s _ _ _ (T5.setTop (mkF m 83 #[.val (.ref a1), .val (.int (3 : Int32))] [(.int (own_ind (own_Bd f 3 1)))]))
      by_cases hc83_6 : (own_ind (own_Bd f 3 1)) = (0 : Int32)
      ·
        refine own_Fin.step (fun _ => XS.ifYes X5.here hx rfl (pc0 := 83) (pc' := 88) rfl (hb hby d3_83) rfl (XT.i0_eq_t hc83_6) (by decide) (by decide)) ?_
        show own_Fin p e below s _ _ _ (T5.setTop (mkF m 88 #[.val (.ref a1), .val (.int (3 : Int32))] []))
        refine own_Fin.step (fun _ => XS.iconst X5.here hx rfl (hb hby d3_88)) ?_
        show own_Fin p e below s _ _ _ (T5.setTop (mkF m 89 #[.val (.ref a1), .val (.int (3 : Int32))] [(.int (0 : Int32))]))
        exact own_retI X5 hx hlk hret (hb hby d3_89) ⟨_, rfl, N5, e5, by decide, (show own_Max f 3 0 from ⟨by decide, (fun j hj => absurd hj (by omega)), (own_un (own_un (own_un own_un0 (own_no hc49_2)) (own_no hc67_4)) (own_no hc83_6))⟩)⟩ (by decide) (by decide)
      ·
        refine own_Fin.step (fun _ => XS.ifNo X5.here hx rfl (hb hby d3_83) rfl (XT.i0_eq_f hc83_6)) ?_
        show own_Fin p e below s _ _ _ (T5.setTop (mkF m 86 #[.val (.ref a1), .val (.int (3 : Int32))] []))
        refine own_Fin.step (fun _ => XS.iconst X5.here hx rfl (hb hby d3_86)) ?_
        show own_Fin p e below s _ _ _ (T5.setTop (mkF m 87 #[.val (.ref a1), .val (.int (3 : Int32))] [(.int (1 : Int32))]))
        exact own_retI X5 hx hlk hret (hb hby d3_87) ⟨_, rfl, N5, e5, by decide, (show own_Max f 3 1 from ⟨by decide, (own_yes hc83_6), (own_un (own_un own_un0 (own_no hc49_2)) (own_no hc67_4))⟩)⟩ (by decide) (by decide)
    ·
      refine own_Fin.step (fun _ => XS.ifNo X3.here hx rfl (hb hby d3_67) rfl (XT.i0_eq_f hc67_4)) ?_
      show own_Fin p e below s _ _ _ (T3.setTop (mkF m 70 #[.val (.ref a1), .val (.int (3 : Int32))] []))
      refine own_Fin.step (fun _ => XS.iconst X3.here hx rfl (hb hby d3_70)) ?_
      show own_Fin p e below s _ _ _ (T3.setTop (mkF m 71 #[.val (.ref a1), .val (.int (3 : Int32))] [(.int (2 : Int32))]))
      exact own_retI X3 hx hlk hret (hb hby d3_71) ⟨_, rfl, N3, e3, by decide, (show own_Max f 3 2 from ⟨by decide, (own_yes hc67_4), (own_un own_un0 (own_no hc49_2))⟩)⟩ (by decide) (by decide)
  ·
    refine own_Fin.step (fun _ => XS.ifNo X1.here hx rfl (hb hby d3_49) rfl (XT.i0_eq_f hc49_2)) ?_
    show own_Fin p e below s _ _ _ (T1.setTop (mkF m 52 #[.val (.ref a1), .val (.int (3 : Int32))] []))
    refine own_Fin.step (fun _ => XS.iconst X1.here hx rfl (hb hby d3_52)) ?_
    show own_Fin p e below s _ _ _ (T1.setTop (mkF m 53 #[.val (.ref a1), .val (.int (3 : Int32))] [(.int (3 : Int32))]))
    exact own_retI X1 hx hlk hret (hb hby d3_53) ⟨_, rfl, N1, e1, by decide, (show own_Max f 3 3 from ⟨by decide, (own_yes hc49_2), own_un0⟩)⟩ (by decide) (by decide)
set_option maxRecDepth 65536 in
set_option maxHeartbeats 40000000 in
theorem rm3b4 (l : Launch) (Z : State) (a0 : Array Value) (hw : ∀ d ∈ tables_1, d.before a0 Z = true) (a1 : Addr) (ka : ClassId) (n : Int32) (f : Nat → Int32) (h0 : Heap) (n0 : Nat) (Z0 : n0 ≤ h0.size) (F : own_Arf Z h0 a1 ka .byte n f) (Hn : ¬ n < (5 : Int32)) :
    own_Met l Z [] (⟨"com/example/needlewise/needlewise/KnuthMorrisPrattPartialMatchPinLaw", "border", "([BI)I"⟩ : MethodName) method_4_code 2 (some .int) ({ frames := 1, cells := 0, slots := 0, locals := 14 } : Room) #[(.ref a1), (.int (4 : Int32))] h0 (own_QB f 4 h0 n0) := by
  refine own_enter pn_3 ?_
  intro p e s m below meth c s₁ X0 hx hby hml hown hret hlk hnm hZ e0
  have hml : c.maxLocals = 2 := hml
  have N0 := Fr.nil n0
  rw [ef_3 m a1 (4 : Int32)]
  show own_Fin p e below s _ _ _ (s₁.setTop (mkF m 0 #[.val (.ref a1), .val (.int (4 : Int32))] []))
  refine own_Fin.step (fun _ => XS.iloadN X0.here hx rfl (hb hby d3_0) rfl) ?_
  show own_Fin p e below s _ _ _ (s₁.setTop (mkF m 1 #[.val (.ref a1), .val (.int (4 : Int32))] [(.int (4 : Int32))]))
  refine own_Fin.step (fun _ => XS.iconst X0.here hx rfl (hb hby d3_1)) ?_
  show own_Fin p e below s _ _ _ (s₁.setTop (mkF m 2 #[.val (.ref a1), .val (.int (4 : Int32))] [(.int (5 : Int32)), (.int (4 : Int32))]))
  refine own_Fin.step (fun _ => XS.icmpYes X0.here hx rfl (pc0 := 2) (pc' := 18) rfl (hb hby d3_2) rfl (XT.ii_lt_t (by decide : (4 : Int32) < (5 : Int32))) (by decide) (by decide)) ?_
  show own_Fin p e below s _ _ _ (s₁.setTop (mkF m 18 #[.val (.ref a1), .val (.int (4 : Int32))] []))
  refine own_Fin.step (fun _ => XS.iloadN X0.here hx rfl (hb hby d3_18) rfl) ?_
  show own_Fin p e below s _ _ _ (s₁.setTop (mkF m 19 #[.val (.ref a1), .val (.int (4 : Int32))] [(.int (4 : Int32))]))
  refine own_Fin.step (fun _ => XS.iconst X0.here hx rfl (hb hby d3_19)) ?_
  show own_Fin p e below s _ _ _ (s₁.setTop (mkF m 20 #[.val (.ref a1), .val (.int (4 : Int32))] [(.int (4 : Int32)), (.int (4 : Int32))]))
  refine own_Fin.step (fun _ => XS.icmpNo X0.here hx rfl (hb hby d3_20) rfl (XT.ii_lt_f (by decide : ¬ ((4 : Int32) < (4 : Int32))))) ?_
  show own_Fin p e below s _ _ _ (s₁.setTop (mkF m 23 #[.val (.ref a1), .val (.int (4 : Int32))] []))
  refine own_Fin.step (fun _ => XS.aloadN X0.here hx rfl (hb hby d3_23) rfl rfl) ?_
  show own_Fin p e below s _ _ _ (s₁.setTop (mkF m 24 #[.val (.ref a1), .val (.int (4 : Int32))] [(.ref a1)]))
  refine own_Fin.step (fun _ => XS.iloadN X0.here hx rfl (hb hby d3_24) rfl) ?_
  show own_Fin p e below s _ _ _ (s₁.setTop (mkF m 25 #[.val (.ref a1), .val (.int (4 : Int32))] [(.int (4 : Int32)), (.ref a1)]))
  refine own_Fin.step (fun _ => XS.iconst X0.here hx rfl (hb hby d3_25)) ?_
  show own_Fin p e below s _ _ _ (s₁.setTop (mkF m 26 #[.val (.ref a1), .val (.int (4 : Int32))] [(.int (3 : Int32)), (.int (4 : Int32)), (.ref a1)]))
  refine own_Fin.step (fun _ => XS.isub X0.here hx rfl (hb hby d3_26) rfl) ?_
  show own_Fin p e below s _ _ _ (s₁.setTop (mkF m 27 #[.val (.ref a1), .val (.int (4 : Int32))] [(.int (1 : Int32)), (.ref a1)]))
  refine own_Fin.step (fun _ => XS.iconst X0.here hx rfl (hb hby d3_27)) ?_
  show own_Fin p e below s _ _ _ (s₁.setTop (mkF m 28 #[.val (.ref a1), .val (.int (4 : Int32))] [(.int (4 : Int32)), (.int (1 : Int32)), (.ref a1)]))
  obtain ⟨_, T1, L1, X1, ⟨rfl, N1q, e1⟩, st1⟩ := own_callS X0 hx hZ hown (own_w hw 17 rfl) (own_w hw 18 rfl) (own_w hw 9 rfl) (own_w hw 19 rfl) (by decide) (rm2e4 l Z a0 hw a1 (1 : Int32) ka n f 4 h0 n0 Z0 F ⟨by decide, own_ltn (by decide) Hn⟩ ⟨by decide, own_ltn (by decide) Hn⟩ (by decide) ⟨by decide, own_ltn (by decide) Hn⟩ ⟨by decide, own_ltn (by decide) Hn⟩ (by decide) ⟨by decide, own_ltn (by decide) Hn⟩ ⟨by decide, own_ltn (by decide) Hn⟩ (by decide) ⟨by decide, own_ltn (by decide) Hn⟩ ⟨by decide, own_ltn (by decide) Hn⟩ (by decide)) (by decide) (by decide) e0 (W := 0) (g := (mkF m 28 #[.val (.ref a1), .val (.int (4 : Int32))] [(.int (4 : Int32)), (.int (1 : Int32)), (.ref a1)])) rfl (by rw [hml]; rfl) (argsL := [(.ref a1), (.int (1 : Int32)), (.int (4 : Int32))]) (rest := []) (lenOf pd_0 rfl) rfl rfl (by show 2 * 0 + _ ≤ _; exact Nat.le_of_eq rfl) (hb hby d3_28) (by decide) (by decide)
  have N1 := Fr.app N0 N1q
  refine own_Fin.step st1 ?_
  show own_Fin p e below s _ _ _ (T1.setTop (mkF m 31 #[.val (.ref a1), .val (.int (4 : Int32))] [(.int (own_ind (own_Bd f 4 4)))]))
  by_cases hc31_2 : (own_ind (own_Bd f 4 4)) = (0 : Int32)
  ·
    refine own_Fin.step (fun _ => XS.ifYes X1.here hx rfl (pc0 := 31) (pc' := 36) rfl (hb hby d3_31) rfl (XT.i0_eq_t hc31_2) (by decide) (by decide)) ?_
    show own_Fin p e below s _ _ _ (T1.setTop (mkF m 36 #[.val (.ref a1), .val (.int (4 : Int32))] []))
    refine own_Fin.step (fun _ => XS.iloadN X1.here hx rfl (hb hby d3_36) rfl) ?_
    show own_Fin p e below s _ _ _ (T1.setTop (mkF m 37 #[.val (.ref a1), .val (.int (4 : Int32))] [(.int (4 : Int32))]))
    refine own_Fin.step (fun _ => XS.iconst X1.here hx rfl (hb hby d3_37)) ?_
    show own_Fin p e below s _ _ _ (T1.setTop (mkF m 38 #[.val (.ref a1), .val (.int (4 : Int32))] [(.int (3 : Int32)), (.int (4 : Int32))]))
    refine own_Fin.step (fun _ => XS.icmpNo X1.here hx rfl (hb hby d3_38) rfl (XT.ii_lt_f (by decide : ¬ ((4 : Int32) < (3 : Int32))))) ?_
    show own_Fin p e below s _ _ _ (T1.setTop (mkF m 41 #[.val (.ref a1), .val (.int (4 : Int32))] []))
    refine own_Fin.step (fun _ => XS.aloadN X1.here hx rfl (hb hby d3_41) rfl rfl) ?_
    show own_Fin p e below s _ _ _ (T1.setTop (mkF m 42 #[.val (.ref a1), .val (.int (4 : Int32))] [(.ref a1)]))
    refine own_Fin.step (fun _ => XS.iloadN X1.here hx rfl (hb hby d3_42) rfl) ?_
    show own_Fin p e below s _ _ _ (T1.setTop (mkF m 43 #[.val (.ref a1), .val (.int (4 : Int32))] [(.int (4 : Int32)), (.ref a1)]))
    refine own_Fin.step (fun _ => XS.iconst X1.here hx rfl (hb hby d3_43)) ?_
    show own_Fin p e below s _ _ _ (T1.setTop (mkF m 44 #[.val (.ref a1), .val (.int (4 : Int32))] [(.int (2 : Int32)), (.int (4 : Int32)), (.ref a1)]))
    refine own_Fin.step (fun _ => XS.isub X1.here hx rfl (hb hby d3_44) rfl) ?_
    show own_Fin p e below s _ _ _ (T1.setTop (mkF m 45 #[.val (.ref a1), .val (.int (4 : Int32))] [(.int (2 : Int32)), (.ref a1)]))
    refine own_Fin.step (fun _ => XS.iconst X1.here hx rfl (hb hby d3_45)) ?_
    show own_Fin p e below s _ _ _ (T1.setTop (mkF m 46 #[.val (.ref a1), .val (.int (4 : Int32))] [(.int (3 : Int32)), (.int (2 : Int32)), (.ref a1)]))
    obtain ⟨_, T3, L3, X3, ⟨rfl, N3q, e3⟩, st3⟩ := own_callS X1 hx hZ hown (own_w hw 17 rfl) (own_w hw 18 rfl) (own_w hw 9 rfl) (own_w hw 19 rfl) (by decide) (rm2e3 l Z a0 hw a1 (2 : Int32) ka n f 4 h0 n0 Z0 F ⟨by decide, own_ltn (by decide) Hn⟩ ⟨by decide, own_ltn (by decide) Hn⟩ (by decide) ⟨by decide, own_ltn (by decide) Hn⟩ ⟨by decide, own_ltn (by decide) Hn⟩ (by decide) ⟨by decide, own_ltn (by decide) Hn⟩ ⟨by decide, own_ltn (by decide) Hn⟩ (by decide)) (by decide) (by decide) e1 (W := 0) (g := (mkF m 46 #[.val (.ref a1), .val (.int (4 : Int32))] [(.int (3 : Int32)), (.int (2 : Int32)), (.ref a1)])) rfl (by rw [hml]; rfl) (argsL := [(.ref a1), (.int (2 : Int32)), (.int (3 : Int32))]) (rest := []) (lenOf pd_0 rfl) rfl rfl (by show 2 * 0 + _ ≤ _; exact Nat.le_of_eq rfl) (hb hby d3_46) (by decide) (by decide)
    have N3 := Fr.app N1 N3q
    refine own_Fin.step st3 ?_
    show own_Fin p e below s _ _ _ (T3.setTop (mkF m 49 #[.val (.ref a1), .val (.int (4 : Int32))] [(.int (own_ind (own_Bd f 4 3)))]))
    by_cases hc49_4 : (own_ind (own_Bd f 4 3)) = (0 : Int32)
    ·
      refine own_Fin.step (fun _ => XS.ifYes X3.here hx rfl (pc0 := 49) (pc' := 54) rfl (hb hby d3_49) rfl (XT.i0_eq_t hc49_4) (by decide) (by decide)) ?_
      show own_Fin p e below s _ _ _ (T3.setTop (mkF m 54 #[.val (.ref a1), .val (.int (4 : Int32))] []))
      refine own_Fin.step (fun _ => XS.iloadN X3.here hx rfl (hb hby d3_54) rfl) ?_
      show own_Fin p e below s _ _ _ (T3.setTop (mkF m 55 #[.val (.ref a1), .val (.int (4 : Int32))] [(.int (4 : Int32))]))
      refine own_Fin.step (fun _ => XS.iconst X3.here hx rfl (hb hby d3_55)) ?_
      show own_Fin p e below s _ _ _ (T3.setTop (mkF m 56 #[.val (.ref a1), .val (.int (4 : Int32))] [(.int (2 : Int32)), (.int (4 : Int32))]))
      refine own_Fin.step (fun _ => XS.icmpNo X3.here hx rfl (hb hby d3_56) rfl (XT.ii_lt_f (by decide : ¬ ((4 : Int32) < (2 : Int32))))) ?_
      show own_Fin p e below s _ _ _ (T3.setTop (mkF m 59 #[.val (.ref a1), .val (.int (4 : Int32))] []))
      refine own_Fin.step (fun _ => XS.aloadN X3.here hx rfl (hb hby d3_59) rfl rfl) ?_
      show own_Fin p e below s _ _ _ (T3.setTop (mkF m 60 #[.val (.ref a1), .val (.int (4 : Int32))] [(.ref a1)]))
      refine own_Fin.step (fun _ => XS.iloadN X3.here hx rfl (hb hby d3_60) rfl) ?_
      show own_Fin p e below s _ _ _ (T3.setTop (mkF m 61 #[.val (.ref a1), .val (.int (4 : Int32))] [(.int (4 : Int32)), (.ref a1)]))
      refine own_Fin.step (fun _ => XS.iconst X3.here hx rfl (hb hby d3_61)) ?_
      show own_Fin p e below s _ _ _ (T3.setTop (mkF m 62 #[.val (.ref a1), .val (.int (4 : Int32))] [(.int (1 : Int32)), (.int (4 : Int32)), (.ref a1)]))
      refine own_Fin.step (fun _ => XS.isub X3.here hx rfl (hb hby d3_62) rfl) ?_
      show own_Fin p e below s _ _ _ (T3.setTop (mkF m 63 #[.val (.ref a1), .val (.int (4 : Int32))] [(.int (3 : Int32)), (.ref a1)]))
      refine own_Fin.step (fun _ => XS.iconst X3.here hx rfl (hb hby d3_63)) ?_
      show own_Fin p e below s _ _ _ (T3.setTop (mkF m 64 #[.val (.ref a1), .val (.int (4 : Int32))] [(.int (2 : Int32)), (.int (3 : Int32)), (.ref a1)]))
      obtain ⟨_, T5, L5, X5, ⟨rfl, N5q, e5⟩, st5⟩ := own_callS X3 hx hZ hown (own_w hw 17 rfl) (own_w hw 18 rfl) (own_w hw 9 rfl) (own_w hw 19 rfl) (by decide) (rm2e2 l Z a0 hw a1 (3 : Int32) ka n f 4 h0 n0 Z0 F ⟨by decide, own_ltn (by decide) Hn⟩ ⟨by decide, own_ltn (by decide) Hn⟩ (by decide) ⟨by decide, own_ltn (by decide) Hn⟩ ⟨by decide, own_ltn (by decide) Hn⟩ (by decide)) (by decide) (by decide) e3 (W := 0) (g := (mkF m 64 #[.val (.ref a1), .val (.int (4 : Int32))] [(.int (2 : Int32)), (.int (3 : Int32)), (.ref a1)])) rfl (by rw [hml]; rfl) (argsL := [(.ref a1), (.int (3 : Int32)), (.int (2 : Int32))]) (rest := []) (lenOf pd_0 rfl) rfl rfl (by show 2 * 0 + _ ≤ _; exact Nat.le_of_eq rfl) (hb hby d3_64) (by decide) (by decide)
      have N5 := Fr.app N3 N5q
      refine own_Fin.step st5 ?_
      show own_Fin p e below s _ _ _ (T5.setTop (mkF m 67 #[.val (.ref a1), .val (.int (4 : Int32))] [(.int (own_ind (own_Bd f 4 2)))]))
      by_cases hc67_6 : (own_ind (own_Bd f 4 2)) = (0 : Int32)
      ·
        refine own_Fin.step (fun _ => XS.ifYes X5.here hx rfl (pc0 := 67) (pc' := 72) rfl (hb hby d3_67) rfl (XT.i0_eq_t hc67_6) (by decide) (by decide)) ?_
        show own_Fin p e below s _ _ _ (T5.setTop (mkF m 72 #[.val (.ref a1), .val (.int (4 : Int32))] []))
        refine own_Fin.step (fun _ => XS.iloadN X5.here hx rfl (hb hby d3_72) rfl) ?_
        show own_Fin p e below s _ _ _ (T5.setTop (mkF m 73 #[.val (.ref a1), .val (.int (4 : Int32))] [(.int (4 : Int32))]))
        refine own_Fin.step (fun _ => XS.iconst X5.here hx rfl (hb hby d3_73)) ?_
        show own_Fin p e below s _ _ _ (T5.setTop (mkF m 74 #[.val (.ref a1), .val (.int (4 : Int32))] [(.int (1 : Int32)), (.int (4 : Int32))]))
        refine own_Fin.step (fun _ => XS.icmpNo X5.here hx rfl (hb hby d3_74) rfl (XT.ii_lt_f (by decide : ¬ ((4 : Int32) < (1 : Int32))))) ?_
        show own_Fin p e below s _ _ _ (T5.setTop (mkF m 77 #[.val (.ref a1), .val (.int (4 : Int32))] []))
        refine own_Fin.step (fun _ => XS.aloadN X5.here hx rfl (hb hby d3_77) rfl rfl) ?_
        show own_Fin p e below s _ _ _ (T5.setTop (mkF m 78 #[.val (.ref a1), .val (.int (4 : Int32))] [(.ref a1)]))
        refine own_Fin.step (fun _ => XS.iloadN X5.here hx rfl (hb hby d3_78) rfl) ?_
        show own_Fin p e below s _ _ _ (T5.setTop (mkF m 79 #[.val (.ref a1), .val (.int (4 : Int32))] [(.int (4 : Int32)), (.ref a1)]))
        refine own_Fin.step (fun _ => XS.iconst X5.here hx rfl (hb hby d3_79)) ?_
        show own_Fin p e below s _ _ _ (T5.setTop (mkF m 80 #[.val (.ref a1), .val (.int (4 : Int32))] [(.int (1 : Int32)), (.int (4 : Int32)), (.ref a1)]))
        obtain ⟨_, T7, L7, X7, ⟨rfl, N7q, e7⟩, st7⟩ := own_callS X5 hx hZ hown (own_w hw 17 rfl) (own_w hw 18 rfl) (own_w hw 9 rfl) (own_w hw 19 rfl) (by decide) (rm2e1 l Z a0 hw a1 (4 : Int32) ka n f 4 h0 n0 Z0 F ⟨by decide, own_ltn (by decide) Hn⟩ ⟨by decide, own_ltn (by decide) Hn⟩ (by decide)) (by decide) (by decide) e5 (W := 0) (g := (mkF m 80 #[.val (.ref a1), .val (.int (4 : Int32))] [(.int (1 : Int32)), (.int (4 : Int32)), (.ref a1)])) rfl (by rw [hml]; rfl) (argsL := [(.ref a1), (.int (4 : Int32)), (.int (1 : Int32))]) (rest := []) (lenOf pd_0 rfl) rfl rfl (by show 2 * 0 + _ ≤ _; exact Nat.le_of_eq rfl) (hb hby d3_80) (by decide) (by decide)
        have N7 := Fr.app N5 N7q
        refine own_Fin.step st7 ?_
        show own_Fin p e below s _ _ _ (T7.setTop (mkF m 83 #[.val (.ref a1), .val (.int (4 : Int32))] [(.int (own_ind (own_Bd f 4 1)))]))
        by_cases hc83_8 : (own_ind (own_Bd f 4 1)) = (0 : Int32)
        ·
          refine own_Fin.step (fun _ => XS.ifYes X7.here hx rfl (pc0 := 83) (pc' := 88) rfl (hb hby d3_83) rfl (XT.i0_eq_t hc83_8) (by decide) (by decide)) ?_
          show own_Fin p e below s _ _ _ (T7.setTop (mkF m 88 #[.val (.ref a1), .val (.int (4 : Int32))] []))
          refine own_Fin.step (fun _ => XS.iconst X7.here hx rfl (hb hby d3_88)) ?_
          show own_Fin p e below s _ _ _ (T7.setTop (mkF m 89 #[.val (.ref a1), .val (.int (4 : Int32))] [(.int (0 : Int32))]))
          exact own_retI X7 hx hlk hret (hb hby d3_89) ⟨_, rfl, N7, e7, by decide, (show own_Max f 4 0 from ⟨by decide, (fun j hj => absurd hj (by omega)), (own_un (own_un (own_un (own_un own_un0 (own_no hc31_2)) (own_no hc49_4)) (own_no hc67_6)) (own_no hc83_8))⟩)⟩ (by decide) (by decide)
        ·
          refine own_Fin.step (fun _ => XS.ifNo X7.here hx rfl (hb hby d3_83) rfl (XT.i0_eq_f hc83_8)) ?_
          show own_Fin p e below s _ _ _ (T7.setTop (mkF m 86 #[.val (.ref a1), .val (.int (4 : Int32))] []))
          refine own_Fin.step (fun _ => XS.iconst X7.here hx rfl (hb hby d3_86)) ?_
          show own_Fin p e below s _ _ _ (T7.setTop (mkF m 87 #[.val (.ref a1), .val (.int (4 : Int32))] [(.int (1 : Int32))]))
          exact own_retI X7 hx hlk hret (hb hby d3_87) ⟨_, rfl, N7, e7, by decide, (show own_Max f 4 1 from ⟨by decide, (own_yes hc83_8), (own_un (own_un (own_un own_un0 (own_no hc31_2)) (own_no hc49_4)) (own_no hc67_6))⟩)⟩ (by decide) (by decide)
      ·
        refine own_Fin.step (fun _ => XS.ifNo X5.here hx rfl (hb hby d3_67) rfl (XT.i0_eq_f hc67_6)) ?_
        show own_Fin p e below s _ _ _ (T5.setTop (mkF m 70 #[.val (.ref a1), .val (.int (4 : Int32))] []))
        refine own_Fin.step (fun _ => XS.iconst X5.here hx rfl (hb hby d3_70)) ?_
        show own_Fin p e below s _ _ _ (T5.setTop (mkF m 71 #[.val (.ref a1), .val (.int (4 : Int32))] [(.int (2 : Int32))]))
        exact own_retI X5 hx hlk hret (hb hby d3_71) ⟨_, rfl, N5, e5, by decide, (show own_Max f 4 2 from ⟨by decide, (own_yes hc67_6), (own_un (own_un own_un0 (own_no hc31_2)) (own_no hc49_4))⟩)⟩ (by decide) (by decide)
    ·
      refine own_Fin.step (fun _ => XS.ifNo X3.here hx rfl (hb hby d3_49) rfl (XT.i0_eq_f hc49_4)) ?_
      show own_Fin p e below s _ _ _ (T3.setTop (mkF m 52 #[.val (.ref a1), .val (.int (4 : Int32))] []))
      refine own_Fin.step (fun _ => XS.iconst X3.here hx rfl (hb hby d3_52)) ?_
      show own_Fin p e below s _ _ _ (T3.setTop (mkF m 53 #[.val (.ref a1), .val (.int (4 : Int32))] [(.int (3 : Int32))]))
      exact own_retI X3 hx hlk hret (hb hby d3_53) ⟨_, rfl, N3, e3, by decide, (show own_Max f 4 3 from ⟨by decide, (own_yes hc49_4), (own_un own_un0 (own_no hc31_2))⟩)⟩ (by decide) (by decide)
  ·
    refine own_Fin.step (fun _ => XS.ifNo X1.here hx rfl (hb hby d3_31) rfl (XT.i0_eq_f hc31_2)) ?_
    show own_Fin p e below s _ _ _ (T1.setTop (mkF m 34 #[.val (.ref a1), .val (.int (4 : Int32))] []))
    refine own_Fin.step (fun _ => XS.iconst X1.here hx rfl (hb hby d3_34)) ?_
    show own_Fin p e below s _ _ _ (T1.setTop (mkF m 35 #[.val (.ref a1), .val (.int (4 : Int32))] [(.int (4 : Int32))]))
    exact own_retI X1 hx hlk hret (hb hby d3_35) ⟨_, rfl, N1, e1, by decide, (show own_Max f 4 4 from ⟨by decide, (own_yes hc31_2), own_un0⟩)⟩ (by decide) (by decide)
set_option maxRecDepth 65536 in
set_option maxHeartbeats 40000000 in
theorem rm3b5 (l : Launch) (Z : State) (a0 : Array Value) (hw : ∀ d ∈ tables_1, d.before a0 Z = true) (a1 : Addr) (ka : ClassId) (n : Int32) (f : Nat → Int32) (h0 : Heap) (n0 : Nat) (Z0 : n0 ≤ h0.size) (F : own_Arf Z h0 a1 ka .byte n f) (Hn : ¬ n < (6 : Int32)) :
    own_Met l Z [] (⟨"com/example/needlewise/needlewise/KnuthMorrisPrattPartialMatchPinLaw", "border", "([BI)I"⟩ : MethodName) method_4_code 2 (some .int) ({ frames := 1, cells := 0, slots := 0, locals := 14 } : Room) #[(.ref a1), (.int (5 : Int32))] h0 (own_QB f 5 h0 n0) := by
  refine own_enter pn_3 ?_
  intro p e s m below meth c s₁ X0 hx hby hml hown hret hlk hnm hZ e0
  have hml : c.maxLocals = 2 := hml
  have N0 := Fr.nil n0
  rw [ef_3 m a1 (5 : Int32)]
  show own_Fin p e below s _ _ _ (s₁.setTop (mkF m 0 #[.val (.ref a1), .val (.int (5 : Int32))] []))
  refine own_Fin.step (fun _ => XS.iloadN X0.here hx rfl (hb hby d3_0) rfl) ?_
  show own_Fin p e below s _ _ _ (s₁.setTop (mkF m 1 #[.val (.ref a1), .val (.int (5 : Int32))] [(.int (5 : Int32))]))
  refine own_Fin.step (fun _ => XS.iconst X0.here hx rfl (hb hby d3_1)) ?_
  show own_Fin p e below s _ _ _ (s₁.setTop (mkF m 2 #[.val (.ref a1), .val (.int (5 : Int32))] [(.int (5 : Int32)), (.int (5 : Int32))]))
  refine own_Fin.step (fun _ => XS.icmpNo X0.here hx rfl (hb hby d3_2) rfl (XT.ii_lt_f (by decide : ¬ ((5 : Int32) < (5 : Int32))))) ?_
  show own_Fin p e below s _ _ _ (s₁.setTop (mkF m 5 #[.val (.ref a1), .val (.int (5 : Int32))] []))
  refine own_Fin.step (fun _ => XS.aloadN X0.here hx rfl (hb hby d3_5) rfl rfl) ?_
  show own_Fin p e below s _ _ _ (s₁.setTop (mkF m 6 #[.val (.ref a1), .val (.int (5 : Int32))] [(.ref a1)]))
  refine own_Fin.step (fun _ => XS.iloadN X0.here hx rfl (hb hby d3_6) rfl) ?_
  show own_Fin p e below s _ _ _ (s₁.setTop (mkF m 7 #[.val (.ref a1), .val (.int (5 : Int32))] [(.int (5 : Int32)), (.ref a1)]))
  refine own_Fin.step (fun _ => XS.iconst X0.here hx rfl (hb hby d3_7)) ?_
  show own_Fin p e below s _ _ _ (s₁.setTop (mkF m 8 #[.val (.ref a1), .val (.int (5 : Int32))] [(.int (4 : Int32)), (.int (5 : Int32)), (.ref a1)]))
  refine own_Fin.step (fun _ => XS.isub X0.here hx rfl (hb hby d3_8) rfl) ?_
  show own_Fin p e below s _ _ _ (s₁.setTop (mkF m 9 #[.val (.ref a1), .val (.int (5 : Int32))] [(.int (1 : Int32)), (.ref a1)]))
  refine own_Fin.step (fun _ => XS.iconst X0.here hx rfl (hb hby d3_9)) ?_
  show own_Fin p e below s _ _ _ (s₁.setTop (mkF m 10 #[.val (.ref a1), .val (.int (5 : Int32))] [(.int (5 : Int32)), (.int (1 : Int32)), (.ref a1)]))
  obtain ⟨_, T1, L1, X1, ⟨rfl, N1q, e1⟩, st1⟩ := own_callS X0 hx hZ hown (own_w hw 17 rfl) (own_w hw 18 rfl) (own_w hw 9 rfl) (own_w hw 19 rfl) (by decide) (rm2e5 l Z a0 hw a1 (1 : Int32) ka n f 5 h0 n0 Z0 F ⟨by decide, own_ltn (by decide) Hn⟩ ⟨by decide, own_ltn (by decide) Hn⟩ (by decide) ⟨by decide, own_ltn (by decide) Hn⟩ ⟨by decide, own_ltn (by decide) Hn⟩ (by decide) ⟨by decide, own_ltn (by decide) Hn⟩ ⟨by decide, own_ltn (by decide) Hn⟩ (by decide) ⟨by decide, own_ltn (by decide) Hn⟩ ⟨by decide, own_ltn (by decide) Hn⟩ (by decide) ⟨by decide, own_ltn (by decide) Hn⟩ ⟨by decide, own_ltn (by decide) Hn⟩ (by decide)) (by decide) (by decide) e0 (W := 0) (g := (mkF m 10 #[.val (.ref a1), .val (.int (5 : Int32))] [(.int (5 : Int32)), (.int (1 : Int32)), (.ref a1)])) rfl (by rw [hml]; rfl) (argsL := [(.ref a1), (.int (1 : Int32)), (.int (5 : Int32))]) (rest := []) (lenOf pd_0 rfl) rfl rfl (by show 2 * 0 + _ ≤ _; exact Nat.le_of_eq rfl) (hb hby d3_10) (by decide) (by decide)
  have N1 := Fr.app N0 N1q
  refine own_Fin.step st1 ?_
  show own_Fin p e below s _ _ _ (T1.setTop (mkF m 13 #[.val (.ref a1), .val (.int (5 : Int32))] [(.int (own_ind (own_Bd f 5 5)))]))
  by_cases hc13_2 : (own_ind (own_Bd f 5 5)) = (0 : Int32)
  ·
    refine own_Fin.step (fun _ => XS.ifYes X1.here hx rfl (pc0 := 13) (pc' := 18) rfl (hb hby d3_13) rfl (XT.i0_eq_t hc13_2) (by decide) (by decide)) ?_
    show own_Fin p e below s _ _ _ (T1.setTop (mkF m 18 #[.val (.ref a1), .val (.int (5 : Int32))] []))
    refine own_Fin.step (fun _ => XS.iloadN X1.here hx rfl (hb hby d3_18) rfl) ?_
    show own_Fin p e below s _ _ _ (T1.setTop (mkF m 19 #[.val (.ref a1), .val (.int (5 : Int32))] [(.int (5 : Int32))]))
    refine own_Fin.step (fun _ => XS.iconst X1.here hx rfl (hb hby d3_19)) ?_
    show own_Fin p e below s _ _ _ (T1.setTop (mkF m 20 #[.val (.ref a1), .val (.int (5 : Int32))] [(.int (4 : Int32)), (.int (5 : Int32))]))
    refine own_Fin.step (fun _ => XS.icmpNo X1.here hx rfl (hb hby d3_20) rfl (XT.ii_lt_f (by decide : ¬ ((5 : Int32) < (4 : Int32))))) ?_
    show own_Fin p e below s _ _ _ (T1.setTop (mkF m 23 #[.val (.ref a1), .val (.int (5 : Int32))] []))
    refine own_Fin.step (fun _ => XS.aloadN X1.here hx rfl (hb hby d3_23) rfl rfl) ?_
    show own_Fin p e below s _ _ _ (T1.setTop (mkF m 24 #[.val (.ref a1), .val (.int (5 : Int32))] [(.ref a1)]))
    refine own_Fin.step (fun _ => XS.iloadN X1.here hx rfl (hb hby d3_24) rfl) ?_
    show own_Fin p e below s _ _ _ (T1.setTop (mkF m 25 #[.val (.ref a1), .val (.int (5 : Int32))] [(.int (5 : Int32)), (.ref a1)]))
    refine own_Fin.step (fun _ => XS.iconst X1.here hx rfl (hb hby d3_25)) ?_
    show own_Fin p e below s _ _ _ (T1.setTop (mkF m 26 #[.val (.ref a1), .val (.int (5 : Int32))] [(.int (3 : Int32)), (.int (5 : Int32)), (.ref a1)]))
    refine own_Fin.step (fun _ => XS.isub X1.here hx rfl (hb hby d3_26) rfl) ?_
    show own_Fin p e below s _ _ _ (T1.setTop (mkF m 27 #[.val (.ref a1), .val (.int (5 : Int32))] [(.int (2 : Int32)), (.ref a1)]))
    refine own_Fin.step (fun _ => XS.iconst X1.here hx rfl (hb hby d3_27)) ?_
    show own_Fin p e below s _ _ _ (T1.setTop (mkF m 28 #[.val (.ref a1), .val (.int (5 : Int32))] [(.int (4 : Int32)), (.int (2 : Int32)), (.ref a1)]))
    obtain ⟨_, T3, L3, X3, ⟨rfl, N3q, e3⟩, st3⟩ := own_callS X1 hx hZ hown (own_w hw 17 rfl) (own_w hw 18 rfl) (own_w hw 9 rfl) (own_w hw 19 rfl) (by decide) (rm2e4 l Z a0 hw a1 (2 : Int32) ka n f 5 h0 n0 Z0 F ⟨by decide, own_ltn (by decide) Hn⟩ ⟨by decide, own_ltn (by decide) Hn⟩ (by decide) ⟨by decide, own_ltn (by decide) Hn⟩ ⟨by decide, own_ltn (by decide) Hn⟩ (by decide) ⟨by decide, own_ltn (by decide) Hn⟩ ⟨by decide, own_ltn (by decide) Hn⟩ (by decide) ⟨by decide, own_ltn (by decide) Hn⟩ ⟨by decide, own_ltn (by decide) Hn⟩ (by decide)) (by decide) (by decide) e1 (W := 0) (g := (mkF m 28 #[.val (.ref a1), .val (.int (5 : Int32))] [(.int (4 : Int32)), (.int (2 : Int32)), (.ref a1)])) rfl (by rw [hml]; rfl) (argsL := [(.ref a1), (.int (2 : Int32)), (.int (4 : Int32))]) (rest := []) (lenOf pd_0 rfl) rfl rfl (by show 2 * 0 + _ ≤ _; exact Nat.le_of_eq rfl) (hb hby d3_28) (by decide) (by decide)
    have N3 := Fr.app N1 N3q
    refine own_Fin.step st3 ?_
    show own_Fin p e below s _ _ _ (T3.setTop (mkF m 31 #[.val (.ref a1), .val (.int (5 : Int32))] [(.int (own_ind (own_Bd f 5 4)))]))
    by_cases hc31_4 : (own_ind (own_Bd f 5 4)) = (0 : Int32)
    ·
      refine own_Fin.step (fun _ => XS.ifYes X3.here hx rfl (pc0 := 31) (pc' := 36) rfl (hb hby d3_31) rfl (XT.i0_eq_t hc31_4) (by decide) (by decide)) ?_
      show own_Fin p e below s _ _ _ (T3.setTop (mkF m 36 #[.val (.ref a1), .val (.int (5 : Int32))] []))
      refine own_Fin.step (fun _ => XS.iloadN X3.here hx rfl (hb hby d3_36) rfl) ?_
      show own_Fin p e below s _ _ _ (T3.setTop (mkF m 37 #[.val (.ref a1), .val (.int (5 : Int32))] [(.int (5 : Int32))]))
      refine own_Fin.step (fun _ => XS.iconst X3.here hx rfl (hb hby d3_37)) ?_
      show own_Fin p e below s _ _ _ (T3.setTop (mkF m 38 #[.val (.ref a1), .val (.int (5 : Int32))] [(.int (3 : Int32)), (.int (5 : Int32))]))
      refine own_Fin.step (fun _ => XS.icmpNo X3.here hx rfl (hb hby d3_38) rfl (XT.ii_lt_f (by decide : ¬ ((5 : Int32) < (3 : Int32))))) ?_
      show own_Fin p e below s _ _ _ (T3.setTop (mkF m 41 #[.val (.ref a1), .val (.int (5 : Int32))] []))
      refine own_Fin.step (fun _ => XS.aloadN X3.here hx rfl (hb hby d3_41) rfl rfl) ?_
      show own_Fin p e below s _ _ _ (T3.setTop (mkF m 42 #[.val (.ref a1), .val (.int (5 : Int32))] [(.ref a1)]))
      refine own_Fin.step (fun _ => XS.iloadN X3.here hx rfl (hb hby d3_42) rfl) ?_
      show own_Fin p e below s _ _ _ (T3.setTop (mkF m 43 #[.val (.ref a1), .val (.int (5 : Int32))] [(.int (5 : Int32)), (.ref a1)]))
      refine own_Fin.step (fun _ => XS.iconst X3.here hx rfl (hb hby d3_43)) ?_
      show own_Fin p e below s _ _ _ (T3.setTop (mkF m 44 #[.val (.ref a1), .val (.int (5 : Int32))] [(.int (2 : Int32)), (.int (5 : Int32)), (.ref a1)]))
      refine own_Fin.step (fun _ => XS.isub X3.here hx rfl (hb hby d3_44) rfl) ?_
      show own_Fin p e below s _ _ _ (T3.setTop (mkF m 45 #[.val (.ref a1), .val (.int (5 : Int32))] [(.int (3 : Int32)), (.ref a1)]))
      refine own_Fin.step (fun _ => XS.iconst X3.here hx rfl (hb hby d3_45)) ?_
      show own_Fin p e below s _ _ _ (T3.setTop (mkF m 46 #[.val (.ref a1), .val (.int (5 : Int32))] [(.int (3 : Int32)), (.int (3 : Int32)), (.ref a1)]))
      obtain ⟨_, T5, L5, X5, ⟨rfl, N5q, e5⟩, st5⟩ := own_callS X3 hx hZ hown (own_w hw 17 rfl) (own_w hw 18 rfl) (own_w hw 9 rfl) (own_w hw 19 rfl) (by decide) (rm2e3 l Z a0 hw a1 (3 : Int32) ka n f 5 h0 n0 Z0 F ⟨by decide, own_ltn (by decide) Hn⟩ ⟨by decide, own_ltn (by decide) Hn⟩ (by decide) ⟨by decide, own_ltn (by decide) Hn⟩ ⟨by decide, own_ltn (by decide) Hn⟩ (by decide) ⟨by decide, own_ltn (by decide) Hn⟩ ⟨by decide, own_ltn (by decide) Hn⟩ (by decide)) (by decide) (by decide) e3 (W := 0) (g := (mkF m 46 #[.val (.ref a1), .val (.int (5 : Int32))] [(.int (3 : Int32)), (.int (3 : Int32)), (.ref a1)])) rfl (by rw [hml]; rfl) (argsL := [(.ref a1), (.int (3 : Int32)), (.int (3 : Int32))]) (rest := []) (lenOf pd_0 rfl) rfl rfl (by show 2 * 0 + _ ≤ _; exact Nat.le_of_eq rfl) (hb hby d3_46) (by decide) (by decide)
      have N5 := Fr.app N3 N5q
      refine own_Fin.step st5 ?_
      show own_Fin p e below s _ _ _ (T5.setTop (mkF m 49 #[.val (.ref a1), .val (.int (5 : Int32))] [(.int (own_ind (own_Bd f 5 3)))]))
      by_cases hc49_6 : (own_ind (own_Bd f 5 3)) = (0 : Int32)
      ·
        refine own_Fin.step (fun _ => XS.ifYes X5.here hx rfl (pc0 := 49) (pc' := 54) rfl (hb hby d3_49) rfl (XT.i0_eq_t hc49_6) (by decide) (by decide)) ?_
        show own_Fin p e below s _ _ _ (T5.setTop (mkF m 54 #[.val (.ref a1), .val (.int (5 : Int32))] []))
        refine own_Fin.step (fun _ => XS.iloadN X5.here hx rfl (hb hby d3_54) rfl) ?_
        show own_Fin p e below s _ _ _ (T5.setTop (mkF m 55 #[.val (.ref a1), .val (.int (5 : Int32))] [(.int (5 : Int32))]))
        refine own_Fin.step (fun _ => XS.iconst X5.here hx rfl (hb hby d3_55)) ?_
        show own_Fin p e below s _ _ _ (T5.setTop (mkF m 56 #[.val (.ref a1), .val (.int (5 : Int32))] [(.int (2 : Int32)), (.int (5 : Int32))]))
        refine own_Fin.step (fun _ => XS.icmpNo X5.here hx rfl (hb hby d3_56) rfl (XT.ii_lt_f (by decide : ¬ ((5 : Int32) < (2 : Int32))))) ?_
        show own_Fin p e below s _ _ _ (T5.setTop (mkF m 59 #[.val (.ref a1), .val (.int (5 : Int32))] []))
        refine own_Fin.step (fun _ => XS.aloadN X5.here hx rfl (hb hby d3_59) rfl rfl) ?_
        show own_Fin p e below s _ _ _ (T5.setTop (mkF m 60 #[.val (.ref a1), .val (.int (5 : Int32))] [(.ref a1)]))
        refine own_Fin.step (fun _ => XS.iloadN X5.here hx rfl (hb hby d3_60) rfl) ?_
        show own_Fin p e below s _ _ _ (T5.setTop (mkF m 61 #[.val (.ref a1), .val (.int (5 : Int32))] [(.int (5 : Int32)), (.ref a1)]))
        refine own_Fin.step (fun _ => XS.iconst X5.here hx rfl (hb hby d3_61)) ?_
        show own_Fin p e below s _ _ _ (T5.setTop (mkF m 62 #[.val (.ref a1), .val (.int (5 : Int32))] [(.int (1 : Int32)), (.int (5 : Int32)), (.ref a1)]))
        refine own_Fin.step (fun _ => XS.isub X5.here hx rfl (hb hby d3_62) rfl) ?_
        show own_Fin p e below s _ _ _ (T5.setTop (mkF m 63 #[.val (.ref a1), .val (.int (5 : Int32))] [(.int (4 : Int32)), (.ref a1)]))
        refine own_Fin.step (fun _ => XS.iconst X5.here hx rfl (hb hby d3_63)) ?_
        show own_Fin p e below s _ _ _ (T5.setTop (mkF m 64 #[.val (.ref a1), .val (.int (5 : Int32))] [(.int (2 : Int32)), (.int (4 : Int32)), (.ref a1)]))
        obtain ⟨_, T7, L7, X7, ⟨rfl, N7q, e7⟩, st7⟩ := own_callS X5 hx hZ hown (own_w hw 17 rfl) (own_w hw 18 rfl) (own_w hw 9 rfl) (own_w hw 19 rfl) (by decide) (rm2e2 l Z a0 hw a1 (4 : Int32) ka n f 5 h0 n0 Z0 F ⟨by decide, own_ltn (by decide) Hn⟩ ⟨by decide, own_ltn (by decide) Hn⟩ (by decide) ⟨by decide, own_ltn (by decide) Hn⟩ ⟨by decide, own_ltn (by decide) Hn⟩ (by decide)) (by decide) (by decide) e5 (W := 0) (g := (mkF m 64 #[.val (.ref a1), .val (.int (5 : Int32))] [(.int (2 : Int32)), (.int (4 : Int32)), (.ref a1)])) rfl (by rw [hml]; rfl) (argsL := [(.ref a1), (.int (4 : Int32)), (.int (2 : Int32))]) (rest := []) (lenOf pd_0 rfl) rfl rfl (by show 2 * 0 + _ ≤ _; exact Nat.le_of_eq rfl) (hb hby d3_64) (by decide) (by decide)
        have N7 := Fr.app N5 N7q
        refine own_Fin.step st7 ?_
        show own_Fin p e below s _ _ _ (T7.setTop (mkF m 67 #[.val (.ref a1), .val (.int (5 : Int32))] [(.int (own_ind (own_Bd f 5 2)))]))
        by_cases hc67_8 : (own_ind (own_Bd f 5 2)) = (0 : Int32)
        ·
          refine own_Fin.step (fun _ => XS.ifYes X7.here hx rfl (pc0 := 67) (pc' := 72) rfl (hb hby d3_67) rfl (XT.i0_eq_t hc67_8) (by decide) (by decide)) ?_
          show own_Fin p e below s _ _ _ (T7.setTop (mkF m 72 #[.val (.ref a1), .val (.int (5 : Int32))] []))
          refine own_Fin.step (fun _ => XS.iloadN X7.here hx rfl (hb hby d3_72) rfl) ?_
          show own_Fin p e below s _ _ _ (T7.setTop (mkF m 73 #[.val (.ref a1), .val (.int (5 : Int32))] [(.int (5 : Int32))]))
          refine own_Fin.step (fun _ => XS.iconst X7.here hx rfl (hb hby d3_73)) ?_
          show own_Fin p e below s _ _ _ (T7.setTop (mkF m 74 #[.val (.ref a1), .val (.int (5 : Int32))] [(.int (1 : Int32)), (.int (5 : Int32))]))
          refine own_Fin.step (fun _ => XS.icmpNo X7.here hx rfl (hb hby d3_74) rfl (XT.ii_lt_f (by decide : ¬ ((5 : Int32) < (1 : Int32))))) ?_
          show own_Fin p e below s _ _ _ (T7.setTop (mkF m 77 #[.val (.ref a1), .val (.int (5 : Int32))] []))
          refine own_Fin.step (fun _ => XS.aloadN X7.here hx rfl (hb hby d3_77) rfl rfl) ?_
          show own_Fin p e below s _ _ _ (T7.setTop (mkF m 78 #[.val (.ref a1), .val (.int (5 : Int32))] [(.ref a1)]))
          refine own_Fin.step (fun _ => XS.iloadN X7.here hx rfl (hb hby d3_78) rfl) ?_
          show own_Fin p e below s _ _ _ (T7.setTop (mkF m 79 #[.val (.ref a1), .val (.int (5 : Int32))] [(.int (5 : Int32)), (.ref a1)]))
          refine own_Fin.step (fun _ => XS.iconst X7.here hx rfl (hb hby d3_79)) ?_
          show own_Fin p e below s _ _ _ (T7.setTop (mkF m 80 #[.val (.ref a1), .val (.int (5 : Int32))] [(.int (1 : Int32)), (.int (5 : Int32)), (.ref a1)]))
          obtain ⟨_, T9, L9, X9, ⟨rfl, N9q, e9⟩, st9⟩ := own_callS X7 hx hZ hown (own_w hw 17 rfl) (own_w hw 18 rfl) (own_w hw 9 rfl) (own_w hw 19 rfl) (by decide) (rm2e1 l Z a0 hw a1 (5 : Int32) ka n f 5 h0 n0 Z0 F ⟨by decide, own_ltn (by decide) Hn⟩ ⟨by decide, own_ltn (by decide) Hn⟩ (by decide)) (by decide) (by decide) e7 (W := 0) (g := (mkF m 80 #[.val (.ref a1), .val (.int (5 : Int32))] [(.int (1 : Int32)), (.int (5 : Int32)), (.ref a1)])) rfl (by rw [hml]; rfl) (argsL := [(.ref a1), (.int (5 : Int32)), (.int (1 : Int32))]) (rest := []) (lenOf pd_0 rfl) rfl rfl (by show 2 * 0 + _ ≤ _; exact Nat.le_of_eq rfl) (hb hby d3_80) (by decide) (by decide)
          have N9 := Fr.app N7 N9q
          refine own_Fin.step st9 ?_
          show own_Fin p e below s _ _ _ (T9.setTop (mkF m 83 #[.val (.ref a1), .val (.int (5 : Int32))] [(.int (own_ind (own_Bd f 5 1)))]))
          by_cases hc83_10 : (own_ind (own_Bd f 5 1)) = (0 : Int32)
          ·
            refine own_Fin.step (fun _ => XS.ifYes X9.here hx rfl (pc0 := 83) (pc' := 88) rfl (hb hby d3_83) rfl (XT.i0_eq_t hc83_10) (by decide) (by decide)) ?_
            show own_Fin p e below s _ _ _ (T9.setTop (mkF m 88 #[.val (.ref a1), .val (.int (5 : Int32))] []))
            refine own_Fin.step (fun _ => XS.iconst X9.here hx rfl (hb hby d3_88)) ?_
            show own_Fin p e below s _ _ _ (T9.setTop (mkF m 89 #[.val (.ref a1), .val (.int (5 : Int32))] [(.int (0 : Int32))]))
            exact own_retI X9 hx hlk hret (hb hby d3_89) ⟨_, rfl, N9, e9, by decide, (show own_Max f 5 0 from ⟨by decide, (fun j hj => absurd hj (by omega)), (own_un (own_un (own_un (own_un (own_un own_un0 (own_no hc13_2)) (own_no hc31_4)) (own_no hc49_6)) (own_no hc67_8)) (own_no hc83_10))⟩)⟩ (by decide) (by decide)
          ·
            refine own_Fin.step (fun _ => XS.ifNo X9.here hx rfl (hb hby d3_83) rfl (XT.i0_eq_f hc83_10)) ?_
            show own_Fin p e below s _ _ _ (T9.setTop (mkF m 86 #[.val (.ref a1), .val (.int (5 : Int32))] []))
            refine own_Fin.step (fun _ => XS.iconst X9.here hx rfl (hb hby d3_86)) ?_
            show own_Fin p e below s _ _ _ (T9.setTop (mkF m 87 #[.val (.ref a1), .val (.int (5 : Int32))] [(.int (1 : Int32))]))
            exact own_retI X9 hx hlk hret (hb hby d3_87) ⟨_, rfl, N9, e9, by decide, (show own_Max f 5 1 from ⟨by decide, (own_yes hc83_10), (own_un (own_un (own_un (own_un own_un0 (own_no hc13_2)) (own_no hc31_4)) (own_no hc49_6)) (own_no hc67_8))⟩)⟩ (by decide) (by decide)
        ·
          refine own_Fin.step (fun _ => XS.ifNo X7.here hx rfl (hb hby d3_67) rfl (XT.i0_eq_f hc67_8)) ?_
          show own_Fin p e below s _ _ _ (T7.setTop (mkF m 70 #[.val (.ref a1), .val (.int (5 : Int32))] []))
          refine own_Fin.step (fun _ => XS.iconst X7.here hx rfl (hb hby d3_70)) ?_
          show own_Fin p e below s _ _ _ (T7.setTop (mkF m 71 #[.val (.ref a1), .val (.int (5 : Int32))] [(.int (2 : Int32))]))
          exact own_retI X7 hx hlk hret (hb hby d3_71) ⟨_, rfl, N7, e7, by decide, (show own_Max f 5 2 from ⟨by decide, (own_yes hc67_8), (own_un (own_un (own_un own_un0 (own_no hc13_2)) (own_no hc31_4)) (own_no hc49_6))⟩)⟩ (by decide) (by decide)
      ·
        refine own_Fin.step (fun _ => XS.ifNo X5.here hx rfl (hb hby d3_49) rfl (XT.i0_eq_f hc49_6)) ?_
        show own_Fin p e below s _ _ _ (T5.setTop (mkF m 52 #[.val (.ref a1), .val (.int (5 : Int32))] []))
        refine own_Fin.step (fun _ => XS.iconst X5.here hx rfl (hb hby d3_52)) ?_
        show own_Fin p e below s _ _ _ (T5.setTop (mkF m 53 #[.val (.ref a1), .val (.int (5 : Int32))] [(.int (3 : Int32))]))
        exact own_retI X5 hx hlk hret (hb hby d3_53) ⟨_, rfl, N5, e5, by decide, (show own_Max f 5 3 from ⟨by decide, (own_yes hc49_6), (own_un (own_un own_un0 (own_no hc13_2)) (own_no hc31_4))⟩)⟩ (by decide) (by decide)
    ·
      refine own_Fin.step (fun _ => XS.ifNo X3.here hx rfl (hb hby d3_31) rfl (XT.i0_eq_f hc31_4)) ?_
      show own_Fin p e below s _ _ _ (T3.setTop (mkF m 34 #[.val (.ref a1), .val (.int (5 : Int32))] []))
      refine own_Fin.step (fun _ => XS.iconst X3.here hx rfl (hb hby d3_34)) ?_
      show own_Fin p e below s _ _ _ (T3.setTop (mkF m 35 #[.val (.ref a1), .val (.int (5 : Int32))] [(.int (4 : Int32))]))
      exact own_retI X3 hx hlk hret (hb hby d3_35) ⟨_, rfl, N3, e3, by decide, (show own_Max f 5 4 from ⟨by decide, (own_yes hc31_4), (own_un own_un0 (own_no hc13_2))⟩)⟩ (by decide) (by decide)
  ·
    refine own_Fin.step (fun _ => XS.ifNo X1.here hx rfl (hb hby d3_13) rfl (XT.i0_eq_f hc13_2)) ?_
    show own_Fin p e below s _ _ _ (T1.setTop (mkF m 16 #[.val (.ref a1), .val (.int (5 : Int32))] []))
    refine own_Fin.step (fun _ => XS.iconst X1.here hx rfl (hb hby d3_16)) ?_
    show own_Fin p e below s _ _ _ (T1.setTop (mkF m 17 #[.val (.ref a1), .val (.int (5 : Int32))] [(.int (5 : Int32))]))
    exact own_retI X1 hx hlk hret (hb hby d3_17) ⟨_, rfl, N1, e1, by decide, (show own_Max f 5 5 from ⟨by decide, (own_yes hc13_2), own_un0⟩)⟩ (by decide) (by decide)
theorem d4_0 : decode prog_13_method_3_code 0 = .ok (.iload_n 2, 1) := by decide +kernel
theorem d4_1 : decode prog_13_method_3_code 1 = .ok (.istore 4, 2) := by decide +kernel
theorem d4_3 : decode prog_13_method_3_code 3 = .ok (.iload 4, 2) := by decide +kernel
theorem d4_5 : decode prog_13_method_3_code 5 = .ok (.ifCond .le 22, 3) := by decide +kernel
theorem d4_8 : decode prog_13_method_3_code 8 = .ok (.iload_n 3, 1) := by decide +kernel
theorem d4_9 : decode prog_13_method_3_code 9 = .ok (.aload_n 0, 1) := by decide +kernel
theorem d4_10 : decode prog_13_method_3_code 10 = .ok (.iload 4, 2) := by decide +kernel
theorem d4_12 : decode prog_13_method_3_code 12 = .ok (.baload, 1) := by decide +kernel
theorem d4_13 : decode prog_13_method_3_code 13 = .ok (.if_icmp .eq 14, 3) := by decide +kernel
theorem d4_16 : decode prog_13_method_3_code 16 = .ok (.aload_n 1, 1) := by decide +kernel
theorem d4_17 : decode prog_13_method_3_code 17 = .ok (.iload 4, 2) := by decide +kernel
theorem d4_19 : decode prog_13_method_3_code 19 = .ok (.iconst 1, 1) := by decide +kernel
theorem d4_20 : decode prog_13_method_3_code 20 = .ok (.isub, 1) := by decide +kernel
theorem d4_21 : decode prog_13_method_3_code 21 = .ok (.iaload, 1) := by decide +kernel
theorem d4_22 : decode prog_13_method_3_code 22 = .ok (.istore 4, 2) := by decide +kernel
theorem d4_24 : decode prog_13_method_3_code 24 = .ok (.goto (-21), 3) := by decide +kernel
theorem d4_27 : decode prog_13_method_3_code 27 = .ok (.iload_n 3, 1) := by decide +kernel
theorem d4_28 : decode prog_13_method_3_code 28 = .ok (.aload_n 0, 1) := by decide +kernel
theorem d4_29 : decode prog_13_method_3_code 29 = .ok (.iload 4, 2) := by decide +kernel
theorem d4_31 : decode prog_13_method_3_code 31 = .ok (.baload, 1) := by decide +kernel
theorem d4_32 : decode prog_13_method_3_code 32 = .ok (.if_icmp .ne 10, 3) := by decide +kernel
theorem d4_35 : decode prog_13_method_3_code 35 = .ok (.iload 4, 2) := by decide +kernel
theorem d4_37 : decode prog_13_method_3_code 37 = .ok (.iconst 1, 1) := by decide +kernel
theorem d4_38 : decode prog_13_method_3_code 38 = .ok (.iadd, 1) := by decide +kernel
theorem d4_39 : decode prog_13_method_3_code 39 = .ok (.goto 5, 3) := by decide +kernel
theorem d4_42 : decode prog_13_method_3_code 42 = .ok (.iload 4, 2) := by decide +kernel
theorem d4_44 : decode prog_13_method_3_code 44 = .ok (.ireturn, 1) := by decide +kernel
theorem pn_4 : plainFor (⟨"com/example/needlewise/needlewise/KnuthMorrisPratt", "advance", "([B[IIB)I"⟩ : MethodName) = true := plainFor_of_name (by first | (simp [plainName, overriddenIn]; done) | decide +kernel)
theorem ef_4 (m : MethodId) (x0 : Addr) (x1 : Addr) (x2 : Int32) (x3 : Int32) : entryFrame m #[(.ref x0), (.ref x1), (.int x2), (.int x3)] 5 = mkF m 0 #[.val (.ref x0), .val (.ref x1), .val (.int x2), .val (.int x3), .unset] [] := by first | (simp [entryFrame, mkF, argsToLocals, Value.category]; done) | rfl
set_option maxRecDepth 65536 in
set_option maxHeartbeats 40000000 in
theorem rm4 (l : Launch) (Z : State) (a0 : Array Value) (hw : ∀ d ∈ tables_1, d.before a0 Z = true) (a1 : Addr) (a2 : Addr) (p3 : Int32) (p4 : Int32) (ka kt : ClassId) (n : Int32) (f g : Nat → Int32) (i : Nat) (h0 : Heap) (n0 : Nat) (Z0 : n0 ≤ h0.size) (F : own_Arf Z h0 a1 ka .byte n f) (G : own_Arf Z h0 a2 kt .int n g) (Hn : ¬ n < 0) (Hi : 1 ≤ i) (Hin : i < n.toNatClampNeg) (hT : own_T f g i) (Hm : ¬ p3 < 0 ∧ own_Max f (i - 1) p3.toNatClampNeg) (Hb : p4 = f i) :
    own_Met l Z [] (⟨"com/example/needlewise/needlewise/KnuthMorrisPratt", "advance", "([B[IIB)I"⟩ : MethodName) prog_13_method_3_code 5 (some .int) ({ frames := 0, cells := 0, slots := 0, locals := 0 } : Room) #[(.ref a1), (.ref a2), (.int p3), (.int p4)] h0 (own_QB f i h0 n0) := by
  refine own_enter pn_4 ?_
  intro p e s m below meth c s₁ X0 hx hby hml hown hret hlk hnm hZ e0
  have hml : c.maxLocals = 5 := hml
  have N0 := Fr.nil n0
  rw [ef_4 m a1 a2 p3 p4]
  have out : ∀ (m4 : Int32), ¬ m4 < 0 → own_Inv f i m4.toNatClampNeg → (m4.toNatClampNeg = 0 ∨ f m4.toNatClampNeg = f i) → own_Fin p e below s (own_QB f i h0 n0) ({ frames := 0, cells := 0, slots := 0, locals := 0 } : Room).cells ({ frames := 0, cells := 0, slots := 0, locals := 0 } : Room).slots (s₁.setTop (mkF m 27 #[.val (.ref a1), .val (.ref a2), .val (.int p3), .val (.int p4), .val (.int m4)] [])) := by
    intro m4 hm hI ho
    show own_Fin p e below s _ _ _ (s₁.setTop (mkF m 27 #[.val (.ref a1), .val (.ref a2), .val (.int p3), .val (.int p4), .val (.int m4)] []))
    refine own_Fin.step (fun _ => XS.iloadN X0.here hx rfl (hb hby d4_27) rfl) ?_
    show own_Fin p e below s _ _ _ (s₁.setTop (mkF m 28 #[.val (.ref a1), .val (.ref a2), .val (.int p3), .val (.int p4), .val (.int m4)] [(.int p4)]))
    refine own_Fin.step (fun _ => XS.aloadN X0.here hx rfl (hb hby d4_28) rfl rfl) ?_
    show own_Fin p e below s _ _ _ (s₁.setTop (mkF m 29 #[.val (.ref a1), .val (.ref a2), .val (.int p3), .val (.int p4), .val (.int m4)] [(.ref a1), (.int p4)]))
    refine own_Fin.step (fun _ => XS.iload X0.here hx rfl (hb hby d4_29) rfl) ?_
    show own_Fin p e below s _ _ _ (s₁.setTop (mkF m 31 #[.val (.ref a1), .val (.ref a2), .val (.int p3), .val (.int p4), .val (.int m4)] [(.int m4), (.ref a1), (.int p4)]))
    refine own_Fin.step (own_ldFB X0 hx hZ e0 F (j := m4) (own_idx hm Hn (by have := hI.1; omega)) (g := (mkF m 31 #[.val (.ref a1), .val (.ref a2), .val (.int p3), .val (.int p4), .val (.int m4)] [(.int m4), (.ref a1), (.int p4)])) rfl rfl (hb hby d4_31)) ?_
    show own_Fin p e below s _ _ _ (s₁.setTop (mkF m 32 #[.val (.ref a1), .val (.ref a2), .val (.int p3), .val (.int p4), .val (.int m4)] [(.int (f (m4).toNatClampNeg)), (.int p4)]))
    by_cases hc32_1 : p4 = (f (m4).toNatClampNeg)
    ·
      refine own_Fin.step (fun _ => XS.icmpNo X0.here hx rfl (hb hby d4_32) rfl (XT.ii_ne_f hc32_1)) ?_
      show own_Fin p e below s _ _ _ (s₁.setTop (mkF m 35 #[.val (.ref a1), .val (.ref a2), .val (.int p3), .val (.int p4), .val (.int m4)] []))
      refine own_Fin.step (fun _ => XS.iload X0.here hx rfl (hb hby d4_35) rfl) ?_
      show own_Fin p e below s _ _ _ (s₁.setTop (mkF m 37 #[.val (.ref a1), .val (.ref a2), .val (.int p3), .val (.int p4), .val (.int m4)] [(.int m4)]))
      refine own_Fin.step (fun _ => XS.iconst X0.here hx rfl (hb hby d4_37)) ?_
      show own_Fin p e below s _ _ _ (s₁.setTop (mkF m 38 #[.val (.ref a1), .val (.ref a2), .val (.int p3), .val (.int p4), .val (.int m4)] [(.int (1 : Int32)), (.int m4)]))
      refine own_Fin.step (fun _ => XS.iadd X0.here hx rfl (hb hby d4_38) rfl) ?_
      show own_Fin p e below s _ _ _ (s₁.setTop (mkF m 39 #[.val (.ref a1), .val (.ref a2), .val (.int p3), .val (.int p4), .val (.int m4)] [(.int (m4 + (1 : Int32)))]))
      refine own_Fin.step (fun _ => XS.goto X0.here hx rfl (pc0 := 39) (pc' := 44) rfl (hb hby d4_39) (by decide) (by decide)) ?_
      show own_Fin p e below s _ _ _ (s₁.setTop (mkF m 44 #[.val (.ref a1), .val (.ref a2), .val (.int p3), .val (.int p4), .val (.int m4)] [(.int (m4 + (1 : Int32)))]))
      exact own_retI X0 hx hlk hret (hb hby d4_44) ⟨_, rfl, N0, e0, (own_add1 (n := n) hm (by have := hI.1; omega)).1, by rw [(own_add1 (n := n) hm (by have := hI.1; omega)).2]; exact hI.hit (by rw [← Hb]; exact hc32_1.symm)⟩ (by decide) (by decide)
    ·
      refine own_Fin.step (fun _ => XS.icmpYes X0.here hx rfl (pc0 := 32) (pc' := 42) rfl (hb hby d4_32) rfl (XT.ii_ne_t hc32_1) (by decide) (by decide)) ?_
      show own_Fin p e below s _ _ _ (s₁.setTop (mkF m 42 #[.val (.ref a1), .val (.ref a2), .val (.int p3), .val (.int p4), .val (.int m4)] []))
      refine own_Fin.step (fun _ => XS.iload X0.here hx rfl (hb hby d4_42) rfl) ?_
      show own_Fin p e below s _ _ _ (s₁.setTop (mkF m 44 #[.val (.ref a1), .val (.ref a2), .val (.int p3), .val (.int p4), .val (.int m4)] [(.int m4)]))
      exact own_retI X0 hx hlk hret (hb hby d4_44) ⟨_, rfl, N0, e0, hm, by
            rcases ho with ho | ho
            · rw [ho] at hI ⊢; exact hI.miss (fun q => hc32_1 (by rw [ho, q, Hb]))
            · exact absurd (by rw [Hb, ho]) hc32_1⟩ (by decide) (by decide)
  have loop : ∀ (t : Nat) (m4 : Int32), m4.toNatClampNeg ≤ t → ¬ m4 < 0 → own_Inv f i m4.toNatClampNeg → own_Fin p e below s (own_QB f i h0 n0) ({ frames := 0, cells := 0, slots := 0, locals := 0 } : Room).cells ({ frames := 0, cells := 0, slots := 0, locals := 0 } : Room).slots (s₁.setTop (mkF m 3 #[.val (.ref a1), .val (.ref a2), .val (.int p3), .val (.int p4), .val (.int m4)] [])) := by
    intro t
    induction t with
    | zero =>
      intro m4 ht hm hI
      show own_Fin p e below s _ _ _ (s₁.setTop (mkF m 3 #[.val (.ref a1), .val (.ref a2), .val (.int p3), .val (.int p4), .val (.int m4)] []))
      refine own_Fin.step (fun _ => XS.iload X0.here hx rfl (hb hby d4_3) rfl) ?_
      show own_Fin p e below s _ _ _ (s₁.setTop (mkF m 5 #[.val (.ref a1), .val (.ref a2), .val (.int p3), .val (.int p4), .val (.int m4)] [(.int m4)]))
      refine own_Fin.step (fun _ => XS.ifYes X0.here hx rfl (pc0 := 5) (pc' := 27) rfl (hb hby d4_5) rfl (XT.i0_le_t (own_pos ht)) (by decide) (by decide)) ?_
      exact out _ hm hI (Or.inl (by omega))
    | succ t ih =>
      intro m4 ht hm hI
      show own_Fin p e below s _ _ _ (s₁.setTop (mkF m 3 #[.val (.ref a1), .val (.ref a2), .val (.int p3), .val (.int p4), .val (.int m4)] []))
      refine own_Fin.step (fun _ => XS.iload X0.here hx rfl (hb hby d4_3) rfl) ?_
      show own_Fin p e below s _ _ _ (s₁.setTop (mkF m 5 #[.val (.ref a1), .val (.ref a2), .val (.int p3), .val (.int p4), .val (.int m4)] [(.int m4)]))
      by_cases hc5_2 : (0 : Int32) < m4
      ·
        refine own_Fin.step (fun _ => XS.ifNo X0.here hx rfl (hb hby d4_5) rfl (XT.i0_le_f hc5_2)) ?_
        show own_Fin p e below s _ _ _ (s₁.setTop (mkF m 8 #[.val (.ref a1), .val (.ref a2), .val (.int p3), .val (.int p4), .val (.int m4)] []))
        refine own_Fin.step (fun _ => XS.iloadN X0.here hx rfl (hb hby d4_8) rfl) ?_
        show own_Fin p e below s _ _ _ (s₁.setTop (mkF m 9 #[.val (.ref a1), .val (.ref a2), .val (.int p3), .val (.int p4), .val (.int m4)] [(.int p4)]))
        refine own_Fin.step (fun _ => XS.aloadN X0.here hx rfl (hb hby d4_9) rfl rfl) ?_
        show own_Fin p e below s _ _ _ (s₁.setTop (mkF m 10 #[.val (.ref a1), .val (.ref a2), .val (.int p3), .val (.int p4), .val (.int m4)] [(.ref a1), (.int p4)]))
        refine own_Fin.step (fun _ => XS.iload X0.here hx rfl (hb hby d4_10) rfl) ?_
        show own_Fin p e below s _ _ _ (s₁.setTop (mkF m 12 #[.val (.ref a1), .val (.ref a2), .val (.int p3), .val (.int p4), .val (.int m4)] [(.int m4), (.ref a1), (.int p4)]))
        refine own_Fin.step (own_ldFB X0 hx hZ e0 F (j := m4) (own_idx hm Hn (by have := hI.1; omega)) (g := (mkF m 12 #[.val (.ref a1), .val (.ref a2), .val (.int p3), .val (.int p4), .val (.int m4)] [(.int m4), (.ref a1), (.int p4)])) rfl rfl (hb hby d4_12)) ?_
        show own_Fin p e below s _ _ _ (s₁.setTop (mkF m 13 #[.val (.ref a1), .val (.ref a2), .val (.int p3), .val (.int p4), .val (.int m4)] [(.int (f (m4).toNatClampNeg)), (.int p4)]))
        by_cases hc13_3 : p4 = (f (m4).toNatClampNeg)
        ·
          refine own_Fin.step (fun _ => XS.icmpYes X0.here hx rfl (pc0 := 13) (pc' := 27) rfl (hb hby d4_13) rfl (XT.ii_eq_t hc13_3) (by decide) (by decide)) ?_
          exact out _ hm hI (Or.inr (by rw [← Hb]; exact hc13_3.symm))
        ·
          refine own_Fin.step (fun _ => XS.icmpNo X0.here hx rfl (hb hby d4_13) rfl (XT.ii_eq_f hc13_3)) ?_
          show own_Fin p e below s _ _ _ (s₁.setTop (mkF m 16 #[.val (.ref a1), .val (.ref a2), .val (.int p3), .val (.int p4), .val (.int m4)] []))
          refine own_Fin.step (fun _ => XS.aloadN X0.here hx rfl (hb hby d4_16) rfl rfl) ?_
          show own_Fin p e below s _ _ _ (s₁.setTop (mkF m 17 #[.val (.ref a1), .val (.ref a2), .val (.int p3), .val (.int p4), .val (.int m4)] [(.ref a2)]))
          refine own_Fin.step (fun _ => XS.iload X0.here hx rfl (hb hby d4_17) rfl) ?_
          show own_Fin p e below s _ _ _ (s₁.setTop (mkF m 19 #[.val (.ref a1), .val (.ref a2), .val (.int p3), .val (.int p4), .val (.int m4)] [(.int m4), (.ref a2)]))
          refine own_Fin.step (fun _ => XS.iconst X0.here hx rfl (hb hby d4_19)) ?_
          show own_Fin p e below s _ _ _ (s₁.setTop (mkF m 20 #[.val (.ref a1), .val (.ref a2), .val (.int p3), .val (.int p4), .val (.int m4)] [(.int (1 : Int32)), (.int m4), (.ref a2)]))
          refine own_Fin.step (fun _ => XS.isub X0.here hx rfl (hb hby d4_20) rfl) ?_
          show own_Fin p e below s _ _ _ (s₁.setTop (mkF m 21 #[.val (.ref a1), .val (.ref a2), .val (.int p3), .val (.int p4), .val (.int m4)] [(.int (m4 - (1 : Int32))), (.ref a2)]))
          refine own_Fin.step (own_ldFI X0 hx hZ e0 G (j := (m4 - (1 : Int32))) (own_idx (own_sub1 hc5_2).1 Hn (by rw [(own_sub1 hc5_2).2.1]; have := hI.1; omega)) (g := (mkF m 21 #[.val (.ref a1), .val (.ref a2), .val (.int p3), .val (.int p4), .val (.int m4)] [(.int (m4 - (1 : Int32))), (.ref a2)])) rfl rfl (hb hby d4_21)) ?_
          show own_Fin p e below s _ _ _ (s₁.setTop (mkF m 22 #[.val (.ref a1), .val (.ref a2), .val (.int p3), .val (.int p4), .val (.int m4)] [(.int (g ((m4 - (1 : Int32))).toNatClampNeg))]))
          have hm1 : (m4 - (1 : Int32)).toNatClampNeg = m4.toNatClampNeg - 1 := (own_sub1 hc5_2).2.1
          have hg := hT (m4 - (1 : Int32)).toNatClampNeg (by rw [hm1]; have := hI.1; omega)
          rw [hm1] at hg
          rw [hm1]
          refine own_Fin.step (fun _ => XS.istore X0.here hx rfl (hb hby d4_22) rfl (l' := #[.val (.ref a1), .val (.ref a2), .val (.int p3), .val (.int p4), .val (.int (g (m4.toNatClampNeg - 1)))]) rfl) ?_
          show own_Fin p e below s _ _ _ (s₁.setTop (mkF m 24 #[.val (.ref a1), .val (.ref a2), .val (.int p3), .val (.int p4), .val (.int (g (m4.toNatClampNeg - 1)))] []))
          refine own_Fin.step (fun _ => XS.goto X0.here hx rfl (pc0 := 24) (pc' := 3) rfl (hb hby d4_24) (by decide) (by decide)) ?_
          exact ih _ (by have := hg.2.1; have := (own_sub1 hc5_2).2.2; omega) hg.1 (hI.step (own_sub1 hc5_2).2.2 (fun q => hc13_3 (by rw [Hb, q])) hg.2)
      ·
        refine own_Fin.step (fun _ => XS.ifYes X0.here hx rfl (pc0 := 5) (pc' := 27) rfl (hb hby d4_5) rfl (XT.i0_le_t hc5_2) (by decide) (by decide)) ?_
        exact out _ hm hI (Or.inl (own_zero hm hc5_2))
  show own_Fin p e below s _ _ _ (s₁.setTop (mkF m 0 #[.val (.ref a1), .val (.ref a2), .val (.int p3), .val (.int p4), .unset] []))
  refine own_Fin.step (fun _ => XS.iloadN X0.here hx rfl (hb hby d4_0) rfl) ?_
  show own_Fin p e below s _ _ _ (s₁.setTop (mkF m 1 #[.val (.ref a1), .val (.ref a2), .val (.int p3), .val (.int p4), .unset] [(.int p3)]))
  refine own_Fin.step (fun _ => XS.istore X0.here hx rfl (hb hby d4_1) rfl (l' := #[.val (.ref a1), .val (.ref a2), .val (.int p3), .val (.int p4), .val (.int p3)]) rfl) ?_
  exact loop _ _ (Nat.le_refl _) Hm.1 (own_Inv.start Hi Hm.2)
theorem d5_0 : decode prog_13_method_2_code 0 = .ok (.aload_n 0, 1) := by decide +kernel
theorem d5_1 : decode prog_13_method_2_code 1 = .ok (.arraylength, 1) := by decide +kernel
theorem d5_2 : decode prog_13_method_2_code 2 = .ok (.newarray .int, 2) := by decide +kernel
theorem d5_4 : decode prog_13_method_2_code 4 = .ok (.astore_n 1, 1) := by decide +kernel
theorem d5_5 : decode prog_13_method_2_code 5 = .ok (.iconst 0, 1) := by decide +kernel
theorem d5_6 : decode prog_13_method_2_code 6 = .ok (.istore_n 2, 1) := by decide +kernel
theorem d5_7 : decode prog_13_method_2_code 7 = .ok (.iconst 1, 1) := by decide +kernel
theorem d5_8 : decode prog_13_method_2_code 8 = .ok (.istore_n 3, 1) := by decide +kernel
theorem d5_9 : decode prog_13_method_2_code 9 = .ok (.iload_n 3, 1) := by decide +kernel
theorem d5_10 : decode prog_13_method_2_code 10 = .ok (.aload_n 0, 1) := by decide +kernel
theorem d5_11 : decode prog_13_method_2_code 11 = .ok (.arraylength, 1) := by decide +kernel
theorem d5_12 : decode prog_13_method_2_code 12 = .ok (.if_icmp .ge 23, 3) := by decide +kernel
theorem d5_15 : decode prog_13_method_2_code 15 = .ok (.aload_n 0, 1) := by decide +kernel
theorem d5_16 : decode prog_13_method_2_code 16 = .ok (.aload_n 1, 1) := by decide +kernel
theorem d5_17 : decode prog_13_method_2_code 17 = .ok (.iload_n 2, 1) := by decide +kernel
theorem d5_18 : decode prog_13_method_2_code 18 = .ok (.aload_n 0, 1) := by decide +kernel
theorem d5_19 : decode prog_13_method_2_code 19 = .ok (.iload_n 3, 1) := by decide +kernel
theorem d5_20 : decode prog_13_method_2_code 20 = .ok (.baload, 1) := by decide +kernel
theorem d5_21 : decode prog_13_method_2_code 21 = .ok (.invokestatic 24, 3) := by decide +kernel
theorem d5_24 : decode prog_13_method_2_code 24 = .ok (.istore_n 2, 1) := by decide +kernel
theorem d5_25 : decode prog_13_method_2_code 25 = .ok (.aload_n 1, 1) := by decide +kernel
theorem d5_26 : decode prog_13_method_2_code 26 = .ok (.iload_n 3, 1) := by decide +kernel
theorem d5_27 : decode prog_13_method_2_code 27 = .ok (.iload_n 2, 1) := by decide +kernel
theorem d5_28 : decode prog_13_method_2_code 28 = .ok (.iastore, 1) := by decide +kernel
theorem d5_29 : decode prog_13_method_2_code 29 = .ok (.iinc 3 1, 3) := by decide +kernel
theorem d5_32 : decode prog_13_method_2_code 32 = .ok (.goto (-23), 3) := by decide +kernel
theorem d5_35 : decode prog_13_method_2_code 35 = .ok (.aload_n 1, 1) := by decide +kernel
theorem d5_36 : decode prog_13_method_2_code 36 = .ok (.areturn, 1) := by decide +kernel
theorem pn_5 : plainFor (⟨"com/example/needlewise/needlewise/KnuthMorrisPratt", "partialMatch", "([B)[I"⟩ : MethodName) = true := plainFor_of_name (by first | (simp [plainName, overriddenIn]; done) | decide +kernel)
theorem ef_5 (m : MethodId) (x0 : Addr) : entryFrame m #[(.ref x0)] 4 = mkF m 0 #[.val (.ref x0), .unset, .unset, .unset] [] := by first | (simp [entryFrame, mkF, argsToLocals, Value.category]; done) | rfl
theorem pd_1 : parseMethodDescriptor "([B[IIB)I" = some ⟨[(.array .byte), (.array .int), .int, .byte], some .int⟩ := by decide +kernel
set_option maxRecDepth 65536 in
set_option maxHeartbeats 40000000 in
theorem rm5 (l : Launch) (Z : State) (a0 : Array Value) (hw : ∀ d ∈ tables_1, d.before a0 Z = true) (a1 : Addr) (ka : ClassId) (n : Int32) (f : Nat → Int32) (h0 : Heap) (n0 : Nat) (Z0 : n0 ≤ h0.size) (F : own_Arf Z h0 a1 ka .byte n f) (Hn : ¬ n < 0 ∧ n.toNatClampNeg ≤ 6) :
    own_Met l Z [] (⟨"com/example/needlewise/needlewise/KnuthMorrisPratt", "partialMatch", "([B)[I"⟩ : MethodName) prog_13_method_2_code 4 (some (.array .int)) ({ frames := 1, cells := 1, slots := 6, locals := 16 } : Room) #[(.ref a1)] h0 (own_QT Z f n h0 n0) := by
  refine own_enter pn_5 ?_
  intro p e s m below meth c s₁ X0 hx hby hml hown hret hlk hnm hZ e0
  have hml : c.maxLocals = 4 := hml
  have N0 := Fr.nil n0
  rw [ef_5 m a1]
  show own_Fin p e below s _ _ _ (s₁.setTop (mkF m 0 #[.val (.ref a1), .unset, .unset, .unset] []))
  refine own_Fin.step (fun _ => XS.aloadN X0.here hx rfl (hb hby d5_0) rfl rfl) ?_
  show own_Fin p e below s _ _ _ (s₁.setTop (mkF m 1 #[.val (.ref a1), .unset, .unset, .unset] [(.ref a1)]))
  refine own_Fin.step (own_lenF X0 hx hZ e0 F (g := (mkF m 1 #[.val (.ref a1), .unset, .unset, .unset] [(.ref a1)])) rfl rfl (hb hby d5_1)) ?_
  show own_Fin p e below s _ _ _ (s₁.setTop (mkF m 2 #[.val (.ref a1), .unset, .unset, .unset] [(.int n)]))
  obtain ⟨T1, h1, k1, b1, X1, e1, E1, g1, V1, st1⟩ := own_newA X0 hx hZ (own_w hw 6 rfl) e0 (ty := .int) (dv := (.int (0 : Int32))) rfl rfl (g := (mkF m 2 #[.val (.ref a1), .unset, .unset, .unset] [(.int n)])) rfl (hb hby d5_2) rfl Hn.1 (cap := 6) Hn.2 (by decide) (by decide) (by decide) (0)
  have ne2 : a1 ≠ b1 := Nat.ne_of_lt (Nat.lt_of_lt_of_eq F.lt g1.symm)
  have ge3 : n0 ≤ b1 := Nat.le_trans Z0 (Nat.le_of_eq g1.symm)
  have f4 := F.ext E1
  have sz1 : h0.size ≤ b1 := Nat.le_trans (Keep.refl h0 []).1 (Nat.le_of_eq g1.symm)
  have Z1 : n0 ≤ h1.size := Nat.le_trans Z0 E1.1
  have K5 : Keep h0 h1 [] := (Keep.refl h0 []).ext E1
  have V1' : Arv Z h1 b1 k1 .int n (List.replicate (0) (.int (0 : Int32))) (.int (0 : Int32)) := V1
  refine own_Fin.step st1 ?_
  show own_Fin p e below s _ _ _ (T1.setTop (mkF m 4 #[.val (.ref a1), .unset, .unset, .unset] [(.ref b1)]))
  have Vf6 := own_Arf.of (N := 0) V1'
  refine own_Fin.step (fun _ => XS.astoreN X1.here hx rfl (hb hby d5_4) rfl rfl (l' := #[.val (.ref a1), .val (.ref b1), .unset, .unset]) rfl) ?_
  show own_Fin p e below s _ _ _ (T1.setTop (mkF m 5 #[.val (.ref a1), .val (.ref b1), .unset, .unset] []))
  have loop : ∀ (t : Nat) (i m2 : Int32) (g : Nat → Int32) (TJ : State) (hJ : Heap) (LJ : List Loc), Stand p l e ({ frames := 1, cells := 1, slots := 6, locals := 16 } : Room) s m #[(.ref a1)] below meth c TJ LJ 1 6 → Fr n0 LJ → TJ.heap = hJ → n0 ≤ hJ.size → Keep h0 hJ [] → own_Arf Z hJ a1 ka .byte n f → own_Arf Z hJ b1 k1 .int n g → ¬ i < 0 → 1 ≤ i.toNatClampNeg → i.toNatClampNeg + t = n.toNatClampNeg ∨ (t = 0 ∧ n.toNatClampNeg ≤ i.toNatClampNeg) → own_T f g i.toNatClampNeg → (¬ m2 < 0 ∧ own_Max f (i.toNatClampNeg - 1) m2.toNatClampNeg) → own_Fin p e below s (own_QT Z f n h0 n0) ({ frames := 1, cells := 1, slots := 6, locals := 16 } : Room).cells ({ frames := 1, cells := 1, slots := 6, locals := 16 } : Room).slots (TJ.setTop (mkF m 9 #[.val (.ref a1), .val (.ref b1), .val (.int m2), .val (.int i)] [])) := by
    intro t
    induction t with
    | zero =>
      intro i m2 g TJ hJ LJ XJ NJ eJ ZJ KJ FJ GJ hi hi1 ht hT Hm
      show own_Fin p e below s _ _ _ (TJ.setTop (mkF m 9 #[.val (.ref a1), .val (.ref b1), .val (.int m2), .val (.int i)] []))
      refine own_Fin.step (fun _ => XS.iloadN XJ.here hx rfl (hb hby d5_9) rfl) ?_
      show own_Fin p e below s _ _ _ (TJ.setTop (mkF m 10 #[.val (.ref a1), .val (.ref b1), .val (.int m2), .val (.int i)] [(.int i)]))
      refine own_Fin.step (fun _ => XS.aloadN XJ.here hx rfl (hb hby d5_10) rfl rfl) ?_
      show own_Fin p e below s _ _ _ (TJ.setTop (mkF m 11 #[.val (.ref a1), .val (.ref b1), .val (.int m2), .val (.int i)] [(.ref a1), (.int i)]))
      refine own_Fin.step (own_lenF XJ hx hZ eJ FJ (g := (mkF m 11 #[.val (.ref a1), .val (.ref b1), .val (.int m2), .val (.int i)] [(.ref a1), (.int i)])) rfl rfl (hb hby d5_11)) ?_
      show own_Fin p e below s _ _ _ (TJ.setTop (mkF m 12 #[.val (.ref a1), .val (.ref b1), .val (.int m2), .val (.int i)] [(.int n), (.int i)]))
      refine own_Fin.step (fun _ => XS.icmpYes XJ.here hx rfl (pc0 := 12) (pc' := 35) rfl (hb hby d5_12) rfl (XT.ii_ge_t (fun q => by
          rw [Int32.lt_iff_toInt_lt, nat_of hi, nat_of Hn.1] at q; omega)) (by decide) (by decide)) ?_
      show own_Fin p e below s _ _ _ (TJ.setTop (mkF m 35 #[.val (.ref a1), .val (.ref b1), .val (.int m2), .val (.int i)] []))
      refine own_Fin.step (fun _ => XS.aloadN XJ.here hx rfl (hb hby d5_35) rfl rfl) ?_
      show own_Fin p e below s _ _ _ (TJ.setTop (mkF m 36 #[.val (.ref a1), .val (.ref b1), .val (.int m2), .val (.int i)] [(.ref b1)]))
      exact own_retR XJ hx hlk rfl hret rfl (hb hby d5_36) (by rw [eJ]; exact ⟨_, _, _, rfl, NJ, KJ, sz1, GJ, fun j hj => hT j (by omega)⟩) (by decide) (by decide)
    | succ t ih =>
      intro i m2 g TJ hJ LJ XJ NJ eJ ZJ KJ FJ GJ hi hi1 ht hT Hm
      have hin : i.toNatClampNeg < n.toNatClampNeg := by omega
      show own_Fin p e below s _ _ _ (TJ.setTop (mkF m 9 #[.val (.ref a1), .val (.ref b1), .val (.int m2), .val (.int i)] []))
      refine own_Fin.step (fun _ => XS.iloadN XJ.here hx rfl (hb hby d5_9) rfl) ?_
      show own_Fin p e below s _ _ _ (TJ.setTop (mkF m 10 #[.val (.ref a1), .val (.ref b1), .val (.int m2), .val (.int i)] [(.int i)]))
      refine own_Fin.step (fun _ => XS.aloadN XJ.here hx rfl (hb hby d5_10) rfl rfl) ?_
      show own_Fin p e below s _ _ _ (TJ.setTop (mkF m 11 #[.val (.ref a1), .val (.ref b1), .val (.int m2), .val (.int i)] [(.ref a1), (.int i)]))
      refine own_Fin.step (own_lenF XJ hx hZ eJ FJ (g := (mkF m 11 #[.val (.ref a1), .val (.ref b1), .val (.int m2), .val (.int i)] [(.ref a1), (.int i)])) rfl rfl (hb hby d5_11)) ?_
      show own_Fin p e below s _ _ _ (TJ.setTop (mkF m 12 #[.val (.ref a1), .val (.ref b1), .val (.int m2), .val (.int i)] [(.int n), (.int i)]))
      refine own_Fin.step (fun _ => XS.icmpNo XJ.here hx rfl (hb hby d5_12) rfl (XT.ii_ge_f (own_idx hi Hn.1 hin).2)) ?_
      show own_Fin p e below s _ _ _ (TJ.setTop (mkF m 15 #[.val (.ref a1), .val (.ref b1), .val (.int m2), .val (.int i)] []))
      refine own_Fin.step (fun _ => XS.aloadN XJ.here hx rfl (hb hby d5_15) rfl rfl) ?_
      show own_Fin p e below s _ _ _ (TJ.setTop (mkF m 16 #[.val (.ref a1), .val (.ref b1), .val (.int m2), .val (.int i)] [(.ref a1)]))
      refine own_Fin.step (fun _ => XS.aloadN XJ.here hx rfl (hb hby d5_16) rfl rfl) ?_
      show own_Fin p e below s _ _ _ (TJ.setTop (mkF m 17 #[.val (.ref a1), .val (.ref b1), .val (.int m2), .val (.int i)] [(.ref b1), (.ref a1)]))
      refine own_Fin.step (fun _ => XS.iloadN XJ.here hx rfl (hb hby d5_17) rfl) ?_
      show own_Fin p e below s _ _ _ (TJ.setTop (mkF m 18 #[.val (.ref a1), .val (.ref b1), .val (.int m2), .val (.int i)] [(.int m2), (.ref b1), (.ref a1)]))
      refine own_Fin.step (fun _ => XS.aloadN XJ.here hx rfl (hb hby d5_18) rfl rfl) ?_
      show own_Fin p e below s _ _ _ (TJ.setTop (mkF m 19 #[.val (.ref a1), .val (.ref b1), .val (.int m2), .val (.int i)] [(.ref a1), (.int m2), (.ref b1), (.ref a1)]))
      refine own_Fin.step (fun _ => XS.iloadN XJ.here hx rfl (hb hby d5_19) rfl) ?_
      show own_Fin p e below s _ _ _ (TJ.setTop (mkF m 20 #[.val (.ref a1), .val (.ref b1), .val (.int m2), .val (.int i)] [(.int i), (.ref a1), (.int m2), (.ref b1), (.ref a1)]))
      refine own_Fin.step (own_ldFB XJ hx hZ eJ FJ (j := i) (own_idx hi Hn.1 hin) (g := (mkF m 20 #[.val (.ref a1), .val (.ref b1), .val (.int m2), .val (.int i)] [(.int i), (.ref a1), (.int m2), (.ref b1), (.ref a1)])) rfl rfl (hb hby d5_20)) ?_
      show own_Fin p e below s _ _ _ (TJ.setTop (mkF m 21 #[.val (.ref a1), .val (.ref b1), .val (.int m2), .val (.int i)] [(.int (f (i).toNatClampNeg)), (.int m2), (.ref b1), (.ref a1)]))
      obtain ⟨_, T7, L7, X7, ⟨z7, rfl, N7q, e7, hz7⟩, st7⟩ := own_callS XJ hx hZ hown (own_w hw 11 rfl) (own_w hw 12 rfl) (own_w hw 4 rfl) (own_w hw 13 rfl) (by decide) (rm4 l Z a0 hw a1 b1 m2 (f (i).toNatClampNeg) ka k1 n f g i.toNatClampNeg hJ n0 ZJ FJ GJ Hn.1 hi1 hin hT Hm rfl) (by decide) (by decide) eJ (W := 0) (g := (mkF m 21 #[.val (.ref a1), .val (.ref b1), .val (.int m2), .val (.int i)] [(.int (f (i).toNatClampNeg)), (.int m2), (.ref b1), (.ref a1)])) rfl (by rw [hml]; rfl) (argsL := [(.ref a1), (.ref b1), (.int m2), (.int (f (i).toNatClampNeg))]) (rest := []) (lenOf pd_1 rfl) rfl rfl (by show 2 * 0 + _ ≤ _; exact Nat.le_of_eq rfl) (hb hby d5_21) (by decide) (by decide)
      have N7 := Fr.app NJ N7q
      refine own_Fin.step st7 ?_
      show own_Fin p e below s _ _ _ (T7.setTop (mkF m 24 #[.val (.ref a1), .val (.ref b1), .val (.int m2), .val (.int i)] [(.int z7)]))
      refine own_Fin.step (fun _ => XS.istoreN X7.here hx rfl (hb hby d5_24) rfl (l' := #[.val (.ref a1), .val (.ref b1), .val (.int z7), .val (.int i)]) rfl) ?_
      show own_Fin p e below s _ _ _ (T7.setTop (mkF m 25 #[.val (.ref a1), .val (.ref b1), .val (.int z7), .val (.int i)] []))
      refine own_Fin.step (fun _ => XS.aloadN X7.here hx rfl (hb hby d5_25) rfl rfl) ?_
      show own_Fin p e below s _ _ _ (T7.setTop (mkF m 26 #[.val (.ref a1), .val (.ref b1), .val (.int z7), .val (.int i)] [(.ref b1)]))
      refine own_Fin.step (fun _ => XS.iloadN X7.here hx rfl (hb hby d5_26) rfl) ?_
      show own_Fin p e below s _ _ _ (T7.setTop (mkF m 27 #[.val (.ref a1), .val (.ref b1), .val (.int z7), .val (.int i)] [(.int i), (.ref b1)]))
      refine own_Fin.step (fun _ => XS.iloadN X7.here hx rfl (hb hby d5_27) rfl) ?_
      show own_Fin p e below s _ _ _ (T7.setTop (mkF m 28 #[.val (.ref a1), .val (.ref b1), .val (.int z7), .val (.int i)] [(.int z7), (.int i), (.ref b1)]))
      obtain ⟨T8, h8, X8, e8, V8, W8, st8⟩ := own_stFI X7 hx hZ e7 GJ (j := i) (own_idx hi Hn.1 hin) (g := (mkF m 28 #[.val (.ref a1), .val (.ref b1), .val (.int z7), .val (.int i)] [(.int z7), (.int i), (.ref b1)])) rfl rfl (hb hby d5_28)
      have f9 := FJ.other W8 ne2
      have N8 := Fr.snoc X8 N7 ge3
      have Z8 : n0 ≤ h8.size := Nat.le_trans ZJ (Nat.le_of_eq W8.size.symm)
      have K11 : Keep h0 h8 [] := KJ.wr W8 (Or.inr sz1)
      refine own_Fin.step st8 ?_
      show own_Fin p e below s _ _ _ (T8.setTop (mkF m 29 #[.val (.ref a1), .val (.ref b1), .val (.int z7), .val (.int i)] []))
      refine own_Fin.step (fun _ => XS.iinc X8.here hx rfl (hb hby d5_29) rfl (l' := #[.val (.ref a1), .val (.ref b1), .val (.int z7), .val (.int (i + (1 : Int32)))]) rfl) ?_
      show own_Fin p e below s _ _ _ (T8.setTop (mkF m 32 #[.val (.ref a1), .val (.ref b1), .val (.int z7), .val (.int (i + (1 : Int32)))] []))
      refine own_Fin.step (fun _ => XS.goto X8.here hx rfl (pc0 := 32) (pc' := 9) rfl (hb hby d5_32) (by decide) (by decide)) ?_
      have q1 := own_add1 hi hin
      exact ih _ _ _ _ _ _ X8 N8 e8 Z8 K11 f9 V8 q1.1 (by omega) (by omega) (by rw [q1.2]; exact hT.upd hz7) (by rw [q1.2]; exact hz7)
  refine own_Fin.step (fun _ => XS.iconst X1.here hx rfl (hb hby d5_5)) ?_
  show own_Fin p e below s _ _ _ (T1.setTop (mkF m 6 #[.val (.ref a1), .val (.ref b1), .unset, .unset] [(.int (0 : Int32))]))
  refine own_Fin.step (fun _ => XS.istoreN X1.here hx rfl (hb hby d5_6) rfl (l' := #[.val (.ref a1), .val (.ref b1), .val (.int (0 : Int32)), .unset]) rfl) ?_
  show own_Fin p e below s _ _ _ (T1.setTop (mkF m 7 #[.val (.ref a1), .val (.ref b1), .val (.int (0 : Int32)), .unset] []))
  refine own_Fin.step (fun _ => XS.iconst X1.here hx rfl (hb hby d5_7)) ?_
  show own_Fin p e below s _ _ _ (T1.setTop (mkF m 8 #[.val (.ref a1), .val (.ref b1), .val (.int (0 : Int32)), .unset] [(.int (1 : Int32))]))
  refine own_Fin.step (fun _ => XS.istoreN X1.here hx rfl (hb hby d5_8) rfl (l' := #[.val (.ref a1), .val (.ref b1), .val (.int (0 : Int32)), .val (.int (1 : Int32))]) rfl) ?_
  exact loop (n.toNatClampNeg - 1) _ _ _ _ _ _ X1 N0 e1 Z1 K5 f4 Vf6 (by decide) (by decide) (by show 1 + _ = _ ∨ _ ∧ _ ≤ 1; omega) own_T.one ⟨by decide, own_Max0⟩
theorem pn_0 : plainFor (⟨"com/example/needlewise/needlewise/KnuthMorrisPrattPartialMatchPinLaw", "law", "(IIIII)Z"⟩ : MethodName) = true := plainFor_of_name (by first | (simp [plainName, overriddenIn]; done) | decide +kernel)
theorem ef_0 (m : MethodId) (x0 : Int32) (x1 : Int32) (x2 : Int32) (x3 : Int32) (x4 : Int32) : entryFrame m #[(.int x0), (.int x1), (.int x2), (.int x3), (.int x4)] maxLocals = mkF m 0 #[.val (.int x0), .val (.int x1), .val (.int x2), .val (.int x3), .val (.int x4), .unset, .unset, .unset, .unset] [] := by first | (simp [entryFrame, mkF, argsToLocals, Value.category, maxLocals]; done) | rfl
theorem pd_2 : parseMethodDescriptor "([B)[I" = some ⟨[(.array .byte)], some (.array .int)⟩ := by decide +kernel
theorem pd_3 : parseMethodDescriptor "(IIIII)B" = some ⟨[.int, .int, .int, .int, .int], some .byte⟩ := by decide +kernel
theorem pd_4 : parseMethodDescriptor "([BI)I" = some ⟨[(.array .byte), .int], some .int⟩ := by decide +kernel
set_option maxRecDepth 65536 in
set_option maxHeartbeats 40000000 in
theorem rm0 (l : Launch) (Z : State) (a0 : Array Value) (hw : ∀ d ∈ tables_1, d.before a0 Z = true) (p1 : Int32) (p2 : Int32) (p3 : Int32) (p4 : Int32) (p5 : Int32)  (h0 : Heap) (n0 : Nat) (Z0 : n0 ≤ h0.size)  :
    own_Met l Z tables_1 x code maxLocals ret room_1 #[(.int p1), (.int p2), (.int p3), (.int p4), (.int p5)] h0 (own_Q0 n0) := by
  refine own_enter pn_0 ?_
  intro p e s m below meth c s₁ X0 hx hby hml hown hret hlk hnm hZ e0
  have hml : c.maxLocals = 9 := hml
  have N0 := Fr.nil n0
  rw [ef_0 m p1 p2 p3 p4 p5]
  show own_Fin p e below s _ _ _ (s₁.setTop (mkF m 0 #[.val (.int p1), .val (.int p2), .val (.int p3), .val (.int p4), .val (.int p5), .unset, .unset, .unset, .unset] []))
  refine own_Fin.step (fun _ => XS.iloadN X0.here hx rfl (hb hby at_0) rfl) ?_
  show own_Fin p e below s _ _ _ (s₁.setTop (mkF m 1 #[.val (.int p1), .val (.int p2), .val (.int p3), .val (.int p4), .val (.int p5), .unset, .unset, .unset, .unset] [(.int p1)]))
  refine own_Fin.step (X0.ldcInt hx hown (mvT hZ (own_w hw 0 rfl)) (g := (mkF m 1 #[.val (.int p1), .val (.int p2), .val (.int p3), .val (.int p4), .val (.int p5), .unset, .unset, .unset, .unset] [(.int p1)])) rfl (hb hby at_1)) ?_
  show own_Fin p e below s _ _ _ (s₁.setTop (mkF m 3 #[.val (.int p1), .val (.int p2), .val (.int p3), .val (.int p4), .val (.int p5), .unset, .unset, .unset, .unset] [(.int (2147483647 : Int32)), (.int p1)]))
  refine own_Fin.step (fun _ => XS.iand X0.here hx rfl (hb hby at_3) rfl) ?_
  show own_Fin p e below s _ _ _ (s₁.setTop (mkF m 4 #[.val (.int p1), .val (.int p2), .val (.int p3), .val (.int p4), .val (.int p5), .unset, .unset, .unset, .unset] [(.int (p1 &&& (2147483647 : Int32)))]))
  refine own_Fin.step (fun _ => XS.bipush X0.here hx rfl (hb hby at_4)) ?_
  show own_Fin p e below s _ _ _ (s₁.setTop (mkF m 6 #[.val (.int p1), .val (.int p2), .val (.int p3), .val (.int p4), .val (.int p5), .unset, .unset, .unset, .unset] [(.int (7 : Int32)), (.int (p1 &&& (2147483647 : Int32)))]))
  refine own_Fin.step (fun _ => Jvm.RoadKit.iremM X0 hx rfl (hb hby at_6) rfl (by decide)) ?_
  show own_Fin p e below s _ _ _ (s₁.setTop (mkF m 7 #[.val (.int p1), .val (.int p2), .val (.int p3), .val (.int p4), .val (.int p5), .unset, .unset, .unset, .unset] [(.int ((p1 &&& (2147483647 : Int32)) % (7 : Int32)))]))
  generalize hn : ((p1 &&& (2147483647 : Int32)) % (7 : Int32)) = n
  rcases (hn ▸ own_n7 p1 : n = 0 ∨ n = 1 ∨ n = 2 ∨ n = 3 ∨ n = 4 ∨ n = 5 ∨ n = 6) with rfl | rfl | rfl | rfl | rfl | rfl | rfl
  ·
    show own_Fin p e below s _ _ _ (s₁.setTop (mkF m 7 #[.val (.int p1), .val (.int p2), .val (.int p3), .val (.int p4), .val (.int p5), .unset, .unset, .unset, .unset] [(.int (0 : Int32))]))
    refine own_Fin.step (fun _ => XS.istore X0.here hx rfl (hb hby at_7) rfl (l' := #[.val (.int p1), .val (.int p2), .val (.int p3), .val (.int p4), .val (.int p5), .val (.int (0 : Int32)), .unset, .unset, .unset]) rfl) ?_
    show own_Fin p e below s _ _ _ (s₁.setTop (mkF m 9 #[.val (.int p1), .val (.int p2), .val (.int p3), .val (.int p4), .val (.int p5), .val (.int (0 : Int32)), .unset, .unset, .unset] []))
    refine own_Fin.step (fun _ => XS.iload X0.here hx rfl (hb hby at_9) rfl) ?_
    show own_Fin p e below s _ _ _ (s₁.setTop (mkF m 11 #[.val (.int p1), .val (.int p2), .val (.int p3), .val (.int p4), .val (.int p5), .val (.int (0 : Int32)), .unset, .unset, .unset] [(.int (0 : Int32))]))
    obtain ⟨T1, h1, k1, b1, X1, e1, E1, g1, V1, st1⟩ := own_newA X0 hx hZ (own_w hw 1 rfl) e0 (ty := .byte) (dv := (.int (0 : Int32))) rfl rfl (g := (mkF m 11 #[.val (.int p1), .val (.int p2), .val (.int p3), .val (.int p4), .val (.int p5), .val (.int (0 : Int32)), .unset, .unset, .unset] [(.int (0 : Int32))])) rfl (hb hby at_11) rfl (by decide) (cap := 0) (by decide) (by decide) (by decide) (by decide) (0)
    have ge2 : n0 ≤ b1 := Nat.le_trans Z0 (Nat.le_of_eq g1.symm)
    have Z1 : n0 ≤ h1.size := Nat.le_trans Z0 E1.1
    have V1' : Arv Z h1 b1 k1 .byte (0 : Int32) [] (.int (0 : Int32)) := V1
    refine own_Fin.step st1 ?_
    show own_Fin p e below s _ _ _ (T1.setTop (mkF m 13 #[.val (.int p1), .val (.int p2), .val (.int p3), .val (.int p4), .val (.int p5), .val (.int (0 : Int32)), .unset, .unset, .unset] [(.ref b1)]))
    have Vf3 := own_Arf.of (N := 0) V1'
    refine own_Fin.step (fun _ => XS.astore X1.here hx rfl (hb hby at_13) rfl rfl (l' := #[.val (.int p1), .val (.int p2), .val (.int p3), .val (.int p4), .val (.int p5), .val (.int (0 : Int32)), .val (.ref b1), .unset, .unset]) rfl) ?_
    show own_Fin p e below s _ _ _ (T1.setTop (mkF m 15 #[.val (.int p1), .val (.int p2), .val (.int p3), .val (.int p4), .val (.int p5), .val (.int (0 : Int32)), .val (.ref b1), .unset, .unset] []))
    refine own_Fin.step (fun _ => XS.iload X1.here hx rfl (hb hby at_15) rfl) ?_
    show own_Fin p e below s _ _ _ (T1.setTop (mkF m 17 #[.val (.int p1), .val (.int p2), .val (.int p3), .val (.int p4), .val (.int p5), .val (.int (0 : Int32)), .val (.ref b1), .unset, .unset] [(.int (0 : Int32))]))
    refine own_Fin.step (fun _ => XS.ifYes X1.here hx rfl (pc0 := 17) (pc' := 33) rfl (hb hby at_17) rfl (XT.i0_le_t (by decide : ¬ ((0 : Int32) < (0 : Int32)))) (by decide) (by decide)) ?_
    show own_Fin p e below s _ _ _ (T1.setTop (mkF m 33 #[.val (.int p1), .val (.int p2), .val (.int p3), .val (.int p4), .val (.int p5), .val (.int (0 : Int32)), .val (.ref b1), .unset, .unset] []))
    refine own_Fin.step (fun _ => XS.iload X1.here hx rfl (hb hby at_33) rfl) ?_
    show own_Fin p e below s _ _ _ (T1.setTop (mkF m 35 #[.val (.int p1), .val (.int p2), .val (.int p3), .val (.int p4), .val (.int p5), .val (.int (0 : Int32)), .val (.ref b1), .unset, .unset] [(.int (0 : Int32))]))
    refine own_Fin.step (fun _ => XS.iconst X1.here hx rfl (hb hby at_35)) ?_
    show own_Fin p e below s _ _ _ (T1.setTop (mkF m 36 #[.val (.int p1), .val (.int p2), .val (.int p3), .val (.int p4), .val (.int p5), .val (.int (0 : Int32)), .val (.ref b1), .unset, .unset] [(.int (1 : Int32)), (.int (0 : Int32))]))
    refine own_Fin.step (fun _ => XS.icmpYes X1.here hx rfl (pc0 := 36) (pc' := 52) rfl (hb hby at_36) rfl (XT.ii_le_t (by decide : ¬ ((1 : Int32) < (0 : Int32)))) (by decide) (by decide)) ?_
    show own_Fin p e below s _ _ _ (T1.setTop (mkF m 52 #[.val (.int p1), .val (.int p2), .val (.int p3), .val (.int p4), .val (.int p5), .val (.int (0 : Int32)), .val (.ref b1), .unset, .unset] []))
    refine own_Fin.step (fun _ => XS.iload X1.here hx rfl (hb hby at_52) rfl) ?_
    show own_Fin p e below s _ _ _ (T1.setTop (mkF m 54 #[.val (.int p1), .val (.int p2), .val (.int p3), .val (.int p4), .val (.int p5), .val (.int (0 : Int32)), .val (.ref b1), .unset, .unset] [(.int (0 : Int32))]))
    refine own_Fin.step (fun _ => XS.iconst X1.here hx rfl (hb hby at_54)) ?_
    show own_Fin p e below s _ _ _ (T1.setTop (mkF m 55 #[.val (.int p1), .val (.int p2), .val (.int p3), .val (.int p4), .val (.int p5), .val (.int (0 : Int32)), .val (.ref b1), .unset, .unset] [(.int (2 : Int32)), (.int (0 : Int32))]))
    refine own_Fin.step (fun _ => XS.icmpYes X1.here hx rfl (pc0 := 55) (pc' := 71) rfl (hb hby at_55) rfl (XT.ii_le_t (by decide : ¬ ((2 : Int32) < (0 : Int32)))) (by decide) (by decide)) ?_
    show own_Fin p e below s _ _ _ (T1.setTop (mkF m 71 #[.val (.int p1), .val (.int p2), .val (.int p3), .val (.int p4), .val (.int p5), .val (.int (0 : Int32)), .val (.ref b1), .unset, .unset] []))
    refine own_Fin.step (fun _ => XS.iload X1.here hx rfl (hb hby at_71) rfl) ?_
    show own_Fin p e below s _ _ _ (T1.setTop (mkF m 73 #[.val (.int p1), .val (.int p2), .val (.int p3), .val (.int p4), .val (.int p5), .val (.int (0 : Int32)), .val (.ref b1), .unset, .unset] [(.int (0 : Int32))]))
    refine own_Fin.step (fun _ => XS.iconst X1.here hx rfl (hb hby at_73)) ?_
    show own_Fin p e below s _ _ _ (T1.setTop (mkF m 74 #[.val (.int p1), .val (.int p2), .val (.int p3), .val (.int p4), .val (.int p5), .val (.int (0 : Int32)), .val (.ref b1), .unset, .unset] [(.int (3 : Int32)), (.int (0 : Int32))]))
    refine own_Fin.step (fun _ => XS.icmpYes X1.here hx rfl (pc0 := 74) (pc' := 90) rfl (hb hby at_74) rfl (XT.ii_le_t (by decide : ¬ ((3 : Int32) < (0 : Int32)))) (by decide) (by decide)) ?_
    show own_Fin p e below s _ _ _ (T1.setTop (mkF m 90 #[.val (.int p1), .val (.int p2), .val (.int p3), .val (.int p4), .val (.int p5), .val (.int (0 : Int32)), .val (.ref b1), .unset, .unset] []))
    refine own_Fin.step (fun _ => XS.iload X1.here hx rfl (hb hby at_90) rfl) ?_
    show own_Fin p e below s _ _ _ (T1.setTop (mkF m 92 #[.val (.int p1), .val (.int p2), .val (.int p3), .val (.int p4), .val (.int p5), .val (.int (0 : Int32)), .val (.ref b1), .unset, .unset] [(.int (0 : Int32))]))
    refine own_Fin.step (fun _ => XS.iconst X1.here hx rfl (hb hby at_92)) ?_
    show own_Fin p e below s _ _ _ (T1.setTop (mkF m 93 #[.val (.int p1), .val (.int p2), .val (.int p3), .val (.int p4), .val (.int p5), .val (.int (0 : Int32)), .val (.ref b1), .unset, .unset] [(.int (4 : Int32)), (.int (0 : Int32))]))
    refine own_Fin.step (fun _ => XS.icmpYes X1.here hx rfl (pc0 := 93) (pc' := 109) rfl (hb hby at_93) rfl (XT.ii_le_t (by decide : ¬ ((4 : Int32) < (0 : Int32)))) (by decide) (by decide)) ?_
    show own_Fin p e below s _ _ _ (T1.setTop (mkF m 109 #[.val (.int p1), .val (.int p2), .val (.int p3), .val (.int p4), .val (.int p5), .val (.int (0 : Int32)), .val (.ref b1), .unset, .unset] []))
    refine own_Fin.step (fun _ => XS.iload X1.here hx rfl (hb hby at_109) rfl) ?_
    show own_Fin p e below s _ _ _ (T1.setTop (mkF m 111 #[.val (.int p1), .val (.int p2), .val (.int p3), .val (.int p4), .val (.int p5), .val (.int (0 : Int32)), .val (.ref b1), .unset, .unset] [(.int (0 : Int32))]))
    refine own_Fin.step (fun _ => XS.iconst X1.here hx rfl (hb hby at_111)) ?_
    show own_Fin p e below s _ _ _ (T1.setTop (mkF m 112 #[.val (.int p1), .val (.int p2), .val (.int p3), .val (.int p4), .val (.int p5), .val (.int (0 : Int32)), .val (.ref b1), .unset, .unset] [(.int (5 : Int32)), (.int (0 : Int32))]))
    refine own_Fin.step (fun _ => XS.icmpYes X1.here hx rfl (pc0 := 112) (pc' := 128) rfl (hb hby at_112) rfl (XT.ii_le_t (by decide : ¬ ((5 : Int32) < (0 : Int32)))) (by decide) (by decide)) ?_
    show own_Fin p e below s _ _ _ (T1.setTop (mkF m 128 #[.val (.int p1), .val (.int p2), .val (.int p3), .val (.int p4), .val (.int p5), .val (.int (0 : Int32)), .val (.ref b1), .unset, .unset] []))
    obtain ⟨f, hf⟩ : ∃ z : Nat → Int32, z = (fun _ => (0 : Int32)) := ⟨_, rfl⟩
    rw [← hf] at Vf3
    refine own_Fin.step (fun _ => XS.aload X1.here hx rfl (hb hby at_128) rfl rfl) ?_
    show own_Fin p e below s _ _ _ (T1.setTop (mkF m 130 #[.val (.int p1), .val (.int p2), .val (.int p3), .val (.int p4), .val (.int p5), .val (.int (0 : Int32)), .val (.ref b1), .unset, .unset] [(.ref b1)]))
    obtain ⟨_, T4, L4, X4, ⟨r4, kt4, gt4, rfl, N4q, K4, sz4, V4, hT4⟩, st4⟩ := own_callS X1 hx hZ hown (own_w hw 2 rfl) (own_w hw 3 rfl) (own_w hw 4 rfl) (own_w hw 5 rfl) (by decide) (rm5 l Z a0 hw b1 k1 (0 : Int32) f h1 n0 Z1 Vf3 (by decide)) (by decide) (by decide) e1 (W := 0) (g := (mkF m 130 #[.val (.int p1), .val (.int p2), .val (.int p3), .val (.int p4), .val (.int p5), .val (.int (0 : Int32)), .val (.ref b1), .unset, .unset] [(.ref b1)])) rfl (by rw [hml]; rfl) (argsL := [(.ref b1)]) (rest := []) (lenOf pd_2 rfl) rfl rfl (by show 2 * 0 + _ ≤ _; exact Nat.le_of_eq rfl) (hb hby at_130) (by decide) (by decide)
    have N4 := Fr.app N0 N4q
    have ne5 : b1 ≠ r4 := Nat.ne_of_lt (Nat.lt_of_lt_of_le Vf3.lt sz4)
    have ge6 : n0 ≤ r4 := Nat.le_trans Z1 sz4
    have f7 := Vf3.keep K4 nin0
    have Z4 : n0 ≤ T4.heap.size := Nat.le_trans Z1 K4.1
    refine own_Fin.step st4 ?_
    show own_Fin p e below s _ _ _ (T4.setTop (mkF m 133 #[.val (.int p1), .val (.int p2), .val (.int p3), .val (.int p4), .val (.int p5), .val (.int (0 : Int32)), .val (.ref b1), .unset, .unset] [(.ref r4)]))
    refine own_Fin.step (fun _ => XS.astore X4.here hx rfl (hb hby at_133) rfl rfl (l' := #[.val (.int p1), .val (.int p2), .val (.int p3), .val (.int p4), .val (.int p5), .val (.int (0 : Int32)), .val (.ref b1), .val (.ref r4), .unset]) rfl) ?_
    show own_Fin p e below s _ _ _ (T4.setTop (mkF m 135 #[.val (.int p1), .val (.int p2), .val (.int p3), .val (.int p4), .val (.int p5), .val (.int (0 : Int32)), .val (.ref b1), .val (.ref r4), .unset] []))
    refine own_Fin.step (fun _ => XS.aload X4.here hx rfl (hb hby at_135) rfl rfl) ?_
    show own_Fin p e below s _ _ _ (T4.setTop (mkF m 137 #[.val (.int p1), .val (.int p2), .val (.int p3), .val (.int p4), .val (.int p5), .val (.int (0 : Int32)), .val (.ref b1), .val (.ref r4), .unset] [(.ref r4)]))
    refine own_Fin.step (fun _ => XS.ifnullNo X4.here hx rfl (hb hby at_137) rfl) ?_
    show own_Fin p e below s _ _ _ (T4.setTop (mkF m 140 #[.val (.int p1), .val (.int p2), .val (.int p3), .val (.int p4), .val (.int p5), .val (.int (0 : Int32)), .val (.ref b1), .val (.ref r4), .unset] []))
    refine own_Fin.step (fun _ => XS.aload X4.here hx rfl (hb hby at_140) rfl rfl) ?_
    show own_Fin p e below s _ _ _ (T4.setTop (mkF m 142 #[.val (.int p1), .val (.int p2), .val (.int p3), .val (.int p4), .val (.int p5), .val (.int (0 : Int32)), .val (.ref b1), .val (.ref r4), .unset] [(.ref r4)]))
    refine own_Fin.step (own_lenF X4 hx hZ rfl V4 (g := (mkF m 142 #[.val (.int p1), .val (.int p2), .val (.int p3), .val (.int p4), .val (.int p5), .val (.int (0 : Int32)), .val (.ref b1), .val (.ref r4), .unset] [(.ref r4)])) rfl rfl (hb hby at_142)) ?_
    show own_Fin p e below s _ _ _ (T4.setTop (mkF m 143 #[.val (.int p1), .val (.int p2), .val (.int p3), .val (.int p4), .val (.int p5), .val (.int (0 : Int32)), .val (.ref b1), .val (.ref r4), .unset] [(.int (0 : Int32))]))
    refine own_Fin.step (fun _ => XS.iload X4.here hx rfl (hb hby at_143) rfl) ?_
    show own_Fin p e below s _ _ _ (T4.setTop (mkF m 145 #[.val (.int p1), .val (.int p2), .val (.int p3), .val (.int p4), .val (.int p5), .val (.int (0 : Int32)), .val (.ref b1), .val (.ref r4), .unset] [(.int (0 : Int32)), (.int (0 : Int32))]))
    refine own_Fin.step (fun _ => XS.icmpYes X4.here hx rfl (pc0 := 145) (pc' := 150) rfl (hb hby at_145) rfl (XT.ii_eq_t (by decide : (0 : Int32) = (0 : Int32))) (by decide) (by decide)) ?_
    show own_Fin p e below s _ _ _ (T4.setTop (mkF m 150 #[.val (.int p1), .val (.int p2), .val (.int p3), .val (.int p4), .val (.int p5), .val (.int (0 : Int32)), .val (.ref b1), .val (.ref r4), .unset] []))
    refine own_Fin.step (fun _ => XS.iconst X4.here hx rfl (hb hby at_150)) ?_
    show own_Fin p e below s _ _ _ (T4.setTop (mkF m 151 #[.val (.int p1), .val (.int p2), .val (.int p3), .val (.int p4), .val (.int p5), .val (.int (0 : Int32)), .val (.ref b1), .val (.ref r4), .unset] [(.int (1 : Int32))]))
    refine own_Fin.step (fun _ => XS.istore X4.here hx rfl (hb hby at_151) rfl (l' := #[.val (.int p1), .val (.int p2), .val (.int p3), .val (.int p4), .val (.int p5), .val (.int (0 : Int32)), .val (.ref b1), .val (.ref r4), .val (.int (1 : Int32))]) rfl) ?_
    show own_Fin p e below s _ _ _ (T4.setTop (mkF m 153 #[.val (.int p1), .val (.int p2), .val (.int p3), .val (.int p4), .val (.int p5), .val (.int (0 : Int32)), .val (.ref b1), .val (.ref r4), .val (.int (1 : Int32))] []))
    refine own_Fin.step (fun _ => XS.iload X4.here hx rfl (hb hby at_153) rfl) ?_
    show own_Fin p e below s _ _ _ (T4.setTop (mkF m 155 #[.val (.int p1), .val (.int p2), .val (.int p3), .val (.int p4), .val (.int p5), .val (.int (0 : Int32)), .val (.ref b1), .val (.ref r4), .val (.int (1 : Int32))] [(.int (1 : Int32))]))
    refine own_Fin.step (fun _ => XS.ifNo X4.here hx rfl (hb hby at_155) rfl (XT.i0_eq_f (by decide : ¬ ((1 : Int32) = (0 : Int32))))) ?_
    show own_Fin p e below s _ _ _ (T4.setTop (mkF m 158 #[.val (.int p1), .val (.int p2), .val (.int p3), .val (.int p4), .val (.int p5), .val (.int (0 : Int32)), .val (.ref b1), .val (.ref r4), .val (.int (1 : Int32))] []))
    refine own_Fin.step (fun _ => XS.iload X4.here hx rfl (hb hby at_158) rfl) ?_
    show own_Fin p e below s _ _ _ (T4.setTop (mkF m 160 #[.val (.int p1), .val (.int p2), .val (.int p3), .val (.int p4), .val (.int p5), .val (.int (0 : Int32)), .val (.ref b1), .val (.ref r4), .val (.int (1 : Int32))] [(.int (0 : Int32))]))
    refine own_Fin.step (fun _ => XS.ifYes X4.here hx rfl (pc0 := 160) (pc' := 176) rfl (hb hby at_160) rfl (XT.i0_le_t (by decide : ¬ ((0 : Int32) < (0 : Int32)))) (by decide) (by decide)) ?_
    show own_Fin p e below s _ _ _ (T4.setTop (mkF m 176 #[.val (.int p1), .val (.int p2), .val (.int p3), .val (.int p4), .val (.int p5), .val (.int (0 : Int32)), .val (.ref b1), .val (.ref r4), .val (.int (1 : Int32))] []))
    refine own_Fin.step (fun _ => XS.iconst X4.here hx rfl (hb hby at_176)) ?_
    show own_Fin p e below s _ _ _ (T4.setTop (mkF m 177 #[.val (.int p1), .val (.int p2), .val (.int p3), .val (.int p4), .val (.int p5), .val (.int (0 : Int32)), .val (.ref b1), .val (.ref r4), .val (.int (1 : Int32))] [(.int (1 : Int32))]))
    refine own_Fin.step (fun _ => XS.goto X4.here hx rfl (pc0 := 177) (pc' := 181) rfl (hb hby at_177) (by decide) (by decide)) ?_
    show own_Fin p e below s _ _ _ (T4.setTop (mkF m 181 #[.val (.int p1), .val (.int p2), .val (.int p3), .val (.int p4), .val (.int p5), .val (.int (0 : Int32)), .val (.ref b1), .val (.ref r4), .val (.int (1 : Int32))] [(.int (1 : Int32))]))
    refine own_Fin.step (fun _ => XS.istore X4.here hx rfl (hb hby at_181) rfl (l' := #[.val (.int p1), .val (.int p2), .val (.int p3), .val (.int p4), .val (.int p5), .val (.int (0 : Int32)), .val (.ref b1), .val (.ref r4), .val (.int (1 : Int32))]) rfl) ?_
    show own_Fin p e below s _ _ _ (T4.setTop (mkF m 183 #[.val (.int p1), .val (.int p2), .val (.int p3), .val (.int p4), .val (.int p5), .val (.int (0 : Int32)), .val (.ref b1), .val (.ref r4), .val (.int (1 : Int32))] []))
    refine own_Fin.step (fun _ => XS.iload X4.here hx rfl (hb hby at_183) rfl) ?_
    show own_Fin p e below s _ _ _ (T4.setTop (mkF m 185 #[.val (.int p1), .val (.int p2), .val (.int p3), .val (.int p4), .val (.int p5), .val (.int (0 : Int32)), .val (.ref b1), .val (.ref r4), .val (.int (1 : Int32))] [(.int (1 : Int32))]))
    refine own_Fin.step (fun _ => XS.ifNo X4.here hx rfl (hb hby at_185) rfl (XT.i0_eq_f (by decide : ¬ ((1 : Int32) = (0 : Int32))))) ?_
    show own_Fin p e below s _ _ _ (T4.setTop (mkF m 188 #[.val (.int p1), .val (.int p2), .val (.int p3), .val (.int p4), .val (.int p5), .val (.int (0 : Int32)), .val (.ref b1), .val (.ref r4), .val (.int (1 : Int32))] []))
    refine own_Fin.step (fun _ => XS.iload X4.here hx rfl (hb hby at_188) rfl) ?_
    show own_Fin p e below s _ _ _ (T4.setTop (mkF m 190 #[.val (.int p1), .val (.int p2), .val (.int p3), .val (.int p4), .val (.int p5), .val (.int (0 : Int32)), .val (.ref b1), .val (.ref r4), .val (.int (1 : Int32))] [(.int (0 : Int32))]))
    refine own_Fin.step (fun _ => XS.iconst X4.here hx rfl (hb hby at_190)) ?_
    show own_Fin p e below s _ _ _ (T4.setTop (mkF m 191 #[.val (.int p1), .val (.int p2), .val (.int p3), .val (.int p4), .val (.int p5), .val (.int (0 : Int32)), .val (.ref b1), .val (.ref r4), .val (.int (1 : Int32))] [(.int (1 : Int32)), (.int (0 : Int32))]))
    refine own_Fin.step (fun _ => XS.icmpYes X4.here hx rfl (pc0 := 191) (pc' := 207) rfl (hb hby at_191) rfl (XT.ii_le_t (by decide : ¬ ((1 : Int32) < (0 : Int32)))) (by decide) (by decide)) ?_
    show own_Fin p e below s _ _ _ (T4.setTop (mkF m 207 #[.val (.int p1), .val (.int p2), .val (.int p3), .val (.int p4), .val (.int p5), .val (.int (0 : Int32)), .val (.ref b1), .val (.ref r4), .val (.int (1 : Int32))] []))
    refine own_Fin.step (fun _ => XS.iconst X4.here hx rfl (hb hby at_207)) ?_
    show own_Fin p e below s _ _ _ (T4.setTop (mkF m 208 #[.val (.int p1), .val (.int p2), .val (.int p3), .val (.int p4), .val (.int p5), .val (.int (0 : Int32)), .val (.ref b1), .val (.ref r4), .val (.int (1 : Int32))] [(.int (1 : Int32))]))
    refine own_Fin.step (fun _ => XS.goto X4.here hx rfl (pc0 := 208) (pc' := 212) rfl (hb hby at_208) (by decide) (by decide)) ?_
    show own_Fin p e below s _ _ _ (T4.setTop (mkF m 212 #[.val (.int p1), .val (.int p2), .val (.int p3), .val (.int p4), .val (.int p5), .val (.int (0 : Int32)), .val (.ref b1), .val (.ref r4), .val (.int (1 : Int32))] [(.int (1 : Int32))]))
    refine own_Fin.step (fun _ => XS.istore X4.here hx rfl (hb hby at_212) rfl (l' := #[.val (.int p1), .val (.int p2), .val (.int p3), .val (.int p4), .val (.int p5), .val (.int (0 : Int32)), .val (.ref b1), .val (.ref r4), .val (.int (1 : Int32))]) rfl) ?_
    show own_Fin p e below s _ _ _ (T4.setTop (mkF m 214 #[.val (.int p1), .val (.int p2), .val (.int p3), .val (.int p4), .val (.int p5), .val (.int (0 : Int32)), .val (.ref b1), .val (.ref r4), .val (.int (1 : Int32))] []))
    refine own_Fin.step (fun _ => XS.iload X4.here hx rfl (hb hby at_214) rfl) ?_
    show own_Fin p e below s _ _ _ (T4.setTop (mkF m 216 #[.val (.int p1), .val (.int p2), .val (.int p3), .val (.int p4), .val (.int p5), .val (.int (0 : Int32)), .val (.ref b1), .val (.ref r4), .val (.int (1 : Int32))] [(.int (1 : Int32))]))
    refine own_Fin.step (fun _ => XS.ifNo X4.here hx rfl (hb hby at_216) rfl (XT.i0_eq_f (by decide : ¬ ((1 : Int32) = (0 : Int32))))) ?_
    show own_Fin p e below s _ _ _ (T4.setTop (mkF m 219 #[.val (.int p1), .val (.int p2), .val (.int p3), .val (.int p4), .val (.int p5), .val (.int (0 : Int32)), .val (.ref b1), .val (.ref r4), .val (.int (1 : Int32))] []))
    refine own_Fin.step (fun _ => XS.iload X4.here hx rfl (hb hby at_219) rfl) ?_
    show own_Fin p e below s _ _ _ (T4.setTop (mkF m 221 #[.val (.int p1), .val (.int p2), .val (.int p3), .val (.int p4), .val (.int p5), .val (.int (0 : Int32)), .val (.ref b1), .val (.ref r4), .val (.int (1 : Int32))] [(.int (0 : Int32))]))
    refine own_Fin.step (fun _ => XS.iconst X4.here hx rfl (hb hby at_221)) ?_
    show own_Fin p e below s _ _ _ (T4.setTop (mkF m 222 #[.val (.int p1), .val (.int p2), .val (.int p3), .val (.int p4), .val (.int p5), .val (.int (0 : Int32)), .val (.ref b1), .val (.ref r4), .val (.int (1 : Int32))] [(.int (2 : Int32)), (.int (0 : Int32))]))
    refine own_Fin.step (fun _ => XS.icmpYes X4.here hx rfl (pc0 := 222) (pc' := 238) rfl (hb hby at_222) rfl (XT.ii_le_t (by decide : ¬ ((2 : Int32) < (0 : Int32)))) (by decide) (by decide)) ?_
    show own_Fin p e below s _ _ _ (T4.setTop (mkF m 238 #[.val (.int p1), .val (.int p2), .val (.int p3), .val (.int p4), .val (.int p5), .val (.int (0 : Int32)), .val (.ref b1), .val (.ref r4), .val (.int (1 : Int32))] []))
    refine own_Fin.step (fun _ => XS.iconst X4.here hx rfl (hb hby at_238)) ?_
    show own_Fin p e below s _ _ _ (T4.setTop (mkF m 239 #[.val (.int p1), .val (.int p2), .val (.int p3), .val (.int p4), .val (.int p5), .val (.int (0 : Int32)), .val (.ref b1), .val (.ref r4), .val (.int (1 : Int32))] [(.int (1 : Int32))]))
    refine own_Fin.step (fun _ => XS.goto X4.here hx rfl (pc0 := 239) (pc' := 243) rfl (hb hby at_239) (by decide) (by decide)) ?_
    show own_Fin p e below s _ _ _ (T4.setTop (mkF m 243 #[.val (.int p1), .val (.int p2), .val (.int p3), .val (.int p4), .val (.int p5), .val (.int (0 : Int32)), .val (.ref b1), .val (.ref r4), .val (.int (1 : Int32))] [(.int (1 : Int32))]))
    refine own_Fin.step (fun _ => XS.istore X4.here hx rfl (hb hby at_243) rfl (l' := #[.val (.int p1), .val (.int p2), .val (.int p3), .val (.int p4), .val (.int p5), .val (.int (0 : Int32)), .val (.ref b1), .val (.ref r4), .val (.int (1 : Int32))]) rfl) ?_
    show own_Fin p e below s _ _ _ (T4.setTop (mkF m 245 #[.val (.int p1), .val (.int p2), .val (.int p3), .val (.int p4), .val (.int p5), .val (.int (0 : Int32)), .val (.ref b1), .val (.ref r4), .val (.int (1 : Int32))] []))
    refine own_Fin.step (fun _ => XS.iload X4.here hx rfl (hb hby at_245) rfl) ?_
    show own_Fin p e below s _ _ _ (T4.setTop (mkF m 247 #[.val (.int p1), .val (.int p2), .val (.int p3), .val (.int p4), .val (.int p5), .val (.int (0 : Int32)), .val (.ref b1), .val (.ref r4), .val (.int (1 : Int32))] [(.int (1 : Int32))]))
    refine own_Fin.step (fun _ => XS.ifNo X4.here hx rfl (hb hby at_247) rfl (XT.i0_eq_f (by decide : ¬ ((1 : Int32) = (0 : Int32))))) ?_
    show own_Fin p e below s _ _ _ (T4.setTop (mkF m 250 #[.val (.int p1), .val (.int p2), .val (.int p3), .val (.int p4), .val (.int p5), .val (.int (0 : Int32)), .val (.ref b1), .val (.ref r4), .val (.int (1 : Int32))] []))
    refine own_Fin.step (fun _ => XS.iload X4.here hx rfl (hb hby at_250) rfl) ?_
    show own_Fin p e below s _ _ _ (T4.setTop (mkF m 252 #[.val (.int p1), .val (.int p2), .val (.int p3), .val (.int p4), .val (.int p5), .val (.int (0 : Int32)), .val (.ref b1), .val (.ref r4), .val (.int (1 : Int32))] [(.int (0 : Int32))]))
    refine own_Fin.step (fun _ => XS.iconst X4.here hx rfl (hb hby at_252)) ?_
    show own_Fin p e below s _ _ _ (T4.setTop (mkF m 253 #[.val (.int p1), .val (.int p2), .val (.int p3), .val (.int p4), .val (.int p5), .val (.int (0 : Int32)), .val (.ref b1), .val (.ref r4), .val (.int (1 : Int32))] [(.int (3 : Int32)), (.int (0 : Int32))]))
    refine own_Fin.step (fun _ => XS.icmpYes X4.here hx rfl (pc0 := 253) (pc' := 269) rfl (hb hby at_253) rfl (XT.ii_le_t (by decide : ¬ ((3 : Int32) < (0 : Int32)))) (by decide) (by decide)) ?_
    show own_Fin p e below s _ _ _ (T4.setTop (mkF m 269 #[.val (.int p1), .val (.int p2), .val (.int p3), .val (.int p4), .val (.int p5), .val (.int (0 : Int32)), .val (.ref b1), .val (.ref r4), .val (.int (1 : Int32))] []))
    refine own_Fin.step (fun _ => XS.iconst X4.here hx rfl (hb hby at_269)) ?_
    show own_Fin p e below s _ _ _ (T4.setTop (mkF m 270 #[.val (.int p1), .val (.int p2), .val (.int p3), .val (.int p4), .val (.int p5), .val (.int (0 : Int32)), .val (.ref b1), .val (.ref r4), .val (.int (1 : Int32))] [(.int (1 : Int32))]))
    refine own_Fin.step (fun _ => XS.goto X4.here hx rfl (pc0 := 270) (pc' := 274) rfl (hb hby at_270) (by decide) (by decide)) ?_
    show own_Fin p e below s _ _ _ (T4.setTop (mkF m 274 #[.val (.int p1), .val (.int p2), .val (.int p3), .val (.int p4), .val (.int p5), .val (.int (0 : Int32)), .val (.ref b1), .val (.ref r4), .val (.int (1 : Int32))] [(.int (1 : Int32))]))
    refine own_Fin.step (fun _ => XS.istore X4.here hx rfl (hb hby at_274) rfl (l' := #[.val (.int p1), .val (.int p2), .val (.int p3), .val (.int p4), .val (.int p5), .val (.int (0 : Int32)), .val (.ref b1), .val (.ref r4), .val (.int (1 : Int32))]) rfl) ?_
    show own_Fin p e below s _ _ _ (T4.setTop (mkF m 276 #[.val (.int p1), .val (.int p2), .val (.int p3), .val (.int p4), .val (.int p5), .val (.int (0 : Int32)), .val (.ref b1), .val (.ref r4), .val (.int (1 : Int32))] []))
    refine own_Fin.step (fun _ => XS.iload X4.here hx rfl (hb hby at_276) rfl) ?_
    show own_Fin p e below s _ _ _ (T4.setTop (mkF m 278 #[.val (.int p1), .val (.int p2), .val (.int p3), .val (.int p4), .val (.int p5), .val (.int (0 : Int32)), .val (.ref b1), .val (.ref r4), .val (.int (1 : Int32))] [(.int (1 : Int32))]))
    refine own_Fin.step (fun _ => XS.ifNo X4.here hx rfl (hb hby at_278) rfl (XT.i0_eq_f (by decide : ¬ ((1 : Int32) = (0 : Int32))))) ?_
    show own_Fin p e below s _ _ _ (T4.setTop (mkF m 281 #[.val (.int p1), .val (.int p2), .val (.int p3), .val (.int p4), .val (.int p5), .val (.int (0 : Int32)), .val (.ref b1), .val (.ref r4), .val (.int (1 : Int32))] []))
    refine own_Fin.step (fun _ => XS.iload X4.here hx rfl (hb hby at_281) rfl) ?_
    show own_Fin p e below s _ _ _ (T4.setTop (mkF m 283 #[.val (.int p1), .val (.int p2), .val (.int p3), .val (.int p4), .val (.int p5), .val (.int (0 : Int32)), .val (.ref b1), .val (.ref r4), .val (.int (1 : Int32))] [(.int (0 : Int32))]))
    refine own_Fin.step (fun _ => XS.iconst X4.here hx rfl (hb hby at_283)) ?_
    show own_Fin p e below s _ _ _ (T4.setTop (mkF m 284 #[.val (.int p1), .val (.int p2), .val (.int p3), .val (.int p4), .val (.int p5), .val (.int (0 : Int32)), .val (.ref b1), .val (.ref r4), .val (.int (1 : Int32))] [(.int (4 : Int32)), (.int (0 : Int32))]))
    refine own_Fin.step (fun _ => XS.icmpYes X4.here hx rfl (pc0 := 284) (pc' := 300) rfl (hb hby at_284) rfl (XT.ii_le_t (by decide : ¬ ((4 : Int32) < (0 : Int32)))) (by decide) (by decide)) ?_
    show own_Fin p e below s _ _ _ (T4.setTop (mkF m 300 #[.val (.int p1), .val (.int p2), .val (.int p3), .val (.int p4), .val (.int p5), .val (.int (0 : Int32)), .val (.ref b1), .val (.ref r4), .val (.int (1 : Int32))] []))
    refine own_Fin.step (fun _ => XS.iconst X4.here hx rfl (hb hby at_300)) ?_
    show own_Fin p e below s _ _ _ (T4.setTop (mkF m 301 #[.val (.int p1), .val (.int p2), .val (.int p3), .val (.int p4), .val (.int p5), .val (.int (0 : Int32)), .val (.ref b1), .val (.ref r4), .val (.int (1 : Int32))] [(.int (1 : Int32))]))
    refine own_Fin.step (fun _ => XS.goto X4.here hx rfl (pc0 := 301) (pc' := 305) rfl (hb hby at_301) (by decide) (by decide)) ?_
    show own_Fin p e below s _ _ _ (T4.setTop (mkF m 305 #[.val (.int p1), .val (.int p2), .val (.int p3), .val (.int p4), .val (.int p5), .val (.int (0 : Int32)), .val (.ref b1), .val (.ref r4), .val (.int (1 : Int32))] [(.int (1 : Int32))]))
    refine own_Fin.step (fun _ => XS.istore X4.here hx rfl (hb hby at_305) rfl (l' := #[.val (.int p1), .val (.int p2), .val (.int p3), .val (.int p4), .val (.int p5), .val (.int (0 : Int32)), .val (.ref b1), .val (.ref r4), .val (.int (1 : Int32))]) rfl) ?_
    show own_Fin p e below s _ _ _ (T4.setTop (mkF m 307 #[.val (.int p1), .val (.int p2), .val (.int p3), .val (.int p4), .val (.int p5), .val (.int (0 : Int32)), .val (.ref b1), .val (.ref r4), .val (.int (1 : Int32))] []))
    refine own_Fin.step (fun _ => XS.iload X4.here hx rfl (hb hby at_307) rfl) ?_
    show own_Fin p e below s _ _ _ (T4.setTop (mkF m 309 #[.val (.int p1), .val (.int p2), .val (.int p3), .val (.int p4), .val (.int p5), .val (.int (0 : Int32)), .val (.ref b1), .val (.ref r4), .val (.int (1 : Int32))] [(.int (1 : Int32))]))
    refine own_Fin.step (fun _ => XS.ifNo X4.here hx rfl (hb hby at_309) rfl (XT.i0_eq_f (by decide : ¬ ((1 : Int32) = (0 : Int32))))) ?_
    show own_Fin p e below s _ _ _ (T4.setTop (mkF m 312 #[.val (.int p1), .val (.int p2), .val (.int p3), .val (.int p4), .val (.int p5), .val (.int (0 : Int32)), .val (.ref b1), .val (.ref r4), .val (.int (1 : Int32))] []))
    refine own_Fin.step (fun _ => XS.iload X4.here hx rfl (hb hby at_312) rfl) ?_
    show own_Fin p e below s _ _ _ (T4.setTop (mkF m 314 #[.val (.int p1), .val (.int p2), .val (.int p3), .val (.int p4), .val (.int p5), .val (.int (0 : Int32)), .val (.ref b1), .val (.ref r4), .val (.int (1 : Int32))] [(.int (0 : Int32))]))
    refine own_Fin.step (fun _ => XS.iconst X4.here hx rfl (hb hby at_314)) ?_
    show own_Fin p e below s _ _ _ (T4.setTop (mkF m 315 #[.val (.int p1), .val (.int p2), .val (.int p3), .val (.int p4), .val (.int p5), .val (.int (0 : Int32)), .val (.ref b1), .val (.ref r4), .val (.int (1 : Int32))] [(.int (5 : Int32)), (.int (0 : Int32))]))
    refine own_Fin.step (fun _ => XS.icmpYes X4.here hx rfl (pc0 := 315) (pc' := 331) rfl (hb hby at_315) rfl (XT.ii_le_t (by decide : ¬ ((5 : Int32) < (0 : Int32)))) (by decide) (by decide)) ?_
    show own_Fin p e below s _ _ _ (T4.setTop (mkF m 331 #[.val (.int p1), .val (.int p2), .val (.int p3), .val (.int p4), .val (.int p5), .val (.int (0 : Int32)), .val (.ref b1), .val (.ref r4), .val (.int (1 : Int32))] []))
    refine own_Fin.step (fun _ => XS.iconst X4.here hx rfl (hb hby at_331)) ?_
    show own_Fin p e below s _ _ _ (T4.setTop (mkF m 332 #[.val (.int p1), .val (.int p2), .val (.int p3), .val (.int p4), .val (.int p5), .val (.int (0 : Int32)), .val (.ref b1), .val (.ref r4), .val (.int (1 : Int32))] [(.int (1 : Int32))]))
    refine own_Fin.step (fun _ => XS.goto X4.here hx rfl (pc0 := 332) (pc' := 336) rfl (hb hby at_332) (by decide) (by decide)) ?_
    show own_Fin p e below s _ _ _ (T4.setTop (mkF m 336 #[.val (.int p1), .val (.int p2), .val (.int p3), .val (.int p4), .val (.int p5), .val (.int (0 : Int32)), .val (.ref b1), .val (.ref r4), .val (.int (1 : Int32))] [(.int (1 : Int32))]))
    refine own_Fin.step (fun _ => XS.istore X4.here hx rfl (hb hby at_336) rfl (l' := #[.val (.int p1), .val (.int p2), .val (.int p3), .val (.int p4), .val (.int p5), .val (.int (0 : Int32)), .val (.ref b1), .val (.ref r4), .val (.int (1 : Int32))]) rfl) ?_
    show own_Fin p e below s _ _ _ (T4.setTop (mkF m 338 #[.val (.int p1), .val (.int p2), .val (.int p3), .val (.int p4), .val (.int p5), .val (.int (0 : Int32)), .val (.ref b1), .val (.ref r4), .val (.int (1 : Int32))] []))
    refine own_Fin.step (fun _ => XS.iload X4.here hx rfl (hb hby at_338) rfl) ?_
    show own_Fin p e below s _ _ _ (T4.setTop (mkF m 340 #[.val (.int p1), .val (.int p2), .val (.int p3), .val (.int p4), .val (.int p5), .val (.int (0 : Int32)), .val (.ref b1), .val (.ref r4), .val (.int (1 : Int32))] [(.int (1 : Int32))]))
    exact own_retN X4 hx hlk (t := .boolean) hret (by simp) (hb hby at_340) ⟨rfl, N4⟩ (by decide) (by decide)
  ·
    show own_Fin p e below s _ _ _ (s₁.setTop (mkF m 7 #[.val (.int p1), .val (.int p2), .val (.int p3), .val (.int p4), .val (.int p5), .unset, .unset, .unset, .unset] [(.int (1 : Int32))]))
    refine own_Fin.step (fun _ => XS.istore X0.here hx rfl (hb hby at_7) rfl (l' := #[.val (.int p1), .val (.int p2), .val (.int p3), .val (.int p4), .val (.int p5), .val (.int (1 : Int32)), .unset, .unset, .unset]) rfl) ?_
    show own_Fin p e below s _ _ _ (s₁.setTop (mkF m 9 #[.val (.int p1), .val (.int p2), .val (.int p3), .val (.int p4), .val (.int p5), .val (.int (1 : Int32)), .unset, .unset, .unset] []))
    refine own_Fin.step (fun _ => XS.iload X0.here hx rfl (hb hby at_9) rfl) ?_
    show own_Fin p e below s _ _ _ (s₁.setTop (mkF m 11 #[.val (.int p1), .val (.int p2), .val (.int p3), .val (.int p4), .val (.int p5), .val (.int (1 : Int32)), .unset, .unset, .unset] [(.int (1 : Int32))]))
    obtain ⟨T8, h8, k8, b8, X8, e8, E8, g8, V8, st8⟩ := own_newA X0 hx hZ (own_w hw 1 rfl) e0 (ty := .byte) (dv := (.int (0 : Int32))) rfl rfl (g := (mkF m 11 #[.val (.int p1), .val (.int p2), .val (.int p3), .val (.int p4), .val (.int p5), .val (.int (1 : Int32)), .unset, .unset, .unset] [(.int (1 : Int32))])) rfl (hb hby at_11) rfl (by decide) (cap := 1) (by decide) (by decide) (by decide) (by decide) (1)
    have ge9 : n0 ≤ b8 := Nat.le_trans Z0 (Nat.le_of_eq g8.symm)
    have Z8 : n0 ≤ h8.size := Nat.le_trans Z0 E8.1
    have V8' : Arv Z h8 b8 k8 .byte (1 : Int32) [(.int (0 : Int32))] (.int (0 : Int32)) := V8
    refine own_Fin.step st8 ?_
    show own_Fin p e below s _ _ _ (T8.setTop (mkF m 13 #[.val (.int p1), .val (.int p2), .val (.int p3), .val (.int p4), .val (.int p5), .val (.int (1 : Int32)), .unset, .unset, .unset] [(.ref b8)]))
    have Vf10 := own_Arf.of (N := 1) V8'
    refine own_Fin.step (fun _ => XS.astore X8.here hx rfl (hb hby at_13) rfl rfl (l' := #[.val (.int p1), .val (.int p2), .val (.int p3), .val (.int p4), .val (.int p5), .val (.int (1 : Int32)), .val (.ref b8), .unset, .unset]) rfl) ?_
    show own_Fin p e below s _ _ _ (T8.setTop (mkF m 15 #[.val (.int p1), .val (.int p2), .val (.int p3), .val (.int p4), .val (.int p5), .val (.int (1 : Int32)), .val (.ref b8), .unset, .unset] []))
    refine own_Fin.step (fun _ => XS.iload X8.here hx rfl (hb hby at_15) rfl) ?_
    show own_Fin p e below s _ _ _ (T8.setTop (mkF m 17 #[.val (.int p1), .val (.int p2), .val (.int p3), .val (.int p4), .val (.int p5), .val (.int (1 : Int32)), .val (.ref b8), .unset, .unset] [(.int (1 : Int32))]))
    refine own_Fin.step (fun _ => XS.ifNo X8.here hx rfl (hb hby at_17) rfl (XT.i0_le_f (by decide : (0 : Int32) < (1 : Int32)))) ?_
    show own_Fin p e below s _ _ _ (T8.setTop (mkF m 20 #[.val (.int p1), .val (.int p2), .val (.int p3), .val (.int p4), .val (.int p5), .val (.int (1 : Int32)), .val (.ref b8), .unset, .unset] []))
    refine own_Fin.step (fun _ => XS.aload X8.here hx rfl (hb hby at_20) rfl rfl) ?_
    show own_Fin p e below s _ _ _ (T8.setTop (mkF m 22 #[.val (.int p1), .val (.int p2), .val (.int p3), .val (.int p4), .val (.int p5), .val (.int (1 : Int32)), .val (.ref b8), .unset, .unset] [(.ref b8)]))
    refine own_Fin.step (fun _ => XS.iconst X8.here hx rfl (hb hby at_22)) ?_
    show own_Fin p e below s _ _ _ (T8.setTop (mkF m 23 #[.val (.int p1), .val (.int p2), .val (.int p3), .val (.int p4), .val (.int p5), .val (.int (1 : Int32)), .val (.ref b8), .unset, .unset] [(.int (0 : Int32)), (.ref b8)]))
    refine own_Fin.step (fun _ => XS.iload X8.here hx rfl (hb hby at_23) rfl) ?_
    show own_Fin p e below s _ _ _ (T8.setTop (mkF m 25 #[.val (.int p1), .val (.int p2), .val (.int p3), .val (.int p4), .val (.int p5), .val (.int (1 : Int32)), .val (.ref b8), .unset, .unset] [(.int p5), (.int (0 : Int32)), (.ref b8)]))
    refine own_Fin.step (fun _ => XS.iconst X8.here hx rfl (hb hby at_25)) ?_
    show own_Fin p e below s _ _ _ (T8.setTop (mkF m 26 #[.val (.int p1), .val (.int p2), .val (.int p3), .val (.int p4), .val (.int p5), .val (.int (1 : Int32)), .val (.ref b8), .unset, .unset] [(.int (0 : Int32)), (.int p5), (.int (0 : Int32)), (.ref b8)]))
    refine own_Fin.step (fun _ => XS.iloadN X8.here hx rfl (hb hby at_26) rfl) ?_
    show own_Fin p e below s _ _ _ (T8.setTop (mkF m 27 #[.val (.int p1), .val (.int p2), .val (.int p3), .val (.int p4), .val (.int p5), .val (.int (1 : Int32)), .val (.ref b8), .unset, .unset] [(.int p2), (.int (0 : Int32)), (.int p5), (.int (0 : Int32)), (.ref b8)]))
    refine own_Fin.step (fun _ => XS.iloadN X8.here hx rfl (hb hby at_27) rfl) ?_
    show own_Fin p e below s _ _ _ (T8.setTop (mkF m 28 #[.val (.int p1), .val (.int p2), .val (.int p3), .val (.int p4), .val (.int p5), .val (.int (1 : Int32)), .val (.ref b8), .unset, .unset] [(.int p3), (.int p2), (.int (0 : Int32)), (.int p5), (.int (0 : Int32)), (.ref b8)]))
    refine own_Fin.step (fun _ => XS.iloadN X8.here hx rfl (hb hby at_28) rfl) ?_
    show own_Fin p e below s _ _ _ (T8.setTop (mkF m 29 #[.val (.int p1), .val (.int p2), .val (.int p3), .val (.int p4), .val (.int p5), .val (.int (1 : Int32)), .val (.ref b8), .unset, .unset] [(.int p4), (.int p3), (.int p2), (.int (0 : Int32)), (.int p5), (.int (0 : Int32)), (.ref b8)]))
    obtain ⟨_, T11, L11, X11, ⟨z11, rfl, N11q, e11⟩, st11⟩ := own_callS X8 hx hZ hown (own_w hw 7 rfl) (own_w hw 8 rfl) (own_w hw 9 rfl) (own_w hw 10 rfl) (by decide) (rm1 l Z a0 hw p5 (0 : Int32) p2 p3 p4 h8 n0 Z8) (by decide) (by decide) e8 (W := 2) (g := (mkF m 29 #[.val (.int p1), .val (.int p2), .val (.int p3), .val (.int p4), .val (.int p5), .val (.int (1 : Int32)), .val (.ref b8), .unset, .unset] [(.int p4), (.int p3), (.int p2), (.int (0 : Int32)), (.int p5), (.int (0 : Int32)), (.ref b8)])) rfl (by rw [hml]; rfl) (argsL := [(.int p5), (.int (0 : Int32)), (.int p2), (.int p3), (.int p4)]) (rest := [(.int (0 : Int32)), (.ref b8)]) (lenOf pd_3 rfl) rfl rfl (by show 2 * 0 + _ ≤ _; exact Nat.le_of_eq rfl) (hb hby at_29) (by decide) (by decide)
    have N11 := Fr.app N0 N11q
    refine own_Fin.step st11 ?_
    show own_Fin p e below s _ _ _ (T11.setTop (mkF m 32 #[.val (.int p1), .val (.int p2), .val (.int p3), .val (.int p4), .val (.int p5), .val (.int (1 : Int32)), .val (.ref b8), .unset, .unset] [(.int z11), (.int (0 : Int32)), (.ref b8)]))
    obtain ⟨T12, h12, X12, e12, V12, W12, st12⟩ := own_stFB X11 hx hZ e11 Vf10 (j := (0 : Int32)) ⟨by decide, by decide⟩ (g := (mkF m 32 #[.val (.int p1), .val (.int p2), .val (.int p3), .val (.int p4), .val (.int p5), .val (.int (1 : Int32)), .val (.ref b8), .unset, .unset] [(.int z11), (.int (0 : Int32)), (.ref b8)])) rfl rfl (hb hby at_32)
    have N12 := Fr.snoc X12 N11 ge9
    have Z12 : n0 ≤ h12.size := Nat.le_trans Z8 (Nat.le_of_eq W12.size.symm)
    refine own_Fin.step st12 ?_
    show own_Fin p e below s _ _ _ (T12.setTop (mkF m 33 #[.val (.int p1), .val (.int p2), .val (.int p3), .val (.int p4), .val (.int p5), .val (.int (1 : Int32)), .val (.ref b8), .unset, .unset] []))
    refine own_Fin.step (fun _ => XS.iload X12.here hx rfl (hb hby at_33) rfl) ?_
    show own_Fin p e below s _ _ _ (T12.setTop (mkF m 35 #[.val (.int p1), .val (.int p2), .val (.int p3), .val (.int p4), .val (.int p5), .val (.int (1 : Int32)), .val (.ref b8), .unset, .unset] [(.int (1 : Int32))]))
    refine own_Fin.step (fun _ => XS.iconst X12.here hx rfl (hb hby at_35)) ?_
    show own_Fin p e below s _ _ _ (T12.setTop (mkF m 36 #[.val (.int p1), .val (.int p2), .val (.int p3), .val (.int p4), .val (.int p5), .val (.int (1 : Int32)), .val (.ref b8), .unset, .unset] [(.int (1 : Int32)), (.int (1 : Int32))]))
    refine own_Fin.step (fun _ => XS.icmpYes X12.here hx rfl (pc0 := 36) (pc' := 52) rfl (hb hby at_36) rfl (XT.ii_le_t (by decide : ¬ ((1 : Int32) < (1 : Int32)))) (by decide) (by decide)) ?_
    show own_Fin p e below s _ _ _ (T12.setTop (mkF m 52 #[.val (.int p1), .val (.int p2), .val (.int p3), .val (.int p4), .val (.int p5), .val (.int (1 : Int32)), .val (.ref b8), .unset, .unset] []))
    refine own_Fin.step (fun _ => XS.iload X12.here hx rfl (hb hby at_52) rfl) ?_
    show own_Fin p e below s _ _ _ (T12.setTop (mkF m 54 #[.val (.int p1), .val (.int p2), .val (.int p3), .val (.int p4), .val (.int p5), .val (.int (1 : Int32)), .val (.ref b8), .unset, .unset] [(.int (1 : Int32))]))
    refine own_Fin.step (fun _ => XS.iconst X12.here hx rfl (hb hby at_54)) ?_
    show own_Fin p e below s _ _ _ (T12.setTop (mkF m 55 #[.val (.int p1), .val (.int p2), .val (.int p3), .val (.int p4), .val (.int p5), .val (.int (1 : Int32)), .val (.ref b8), .unset, .unset] [(.int (2 : Int32)), (.int (1 : Int32))]))
    refine own_Fin.step (fun _ => XS.icmpYes X12.here hx rfl (pc0 := 55) (pc' := 71) rfl (hb hby at_55) rfl (XT.ii_le_t (by decide : ¬ ((2 : Int32) < (1 : Int32)))) (by decide) (by decide)) ?_
    show own_Fin p e below s _ _ _ (T12.setTop (mkF m 71 #[.val (.int p1), .val (.int p2), .val (.int p3), .val (.int p4), .val (.int p5), .val (.int (1 : Int32)), .val (.ref b8), .unset, .unset] []))
    refine own_Fin.step (fun _ => XS.iload X12.here hx rfl (hb hby at_71) rfl) ?_
    show own_Fin p e below s _ _ _ (T12.setTop (mkF m 73 #[.val (.int p1), .val (.int p2), .val (.int p3), .val (.int p4), .val (.int p5), .val (.int (1 : Int32)), .val (.ref b8), .unset, .unset] [(.int (1 : Int32))]))
    refine own_Fin.step (fun _ => XS.iconst X12.here hx rfl (hb hby at_73)) ?_
    show own_Fin p e below s _ _ _ (T12.setTop (mkF m 74 #[.val (.int p1), .val (.int p2), .val (.int p3), .val (.int p4), .val (.int p5), .val (.int (1 : Int32)), .val (.ref b8), .unset, .unset] [(.int (3 : Int32)), (.int (1 : Int32))]))
    refine own_Fin.step (fun _ => XS.icmpYes X12.here hx rfl (pc0 := 74) (pc' := 90) rfl (hb hby at_74) rfl (XT.ii_le_t (by decide : ¬ ((3 : Int32) < (1 : Int32)))) (by decide) (by decide)) ?_
    show own_Fin p e below s _ _ _ (T12.setTop (mkF m 90 #[.val (.int p1), .val (.int p2), .val (.int p3), .val (.int p4), .val (.int p5), .val (.int (1 : Int32)), .val (.ref b8), .unset, .unset] []))
    refine own_Fin.step (fun _ => XS.iload X12.here hx rfl (hb hby at_90) rfl) ?_
    show own_Fin p e below s _ _ _ (T12.setTop (mkF m 92 #[.val (.int p1), .val (.int p2), .val (.int p3), .val (.int p4), .val (.int p5), .val (.int (1 : Int32)), .val (.ref b8), .unset, .unset] [(.int (1 : Int32))]))
    refine own_Fin.step (fun _ => XS.iconst X12.here hx rfl (hb hby at_92)) ?_
    show own_Fin p e below s _ _ _ (T12.setTop (mkF m 93 #[.val (.int p1), .val (.int p2), .val (.int p3), .val (.int p4), .val (.int p5), .val (.int (1 : Int32)), .val (.ref b8), .unset, .unset] [(.int (4 : Int32)), (.int (1 : Int32))]))
    refine own_Fin.step (fun _ => XS.icmpYes X12.here hx rfl (pc0 := 93) (pc' := 109) rfl (hb hby at_93) rfl (XT.ii_le_t (by decide : ¬ ((4 : Int32) < (1 : Int32)))) (by decide) (by decide)) ?_
    show own_Fin p e below s _ _ _ (T12.setTop (mkF m 109 #[.val (.int p1), .val (.int p2), .val (.int p3), .val (.int p4), .val (.int p5), .val (.int (1 : Int32)), .val (.ref b8), .unset, .unset] []))
    refine own_Fin.step (fun _ => XS.iload X12.here hx rfl (hb hby at_109) rfl) ?_
    show own_Fin p e below s _ _ _ (T12.setTop (mkF m 111 #[.val (.int p1), .val (.int p2), .val (.int p3), .val (.int p4), .val (.int p5), .val (.int (1 : Int32)), .val (.ref b8), .unset, .unset] [(.int (1 : Int32))]))
    refine own_Fin.step (fun _ => XS.iconst X12.here hx rfl (hb hby at_111)) ?_
    show own_Fin p e below s _ _ _ (T12.setTop (mkF m 112 #[.val (.int p1), .val (.int p2), .val (.int p3), .val (.int p4), .val (.int p5), .val (.int (1 : Int32)), .val (.ref b8), .unset, .unset] [(.int (5 : Int32)), (.int (1 : Int32))]))
    refine own_Fin.step (fun _ => XS.icmpYes X12.here hx rfl (pc0 := 112) (pc' := 128) rfl (hb hby at_112) rfl (XT.ii_le_t (by decide : ¬ ((5 : Int32) < (1 : Int32)))) (by decide) (by decide)) ?_
    show own_Fin p e below s _ _ _ (T12.setTop (mkF m 128 #[.val (.int p1), .val (.int p2), .val (.int p3), .val (.int p4), .val (.int p5), .val (.int (1 : Int32)), .val (.ref b8), .unset, .unset] []))
    obtain ⟨f, hf⟩ : ∃ z : Nat → Int32, z = (own_upd (fun _ => (0 : Int32)) ((0 : Int32)).toNatClampNeg (nar .byte z11)) := ⟨_, rfl⟩
    rw [← hf] at V12
    refine own_Fin.step (fun _ => XS.aload X12.here hx rfl (hb hby at_128) rfl rfl) ?_
    show own_Fin p e below s _ _ _ (T12.setTop (mkF m 130 #[.val (.int p1), .val (.int p2), .val (.int p3), .val (.int p4), .val (.int p5), .val (.int (1 : Int32)), .val (.ref b8), .unset, .unset] [(.ref b8)]))
    obtain ⟨_, T14, L14, X14, ⟨r14, kt14, gt14, rfl, N14q, K14, sz14, V14, hT14⟩, st14⟩ := own_callS X12 hx hZ hown (own_w hw 2 rfl) (own_w hw 3 rfl) (own_w hw 4 rfl) (own_w hw 5 rfl) (by decide) (rm5 l Z a0 hw b8 k8 (1 : Int32) f h12 n0 Z12 V12 (by decide)) (by decide) (by decide) e12 (W := 0) (g := (mkF m 130 #[.val (.int p1), .val (.int p2), .val (.int p3), .val (.int p4), .val (.int p5), .val (.int (1 : Int32)), .val (.ref b8), .unset, .unset] [(.ref b8)])) rfl (by rw [hml]; rfl) (argsL := [(.ref b8)]) (rest := []) (lenOf pd_2 rfl) rfl rfl (by show 2 * 0 + _ ≤ _; exact Nat.le_of_eq rfl) (hb hby at_130) (by decide) (by decide)
    have N14 := Fr.app N12 N14q
    have ne15 : b8 ≠ r14 := Nat.ne_of_lt (Nat.lt_of_lt_of_le V12.lt sz14)
    have ge16 : n0 ≤ r14 := Nat.le_trans Z12 sz14
    have f17 := V12.keep K14 nin0
    have Z14 : n0 ≤ T14.heap.size := Nat.le_trans Z12 K14.1
    refine own_Fin.step st14 ?_
    show own_Fin p e below s _ _ _ (T14.setTop (mkF m 133 #[.val (.int p1), .val (.int p2), .val (.int p3), .val (.int p4), .val (.int p5), .val (.int (1 : Int32)), .val (.ref b8), .unset, .unset] [(.ref r14)]))
    refine own_Fin.step (fun _ => XS.astore X14.here hx rfl (hb hby at_133) rfl rfl (l' := #[.val (.int p1), .val (.int p2), .val (.int p3), .val (.int p4), .val (.int p5), .val (.int (1 : Int32)), .val (.ref b8), .val (.ref r14), .unset]) rfl) ?_
    show own_Fin p e below s _ _ _ (T14.setTop (mkF m 135 #[.val (.int p1), .val (.int p2), .val (.int p3), .val (.int p4), .val (.int p5), .val (.int (1 : Int32)), .val (.ref b8), .val (.ref r14), .unset] []))
    refine own_Fin.step (fun _ => XS.aload X14.here hx rfl (hb hby at_135) rfl rfl) ?_
    show own_Fin p e below s _ _ _ (T14.setTop (mkF m 137 #[.val (.int p1), .val (.int p2), .val (.int p3), .val (.int p4), .val (.int p5), .val (.int (1 : Int32)), .val (.ref b8), .val (.ref r14), .unset] [(.ref r14)]))
    refine own_Fin.step (fun _ => XS.ifnullNo X14.here hx rfl (hb hby at_137) rfl) ?_
    show own_Fin p e below s _ _ _ (T14.setTop (mkF m 140 #[.val (.int p1), .val (.int p2), .val (.int p3), .val (.int p4), .val (.int p5), .val (.int (1 : Int32)), .val (.ref b8), .val (.ref r14), .unset] []))
    refine own_Fin.step (fun _ => XS.aload X14.here hx rfl (hb hby at_140) rfl rfl) ?_
    show own_Fin p e below s _ _ _ (T14.setTop (mkF m 142 #[.val (.int p1), .val (.int p2), .val (.int p3), .val (.int p4), .val (.int p5), .val (.int (1 : Int32)), .val (.ref b8), .val (.ref r14), .unset] [(.ref r14)]))
    refine own_Fin.step (own_lenF X14 hx hZ rfl V14 (g := (mkF m 142 #[.val (.int p1), .val (.int p2), .val (.int p3), .val (.int p4), .val (.int p5), .val (.int (1 : Int32)), .val (.ref b8), .val (.ref r14), .unset] [(.ref r14)])) rfl rfl (hb hby at_142)) ?_
    show own_Fin p e below s _ _ _ (T14.setTop (mkF m 143 #[.val (.int p1), .val (.int p2), .val (.int p3), .val (.int p4), .val (.int p5), .val (.int (1 : Int32)), .val (.ref b8), .val (.ref r14), .unset] [(.int (1 : Int32))]))
    refine own_Fin.step (fun _ => XS.iload X14.here hx rfl (hb hby at_143) rfl) ?_
    show own_Fin p e below s _ _ _ (T14.setTop (mkF m 145 #[.val (.int p1), .val (.int p2), .val (.int p3), .val (.int p4), .val (.int p5), .val (.int (1 : Int32)), .val (.ref b8), .val (.ref r14), .unset] [(.int (1 : Int32)), (.int (1 : Int32))]))
    refine own_Fin.step (fun _ => XS.icmpYes X14.here hx rfl (pc0 := 145) (pc' := 150) rfl (hb hby at_145) rfl (XT.ii_eq_t (by decide : (1 : Int32) = (1 : Int32))) (by decide) (by decide)) ?_
    show own_Fin p e below s _ _ _ (T14.setTop (mkF m 150 #[.val (.int p1), .val (.int p2), .val (.int p3), .val (.int p4), .val (.int p5), .val (.int (1 : Int32)), .val (.ref b8), .val (.ref r14), .unset] []))
    refine own_Fin.step (fun _ => XS.iconst X14.here hx rfl (hb hby at_150)) ?_
    show own_Fin p e below s _ _ _ (T14.setTop (mkF m 151 #[.val (.int p1), .val (.int p2), .val (.int p3), .val (.int p4), .val (.int p5), .val (.int (1 : Int32)), .val (.ref b8), .val (.ref r14), .unset] [(.int (1 : Int32))]))
    refine own_Fin.step (fun _ => XS.istore X14.here hx rfl (hb hby at_151) rfl (l' := #[.val (.int p1), .val (.int p2), .val (.int p3), .val (.int p4), .val (.int p5), .val (.int (1 : Int32)), .val (.ref b8), .val (.ref r14), .val (.int (1 : Int32))]) rfl) ?_
    show own_Fin p e below s _ _ _ (T14.setTop (mkF m 153 #[.val (.int p1), .val (.int p2), .val (.int p3), .val (.int p4), .val (.int p5), .val (.int (1 : Int32)), .val (.ref b8), .val (.ref r14), .val (.int (1 : Int32))] []))
    refine own_Fin.step (fun _ => XS.iload X14.here hx rfl (hb hby at_153) rfl) ?_
    show own_Fin p e below s _ _ _ (T14.setTop (mkF m 155 #[.val (.int p1), .val (.int p2), .val (.int p3), .val (.int p4), .val (.int p5), .val (.int (1 : Int32)), .val (.ref b8), .val (.ref r14), .val (.int (1 : Int32))] [(.int (1 : Int32))]))
    refine own_Fin.step (fun _ => XS.ifNo X14.here hx rfl (hb hby at_155) rfl (XT.i0_eq_f (by decide : ¬ ((1 : Int32) = (0 : Int32))))) ?_
    show own_Fin p e below s _ _ _ (T14.setTop (mkF m 158 #[.val (.int p1), .val (.int p2), .val (.int p3), .val (.int p4), .val (.int p5), .val (.int (1 : Int32)), .val (.ref b8), .val (.ref r14), .val (.int (1 : Int32))] []))
    refine own_Fin.step (fun _ => XS.iload X14.here hx rfl (hb hby at_158) rfl) ?_
    show own_Fin p e below s _ _ _ (T14.setTop (mkF m 160 #[.val (.int p1), .val (.int p2), .val (.int p3), .val (.int p4), .val (.int p5), .val (.int (1 : Int32)), .val (.ref b8), .val (.ref r14), .val (.int (1 : Int32))] [(.int (1 : Int32))]))
    refine own_Fin.step (fun _ => XS.ifNo X14.here hx rfl (hb hby at_160) rfl (XT.i0_le_f (by decide : (0 : Int32) < (1 : Int32)))) ?_
    show own_Fin p e below s _ _ _ (T14.setTop (mkF m 163 #[.val (.int p1), .val (.int p2), .val (.int p3), .val (.int p4), .val (.int p5), .val (.int (1 : Int32)), .val (.ref b8), .val (.ref r14), .val (.int (1 : Int32))] []))
    refine own_Fin.step (fun _ => XS.aload X14.here hx rfl (hb hby at_163) rfl rfl) ?_
    show own_Fin p e below s _ _ _ (T14.setTop (mkF m 165 #[.val (.int p1), .val (.int p2), .val (.int p3), .val (.int p4), .val (.int p5), .val (.int (1 : Int32)), .val (.ref b8), .val (.ref r14), .val (.int (1 : Int32))] [(.ref r14)]))
    refine own_Fin.step (fun _ => XS.iconst X14.here hx rfl (hb hby at_165)) ?_
    show own_Fin p e below s _ _ _ (T14.setTop (mkF m 166 #[.val (.int p1), .val (.int p2), .val (.int p3), .val (.int p4), .val (.int p5), .val (.int (1 : Int32)), .val (.ref b8), .val (.ref r14), .val (.int (1 : Int32))] [(.int (0 : Int32)), (.ref r14)]))
    refine own_Fin.step (own_ldFI X14 hx hZ rfl V14 (j := (0 : Int32)) ⟨by decide, by decide⟩ (g := (mkF m 166 #[.val (.int p1), .val (.int p2), .val (.int p3), .val (.int p4), .val (.int p5), .val (.int (1 : Int32)), .val (.ref b8), .val (.ref r14), .val (.int (1 : Int32))] [(.int (0 : Int32)), (.ref r14)])) rfl rfl (hb hby at_166)) ?_
    show own_Fin p e below s _ _ _ (T14.setTop (mkF m 167 #[.val (.int p1), .val (.int p2), .val (.int p3), .val (.int p4), .val (.int p5), .val (.int (1 : Int32)), .val (.ref b8), .val (.ref r14), .val (.int (1 : Int32))] [(.int (gt14 ((0 : Int32)).toNatClampNeg))]))
    refine own_Fin.step (fun _ => XS.aload X14.here hx rfl (hb hby at_167) rfl rfl) ?_
    show own_Fin p e below s _ _ _ (T14.setTop (mkF m 169 #[.val (.int p1), .val (.int p2), .val (.int p3), .val (.int p4), .val (.int p5), .val (.int (1 : Int32)), .val (.ref b8), .val (.ref r14), .val (.int (1 : Int32))] [(.ref b8), (.int (gt14 ((0 : Int32)).toNatClampNeg))]))
    refine own_Fin.step (fun _ => XS.iconst X14.here hx rfl (hb hby at_169)) ?_
    show own_Fin p e below s _ _ _ (T14.setTop (mkF m 170 #[.val (.int p1), .val (.int p2), .val (.int p3), .val (.int p4), .val (.int p5), .val (.int (1 : Int32)), .val (.ref b8), .val (.ref r14), .val (.int (1 : Int32))] [(.int (0 : Int32)), (.ref b8), (.int (gt14 ((0 : Int32)).toNatClampNeg))]))
    obtain ⟨_, T18, L18, X18, ⟨z18, rfl, N18q, e18, hz18⟩, st18⟩ := own_callS X14 hx hZ hown (own_w hw 14 rfl) (own_w hw 15 rfl) (own_w hw 9 rfl) (own_w hw 16 rfl) (by decide) (rm3b0 l Z a0 hw b8 k8 (1 : Int32) f T14.heap n0 Z14 f17 (by decide)) (by decide) (by decide) rfl (W := 1) (g := (mkF m 170 #[.val (.int p1), .val (.int p2), .val (.int p3), .val (.int p4), .val (.int p5), .val (.int (1 : Int32)), .val (.ref b8), .val (.ref r14), .val (.int (1 : Int32))] [(.int (0 : Int32)), (.ref b8), (.int (gt14 ((0 : Int32)).toNatClampNeg))])) rfl (by rw [hml]; rfl) (argsL := [(.ref b8), (.int (0 : Int32))]) (rest := [(.int (gt14 ((0 : Int32)).toNatClampNeg))]) (lenOf pd_4 rfl) rfl rfl (by show 2 * 0 + _ ≤ _; exact Nat.le_of_eq rfl) (hb hby at_170) (by decide) (by decide)
    have N18 := Fr.app N14 N18q
    refine own_Fin.step st18 ?_
    show own_Fin p e below s _ _ _ (T18.setTop (mkF m 173 #[.val (.int p1), .val (.int p2), .val (.int p3), .val (.int p4), .val (.int p5), .val (.int (1 : Int32)), .val (.ref b8), .val (.ref r14), .val (.int (1 : Int32))] [(.int z18), (.int (gt14 ((0 : Int32)).toNatClampNeg))]))
    refine own_Fin.step (fun _ => XS.icmpNo X18.here hx rfl (hb hby at_173) rfl (XT.ii_ne_f (own_uniq (hT14 0 (by decide)) hz18))) ?_
    show own_Fin p e below s _ _ _ (T18.setTop (mkF m 176 #[.val (.int p1), .val (.int p2), .val (.int p3), .val (.int p4), .val (.int p5), .val (.int (1 : Int32)), .val (.ref b8), .val (.ref r14), .val (.int (1 : Int32))] []))
    refine own_Fin.step (fun _ => XS.iconst X18.here hx rfl (hb hby at_176)) ?_
    show own_Fin p e below s _ _ _ (T18.setTop (mkF m 177 #[.val (.int p1), .val (.int p2), .val (.int p3), .val (.int p4), .val (.int p5), .val (.int (1 : Int32)), .val (.ref b8), .val (.ref r14), .val (.int (1 : Int32))] [(.int (1 : Int32))]))
    refine own_Fin.step (fun _ => XS.goto X18.here hx rfl (pc0 := 177) (pc' := 181) rfl (hb hby at_177) (by decide) (by decide)) ?_
    show own_Fin p e below s _ _ _ (T18.setTop (mkF m 181 #[.val (.int p1), .val (.int p2), .val (.int p3), .val (.int p4), .val (.int p5), .val (.int (1 : Int32)), .val (.ref b8), .val (.ref r14), .val (.int (1 : Int32))] [(.int (1 : Int32))]))
    refine own_Fin.step (fun _ => XS.istore X18.here hx rfl (hb hby at_181) rfl (l' := #[.val (.int p1), .val (.int p2), .val (.int p3), .val (.int p4), .val (.int p5), .val (.int (1 : Int32)), .val (.ref b8), .val (.ref r14), .val (.int (1 : Int32))]) rfl) ?_
    show own_Fin p e below s _ _ _ (T18.setTop (mkF m 183 #[.val (.int p1), .val (.int p2), .val (.int p3), .val (.int p4), .val (.int p5), .val (.int (1 : Int32)), .val (.ref b8), .val (.ref r14), .val (.int (1 : Int32))] []))
    refine own_Fin.step (fun _ => XS.iload X18.here hx rfl (hb hby at_183) rfl) ?_
    show own_Fin p e below s _ _ _ (T18.setTop (mkF m 185 #[.val (.int p1), .val (.int p2), .val (.int p3), .val (.int p4), .val (.int p5), .val (.int (1 : Int32)), .val (.ref b8), .val (.ref r14), .val (.int (1 : Int32))] [(.int (1 : Int32))]))
    refine own_Fin.step (fun _ => XS.ifNo X18.here hx rfl (hb hby at_185) rfl (XT.i0_eq_f (by decide : ¬ ((1 : Int32) = (0 : Int32))))) ?_
    show own_Fin p e below s _ _ _ (T18.setTop (mkF m 188 #[.val (.int p1), .val (.int p2), .val (.int p3), .val (.int p4), .val (.int p5), .val (.int (1 : Int32)), .val (.ref b8), .val (.ref r14), .val (.int (1 : Int32))] []))
    refine own_Fin.step (fun _ => XS.iload X18.here hx rfl (hb hby at_188) rfl) ?_
    show own_Fin p e below s _ _ _ (T18.setTop (mkF m 190 #[.val (.int p1), .val (.int p2), .val (.int p3), .val (.int p4), .val (.int p5), .val (.int (1 : Int32)), .val (.ref b8), .val (.ref r14), .val (.int (1 : Int32))] [(.int (1 : Int32))]))
    refine own_Fin.step (fun _ => XS.iconst X18.here hx rfl (hb hby at_190)) ?_
    show own_Fin p e below s _ _ _ (T18.setTop (mkF m 191 #[.val (.int p1), .val (.int p2), .val (.int p3), .val (.int p4), .val (.int p5), .val (.int (1 : Int32)), .val (.ref b8), .val (.ref r14), .val (.int (1 : Int32))] [(.int (1 : Int32)), (.int (1 : Int32))]))
    refine own_Fin.step (fun _ => XS.icmpYes X18.here hx rfl (pc0 := 191) (pc' := 207) rfl (hb hby at_191) rfl (XT.ii_le_t (by decide : ¬ ((1 : Int32) < (1 : Int32)))) (by decide) (by decide)) ?_
    show own_Fin p e below s _ _ _ (T18.setTop (mkF m 207 #[.val (.int p1), .val (.int p2), .val (.int p3), .val (.int p4), .val (.int p5), .val (.int (1 : Int32)), .val (.ref b8), .val (.ref r14), .val (.int (1 : Int32))] []))
    refine own_Fin.step (fun _ => XS.iconst X18.here hx rfl (hb hby at_207)) ?_
    show own_Fin p e below s _ _ _ (T18.setTop (mkF m 208 #[.val (.int p1), .val (.int p2), .val (.int p3), .val (.int p4), .val (.int p5), .val (.int (1 : Int32)), .val (.ref b8), .val (.ref r14), .val (.int (1 : Int32))] [(.int (1 : Int32))]))
    refine own_Fin.step (fun _ => XS.goto X18.here hx rfl (pc0 := 208) (pc' := 212) rfl (hb hby at_208) (by decide) (by decide)) ?_
    show own_Fin p e below s _ _ _ (T18.setTop (mkF m 212 #[.val (.int p1), .val (.int p2), .val (.int p3), .val (.int p4), .val (.int p5), .val (.int (1 : Int32)), .val (.ref b8), .val (.ref r14), .val (.int (1 : Int32))] [(.int (1 : Int32))]))
    refine own_Fin.step (fun _ => XS.istore X18.here hx rfl (hb hby at_212) rfl (l' := #[.val (.int p1), .val (.int p2), .val (.int p3), .val (.int p4), .val (.int p5), .val (.int (1 : Int32)), .val (.ref b8), .val (.ref r14), .val (.int (1 : Int32))]) rfl) ?_
    show own_Fin p e below s _ _ _ (T18.setTop (mkF m 214 #[.val (.int p1), .val (.int p2), .val (.int p3), .val (.int p4), .val (.int p5), .val (.int (1 : Int32)), .val (.ref b8), .val (.ref r14), .val (.int (1 : Int32))] []))
    refine own_Fin.step (fun _ => XS.iload X18.here hx rfl (hb hby at_214) rfl) ?_
    show own_Fin p e below s _ _ _ (T18.setTop (mkF m 216 #[.val (.int p1), .val (.int p2), .val (.int p3), .val (.int p4), .val (.int p5), .val (.int (1 : Int32)), .val (.ref b8), .val (.ref r14), .val (.int (1 : Int32))] [(.int (1 : Int32))]))
    refine own_Fin.step (fun _ => XS.ifNo X18.here hx rfl (hb hby at_216) rfl (XT.i0_eq_f (by decide : ¬ ((1 : Int32) = (0 : Int32))))) ?_
    show own_Fin p e below s _ _ _ (T18.setTop (mkF m 219 #[.val (.int p1), .val (.int p2), .val (.int p3), .val (.int p4), .val (.int p5), .val (.int (1 : Int32)), .val (.ref b8), .val (.ref r14), .val (.int (1 : Int32))] []))
    refine own_Fin.step (fun _ => XS.iload X18.here hx rfl (hb hby at_219) rfl) ?_
    show own_Fin p e below s _ _ _ (T18.setTop (mkF m 221 #[.val (.int p1), .val (.int p2), .val (.int p3), .val (.int p4), .val (.int p5), .val (.int (1 : Int32)), .val (.ref b8), .val (.ref r14), .val (.int (1 : Int32))] [(.int (1 : Int32))]))
    refine own_Fin.step (fun _ => XS.iconst X18.here hx rfl (hb hby at_221)) ?_
    show own_Fin p e below s _ _ _ (T18.setTop (mkF m 222 #[.val (.int p1), .val (.int p2), .val (.int p3), .val (.int p4), .val (.int p5), .val (.int (1 : Int32)), .val (.ref b8), .val (.ref r14), .val (.int (1 : Int32))] [(.int (2 : Int32)), (.int (1 : Int32))]))
    refine own_Fin.step (fun _ => XS.icmpYes X18.here hx rfl (pc0 := 222) (pc' := 238) rfl (hb hby at_222) rfl (XT.ii_le_t (by decide : ¬ ((2 : Int32) < (1 : Int32)))) (by decide) (by decide)) ?_
    show own_Fin p e below s _ _ _ (T18.setTop (mkF m 238 #[.val (.int p1), .val (.int p2), .val (.int p3), .val (.int p4), .val (.int p5), .val (.int (1 : Int32)), .val (.ref b8), .val (.ref r14), .val (.int (1 : Int32))] []))
    refine own_Fin.step (fun _ => XS.iconst X18.here hx rfl (hb hby at_238)) ?_
    show own_Fin p e below s _ _ _ (T18.setTop (mkF m 239 #[.val (.int p1), .val (.int p2), .val (.int p3), .val (.int p4), .val (.int p5), .val (.int (1 : Int32)), .val (.ref b8), .val (.ref r14), .val (.int (1 : Int32))] [(.int (1 : Int32))]))
    refine own_Fin.step (fun _ => XS.goto X18.here hx rfl (pc0 := 239) (pc' := 243) rfl (hb hby at_239) (by decide) (by decide)) ?_
    show own_Fin p e below s _ _ _ (T18.setTop (mkF m 243 #[.val (.int p1), .val (.int p2), .val (.int p3), .val (.int p4), .val (.int p5), .val (.int (1 : Int32)), .val (.ref b8), .val (.ref r14), .val (.int (1 : Int32))] [(.int (1 : Int32))]))
    refine own_Fin.step (fun _ => XS.istore X18.here hx rfl (hb hby at_243) rfl (l' := #[.val (.int p1), .val (.int p2), .val (.int p3), .val (.int p4), .val (.int p5), .val (.int (1 : Int32)), .val (.ref b8), .val (.ref r14), .val (.int (1 : Int32))]) rfl) ?_
    show own_Fin p e below s _ _ _ (T18.setTop (mkF m 245 #[.val (.int p1), .val (.int p2), .val (.int p3), .val (.int p4), .val (.int p5), .val (.int (1 : Int32)), .val (.ref b8), .val (.ref r14), .val (.int (1 : Int32))] []))
    refine own_Fin.step (fun _ => XS.iload X18.here hx rfl (hb hby at_245) rfl) ?_
    show own_Fin p e below s _ _ _ (T18.setTop (mkF m 247 #[.val (.int p1), .val (.int p2), .val (.int p3), .val (.int p4), .val (.int p5), .val (.int (1 : Int32)), .val (.ref b8), .val (.ref r14), .val (.int (1 : Int32))] [(.int (1 : Int32))]))
    refine own_Fin.step (fun _ => XS.ifNo X18.here hx rfl (hb hby at_247) rfl (XT.i0_eq_f (by decide : ¬ ((1 : Int32) = (0 : Int32))))) ?_
    show own_Fin p e below s _ _ _ (T18.setTop (mkF m 250 #[.val (.int p1), .val (.int p2), .val (.int p3), .val (.int p4), .val (.int p5), .val (.int (1 : Int32)), .val (.ref b8), .val (.ref r14), .val (.int (1 : Int32))] []))
    refine own_Fin.step (fun _ => XS.iload X18.here hx rfl (hb hby at_250) rfl) ?_
    show own_Fin p e below s _ _ _ (T18.setTop (mkF m 252 #[.val (.int p1), .val (.int p2), .val (.int p3), .val (.int p4), .val (.int p5), .val (.int (1 : Int32)), .val (.ref b8), .val (.ref r14), .val (.int (1 : Int32))] [(.int (1 : Int32))]))
    refine own_Fin.step (fun _ => XS.iconst X18.here hx rfl (hb hby at_252)) ?_
    show own_Fin p e below s _ _ _ (T18.setTop (mkF m 253 #[.val (.int p1), .val (.int p2), .val (.int p3), .val (.int p4), .val (.int p5), .val (.int (1 : Int32)), .val (.ref b8), .val (.ref r14), .val (.int (1 : Int32))] [(.int (3 : Int32)), (.int (1 : Int32))]))
    refine own_Fin.step (fun _ => XS.icmpYes X18.here hx rfl (pc0 := 253) (pc' := 269) rfl (hb hby at_253) rfl (XT.ii_le_t (by decide : ¬ ((3 : Int32) < (1 : Int32)))) (by decide) (by decide)) ?_
    show own_Fin p e below s _ _ _ (T18.setTop (mkF m 269 #[.val (.int p1), .val (.int p2), .val (.int p3), .val (.int p4), .val (.int p5), .val (.int (1 : Int32)), .val (.ref b8), .val (.ref r14), .val (.int (1 : Int32))] []))
    refine own_Fin.step (fun _ => XS.iconst X18.here hx rfl (hb hby at_269)) ?_
    show own_Fin p e below s _ _ _ (T18.setTop (mkF m 270 #[.val (.int p1), .val (.int p2), .val (.int p3), .val (.int p4), .val (.int p5), .val (.int (1 : Int32)), .val (.ref b8), .val (.ref r14), .val (.int (1 : Int32))] [(.int (1 : Int32))]))
    refine own_Fin.step (fun _ => XS.goto X18.here hx rfl (pc0 := 270) (pc' := 274) rfl (hb hby at_270) (by decide) (by decide)) ?_
    show own_Fin p e below s _ _ _ (T18.setTop (mkF m 274 #[.val (.int p1), .val (.int p2), .val (.int p3), .val (.int p4), .val (.int p5), .val (.int (1 : Int32)), .val (.ref b8), .val (.ref r14), .val (.int (1 : Int32))] [(.int (1 : Int32))]))
    refine own_Fin.step (fun _ => XS.istore X18.here hx rfl (hb hby at_274) rfl (l' := #[.val (.int p1), .val (.int p2), .val (.int p3), .val (.int p4), .val (.int p5), .val (.int (1 : Int32)), .val (.ref b8), .val (.ref r14), .val (.int (1 : Int32))]) rfl) ?_
    show own_Fin p e below s _ _ _ (T18.setTop (mkF m 276 #[.val (.int p1), .val (.int p2), .val (.int p3), .val (.int p4), .val (.int p5), .val (.int (1 : Int32)), .val (.ref b8), .val (.ref r14), .val (.int (1 : Int32))] []))
    refine own_Fin.step (fun _ => XS.iload X18.here hx rfl (hb hby at_276) rfl) ?_
    show own_Fin p e below s _ _ _ (T18.setTop (mkF m 278 #[.val (.int p1), .val (.int p2), .val (.int p3), .val (.int p4), .val (.int p5), .val (.int (1 : Int32)), .val (.ref b8), .val (.ref r14), .val (.int (1 : Int32))] [(.int (1 : Int32))]))
    refine own_Fin.step (fun _ => XS.ifNo X18.here hx rfl (hb hby at_278) rfl (XT.i0_eq_f (by decide : ¬ ((1 : Int32) = (0 : Int32))))) ?_
    show own_Fin p e below s _ _ _ (T18.setTop (mkF m 281 #[.val (.int p1), .val (.int p2), .val (.int p3), .val (.int p4), .val (.int p5), .val (.int (1 : Int32)), .val (.ref b8), .val (.ref r14), .val (.int (1 : Int32))] []))
    refine own_Fin.step (fun _ => XS.iload X18.here hx rfl (hb hby at_281) rfl) ?_
    show own_Fin p e below s _ _ _ (T18.setTop (mkF m 283 #[.val (.int p1), .val (.int p2), .val (.int p3), .val (.int p4), .val (.int p5), .val (.int (1 : Int32)), .val (.ref b8), .val (.ref r14), .val (.int (1 : Int32))] [(.int (1 : Int32))]))
    refine own_Fin.step (fun _ => XS.iconst X18.here hx rfl (hb hby at_283)) ?_
    show own_Fin p e below s _ _ _ (T18.setTop (mkF m 284 #[.val (.int p1), .val (.int p2), .val (.int p3), .val (.int p4), .val (.int p5), .val (.int (1 : Int32)), .val (.ref b8), .val (.ref r14), .val (.int (1 : Int32))] [(.int (4 : Int32)), (.int (1 : Int32))]))
    refine own_Fin.step (fun _ => XS.icmpYes X18.here hx rfl (pc0 := 284) (pc' := 300) rfl (hb hby at_284) rfl (XT.ii_le_t (by decide : ¬ ((4 : Int32) < (1 : Int32)))) (by decide) (by decide)) ?_
    show own_Fin p e below s _ _ _ (T18.setTop (mkF m 300 #[.val (.int p1), .val (.int p2), .val (.int p3), .val (.int p4), .val (.int p5), .val (.int (1 : Int32)), .val (.ref b8), .val (.ref r14), .val (.int (1 : Int32))] []))
    refine own_Fin.step (fun _ => XS.iconst X18.here hx rfl (hb hby at_300)) ?_
    show own_Fin p e below s _ _ _ (T18.setTop (mkF m 301 #[.val (.int p1), .val (.int p2), .val (.int p3), .val (.int p4), .val (.int p5), .val (.int (1 : Int32)), .val (.ref b8), .val (.ref r14), .val (.int (1 : Int32))] [(.int (1 : Int32))]))
    refine own_Fin.step (fun _ => XS.goto X18.here hx rfl (pc0 := 301) (pc' := 305) rfl (hb hby at_301) (by decide) (by decide)) ?_
    show own_Fin p e below s _ _ _ (T18.setTop (mkF m 305 #[.val (.int p1), .val (.int p2), .val (.int p3), .val (.int p4), .val (.int p5), .val (.int (1 : Int32)), .val (.ref b8), .val (.ref r14), .val (.int (1 : Int32))] [(.int (1 : Int32))]))
    refine own_Fin.step (fun _ => XS.istore X18.here hx rfl (hb hby at_305) rfl (l' := #[.val (.int p1), .val (.int p2), .val (.int p3), .val (.int p4), .val (.int p5), .val (.int (1 : Int32)), .val (.ref b8), .val (.ref r14), .val (.int (1 : Int32))]) rfl) ?_
    show own_Fin p e below s _ _ _ (T18.setTop (mkF m 307 #[.val (.int p1), .val (.int p2), .val (.int p3), .val (.int p4), .val (.int p5), .val (.int (1 : Int32)), .val (.ref b8), .val (.ref r14), .val (.int (1 : Int32))] []))
    refine own_Fin.step (fun _ => XS.iload X18.here hx rfl (hb hby at_307) rfl) ?_
    show own_Fin p e below s _ _ _ (T18.setTop (mkF m 309 #[.val (.int p1), .val (.int p2), .val (.int p3), .val (.int p4), .val (.int p5), .val (.int (1 : Int32)), .val (.ref b8), .val (.ref r14), .val (.int (1 : Int32))] [(.int (1 : Int32))]))
    refine own_Fin.step (fun _ => XS.ifNo X18.here hx rfl (hb hby at_309) rfl (XT.i0_eq_f (by decide : ¬ ((1 : Int32) = (0 : Int32))))) ?_
    show own_Fin p e below s _ _ _ (T18.setTop (mkF m 312 #[.val (.int p1), .val (.int p2), .val (.int p3), .val (.int p4), .val (.int p5), .val (.int (1 : Int32)), .val (.ref b8), .val (.ref r14), .val (.int (1 : Int32))] []))
    refine own_Fin.step (fun _ => XS.iload X18.here hx rfl (hb hby at_312) rfl) ?_
    show own_Fin p e below s _ _ _ (T18.setTop (mkF m 314 #[.val (.int p1), .val (.int p2), .val (.int p3), .val (.int p4), .val (.int p5), .val (.int (1 : Int32)), .val (.ref b8), .val (.ref r14), .val (.int (1 : Int32))] [(.int (1 : Int32))]))
    refine own_Fin.step (fun _ => XS.iconst X18.here hx rfl (hb hby at_314)) ?_
    show own_Fin p e below s _ _ _ (T18.setTop (mkF m 315 #[.val (.int p1), .val (.int p2), .val (.int p3), .val (.int p4), .val (.int p5), .val (.int (1 : Int32)), .val (.ref b8), .val (.ref r14), .val (.int (1 : Int32))] [(.int (5 : Int32)), (.int (1 : Int32))]))
    refine own_Fin.step (fun _ => XS.icmpYes X18.here hx rfl (pc0 := 315) (pc' := 331) rfl (hb hby at_315) rfl (XT.ii_le_t (by decide : ¬ ((5 : Int32) < (1 : Int32)))) (by decide) (by decide)) ?_
    show own_Fin p e below s _ _ _ (T18.setTop (mkF m 331 #[.val (.int p1), .val (.int p2), .val (.int p3), .val (.int p4), .val (.int p5), .val (.int (1 : Int32)), .val (.ref b8), .val (.ref r14), .val (.int (1 : Int32))] []))
    refine own_Fin.step (fun _ => XS.iconst X18.here hx rfl (hb hby at_331)) ?_
    show own_Fin p e below s _ _ _ (T18.setTop (mkF m 332 #[.val (.int p1), .val (.int p2), .val (.int p3), .val (.int p4), .val (.int p5), .val (.int (1 : Int32)), .val (.ref b8), .val (.ref r14), .val (.int (1 : Int32))] [(.int (1 : Int32))]))
    refine own_Fin.step (fun _ => XS.goto X18.here hx rfl (pc0 := 332) (pc' := 336) rfl (hb hby at_332) (by decide) (by decide)) ?_
    show own_Fin p e below s _ _ _ (T18.setTop (mkF m 336 #[.val (.int p1), .val (.int p2), .val (.int p3), .val (.int p4), .val (.int p5), .val (.int (1 : Int32)), .val (.ref b8), .val (.ref r14), .val (.int (1 : Int32))] [(.int (1 : Int32))]))
    refine own_Fin.step (fun _ => XS.istore X18.here hx rfl (hb hby at_336) rfl (l' := #[.val (.int p1), .val (.int p2), .val (.int p3), .val (.int p4), .val (.int p5), .val (.int (1 : Int32)), .val (.ref b8), .val (.ref r14), .val (.int (1 : Int32))]) rfl) ?_
    show own_Fin p e below s _ _ _ (T18.setTop (mkF m 338 #[.val (.int p1), .val (.int p2), .val (.int p3), .val (.int p4), .val (.int p5), .val (.int (1 : Int32)), .val (.ref b8), .val (.ref r14), .val (.int (1 : Int32))] []))
    refine own_Fin.step (fun _ => XS.iload X18.here hx rfl (hb hby at_338) rfl) ?_
    show own_Fin p e below s _ _ _ (T18.setTop (mkF m 340 #[.val (.int p1), .val (.int p2), .val (.int p3), .val (.int p4), .val (.int p5), .val (.int (1 : Int32)), .val (.ref b8), .val (.ref r14), .val (.int (1 : Int32))] [(.int (1 : Int32))]))
    exact own_retN X18 hx hlk (t := .boolean) hret (by simp) (hb hby at_340) ⟨rfl, N18⟩ (by decide) (by decide)
  ·
    show own_Fin p e below s _ _ _ (s₁.setTop (mkF m 7 #[.val (.int p1), .val (.int p2), .val (.int p3), .val (.int p4), .val (.int p5), .unset, .unset, .unset, .unset] [(.int (2 : Int32))]))
    refine own_Fin.step (fun _ => XS.istore X0.here hx rfl (hb hby at_7) rfl (l' := #[.val (.int p1), .val (.int p2), .val (.int p3), .val (.int p4), .val (.int p5), .val (.int (2 : Int32)), .unset, .unset, .unset]) rfl) ?_
    show own_Fin p e below s _ _ _ (s₁.setTop (mkF m 9 #[.val (.int p1), .val (.int p2), .val (.int p3), .val (.int p4), .val (.int p5), .val (.int (2 : Int32)), .unset, .unset, .unset] []))
    refine own_Fin.step (fun _ => XS.iload X0.here hx rfl (hb hby at_9) rfl) ?_
    show own_Fin p e below s _ _ _ (s₁.setTop (mkF m 11 #[.val (.int p1), .val (.int p2), .val (.int p3), .val (.int p4), .val (.int p5), .val (.int (2 : Int32)), .unset, .unset, .unset] [(.int (2 : Int32))]))
    obtain ⟨T19, h19, k19, b19, X19, e19, E19, g19, V19, st19⟩ := own_newA X0 hx hZ (own_w hw 1 rfl) e0 (ty := .byte) (dv := (.int (0 : Int32))) rfl rfl (g := (mkF m 11 #[.val (.int p1), .val (.int p2), .val (.int p3), .val (.int p4), .val (.int p5), .val (.int (2 : Int32)), .unset, .unset, .unset] [(.int (2 : Int32))])) rfl (hb hby at_11) rfl (by decide) (cap := 2) (by decide) (by decide) (by decide) (by decide) (2)
    have ge20 : n0 ≤ b19 := Nat.le_trans Z0 (Nat.le_of_eq g19.symm)
    have Z19 : n0 ≤ h19.size := Nat.le_trans Z0 E19.1
    have V19' : Arv Z h19 b19 k19 .byte (2 : Int32) [(.int (0 : Int32)), (.int (0 : Int32))] (.int (0 : Int32)) := V19
    refine own_Fin.step st19 ?_
    show own_Fin p e below s _ _ _ (T19.setTop (mkF m 13 #[.val (.int p1), .val (.int p2), .val (.int p3), .val (.int p4), .val (.int p5), .val (.int (2 : Int32)), .unset, .unset, .unset] [(.ref b19)]))
    have Vf21 := own_Arf.of (N := 2) V19'
    refine own_Fin.step (fun _ => XS.astore X19.here hx rfl (hb hby at_13) rfl rfl (l' := #[.val (.int p1), .val (.int p2), .val (.int p3), .val (.int p4), .val (.int p5), .val (.int (2 : Int32)), .val (.ref b19), .unset, .unset]) rfl) ?_
    show own_Fin p e below s _ _ _ (T19.setTop (mkF m 15 #[.val (.int p1), .val (.int p2), .val (.int p3), .val (.int p4), .val (.int p5), .val (.int (2 : Int32)), .val (.ref b19), .unset, .unset] []))
    refine own_Fin.step (fun _ => XS.iload X19.here hx rfl (hb hby at_15) rfl) ?_
    show own_Fin p e below s _ _ _ (T19.setTop (mkF m 17 #[.val (.int p1), .val (.int p2), .val (.int p3), .val (.int p4), .val (.int p5), .val (.int (2 : Int32)), .val (.ref b19), .unset, .unset] [(.int (2 : Int32))]))
    refine own_Fin.step (fun _ => XS.ifNo X19.here hx rfl (hb hby at_17) rfl (XT.i0_le_f (by decide : (0 : Int32) < (2 : Int32)))) ?_
    show own_Fin p e below s _ _ _ (T19.setTop (mkF m 20 #[.val (.int p1), .val (.int p2), .val (.int p3), .val (.int p4), .val (.int p5), .val (.int (2 : Int32)), .val (.ref b19), .unset, .unset] []))
    refine own_Fin.step (fun _ => XS.aload X19.here hx rfl (hb hby at_20) rfl rfl) ?_
    show own_Fin p e below s _ _ _ (T19.setTop (mkF m 22 #[.val (.int p1), .val (.int p2), .val (.int p3), .val (.int p4), .val (.int p5), .val (.int (2 : Int32)), .val (.ref b19), .unset, .unset] [(.ref b19)]))
    refine own_Fin.step (fun _ => XS.iconst X19.here hx rfl (hb hby at_22)) ?_
    show own_Fin p e below s _ _ _ (T19.setTop (mkF m 23 #[.val (.int p1), .val (.int p2), .val (.int p3), .val (.int p4), .val (.int p5), .val (.int (2 : Int32)), .val (.ref b19), .unset, .unset] [(.int (0 : Int32)), (.ref b19)]))
    refine own_Fin.step (fun _ => XS.iload X19.here hx rfl (hb hby at_23) rfl) ?_
    show own_Fin p e below s _ _ _ (T19.setTop (mkF m 25 #[.val (.int p1), .val (.int p2), .val (.int p3), .val (.int p4), .val (.int p5), .val (.int (2 : Int32)), .val (.ref b19), .unset, .unset] [(.int p5), (.int (0 : Int32)), (.ref b19)]))
    refine own_Fin.step (fun _ => XS.iconst X19.here hx rfl (hb hby at_25)) ?_
    show own_Fin p e below s _ _ _ (T19.setTop (mkF m 26 #[.val (.int p1), .val (.int p2), .val (.int p3), .val (.int p4), .val (.int p5), .val (.int (2 : Int32)), .val (.ref b19), .unset, .unset] [(.int (0 : Int32)), (.int p5), (.int (0 : Int32)), (.ref b19)]))
    refine own_Fin.step (fun _ => XS.iloadN X19.here hx rfl (hb hby at_26) rfl) ?_
    show own_Fin p e below s _ _ _ (T19.setTop (mkF m 27 #[.val (.int p1), .val (.int p2), .val (.int p3), .val (.int p4), .val (.int p5), .val (.int (2 : Int32)), .val (.ref b19), .unset, .unset] [(.int p2), (.int (0 : Int32)), (.int p5), (.int (0 : Int32)), (.ref b19)]))
    refine own_Fin.step (fun _ => XS.iloadN X19.here hx rfl (hb hby at_27) rfl) ?_
    show own_Fin p e below s _ _ _ (T19.setTop (mkF m 28 #[.val (.int p1), .val (.int p2), .val (.int p3), .val (.int p4), .val (.int p5), .val (.int (2 : Int32)), .val (.ref b19), .unset, .unset] [(.int p3), (.int p2), (.int (0 : Int32)), (.int p5), (.int (0 : Int32)), (.ref b19)]))
    refine own_Fin.step (fun _ => XS.iloadN X19.here hx rfl (hb hby at_28) rfl) ?_
    show own_Fin p e below s _ _ _ (T19.setTop (mkF m 29 #[.val (.int p1), .val (.int p2), .val (.int p3), .val (.int p4), .val (.int p5), .val (.int (2 : Int32)), .val (.ref b19), .unset, .unset] [(.int p4), (.int p3), (.int p2), (.int (0 : Int32)), (.int p5), (.int (0 : Int32)), (.ref b19)]))
    obtain ⟨_, T22, L22, X22, ⟨z22, rfl, N22q, e22⟩, st22⟩ := own_callS X19 hx hZ hown (own_w hw 7 rfl) (own_w hw 8 rfl) (own_w hw 9 rfl) (own_w hw 10 rfl) (by decide) (rm1 l Z a0 hw p5 (0 : Int32) p2 p3 p4 h19 n0 Z19) (by decide) (by decide) e19 (W := 2) (g := (mkF m 29 #[.val (.int p1), .val (.int p2), .val (.int p3), .val (.int p4), .val (.int p5), .val (.int (2 : Int32)), .val (.ref b19), .unset, .unset] [(.int p4), (.int p3), (.int p2), (.int (0 : Int32)), (.int p5), (.int (0 : Int32)), (.ref b19)])) rfl (by rw [hml]; rfl) (argsL := [(.int p5), (.int (0 : Int32)), (.int p2), (.int p3), (.int p4)]) (rest := [(.int (0 : Int32)), (.ref b19)]) (lenOf pd_3 rfl) rfl rfl (by show 2 * 0 + _ ≤ _; exact Nat.le_of_eq rfl) (hb hby at_29) (by decide) (by decide)
    have N22 := Fr.app N0 N22q
    refine own_Fin.step st22 ?_
    show own_Fin p e below s _ _ _ (T22.setTop (mkF m 32 #[.val (.int p1), .val (.int p2), .val (.int p3), .val (.int p4), .val (.int p5), .val (.int (2 : Int32)), .val (.ref b19), .unset, .unset] [(.int z22), (.int (0 : Int32)), (.ref b19)]))
    obtain ⟨T23, h23, X23, e23, V23, W23, st23⟩ := own_stFB X22 hx hZ e22 Vf21 (j := (0 : Int32)) ⟨by decide, by decide⟩ (g := (mkF m 32 #[.val (.int p1), .val (.int p2), .val (.int p3), .val (.int p4), .val (.int p5), .val (.int (2 : Int32)), .val (.ref b19), .unset, .unset] [(.int z22), (.int (0 : Int32)), (.ref b19)])) rfl rfl (hb hby at_32)
    have N23 := Fr.snoc X23 N22 ge20
    have Z23 : n0 ≤ h23.size := Nat.le_trans Z19 (Nat.le_of_eq W23.size.symm)
    refine own_Fin.step st23 ?_
    show own_Fin p e below s _ _ _ (T23.setTop (mkF m 33 #[.val (.int p1), .val (.int p2), .val (.int p3), .val (.int p4), .val (.int p5), .val (.int (2 : Int32)), .val (.ref b19), .unset, .unset] []))
    refine own_Fin.step (fun _ => XS.iload X23.here hx rfl (hb hby at_33) rfl) ?_
    show own_Fin p e below s _ _ _ (T23.setTop (mkF m 35 #[.val (.int p1), .val (.int p2), .val (.int p3), .val (.int p4), .val (.int p5), .val (.int (2 : Int32)), .val (.ref b19), .unset, .unset] [(.int (2 : Int32))]))
    refine own_Fin.step (fun _ => XS.iconst X23.here hx rfl (hb hby at_35)) ?_
    show own_Fin p e below s _ _ _ (T23.setTop (mkF m 36 #[.val (.int p1), .val (.int p2), .val (.int p3), .val (.int p4), .val (.int p5), .val (.int (2 : Int32)), .val (.ref b19), .unset, .unset] [(.int (1 : Int32)), (.int (2 : Int32))]))
    refine own_Fin.step (fun _ => XS.icmpNo X23.here hx rfl (hb hby at_36) rfl (XT.ii_le_f (by decide : (1 : Int32) < (2 : Int32)))) ?_
    show own_Fin p e below s _ _ _ (T23.setTop (mkF m 39 #[.val (.int p1), .val (.int p2), .val (.int p3), .val (.int p4), .val (.int p5), .val (.int (2 : Int32)), .val (.ref b19), .unset, .unset] []))
    refine own_Fin.step (fun _ => XS.aload X23.here hx rfl (hb hby at_39) rfl rfl) ?_
    show own_Fin p e below s _ _ _ (T23.setTop (mkF m 41 #[.val (.int p1), .val (.int p2), .val (.int p3), .val (.int p4), .val (.int p5), .val (.int (2 : Int32)), .val (.ref b19), .unset, .unset] [(.ref b19)]))
    refine own_Fin.step (fun _ => XS.iconst X23.here hx rfl (hb hby at_41)) ?_
    show own_Fin p e below s _ _ _ (T23.setTop (mkF m 42 #[.val (.int p1), .val (.int p2), .val (.int p3), .val (.int p4), .val (.int p5), .val (.int (2 : Int32)), .val (.ref b19), .unset, .unset] [(.int (1 : Int32)), (.ref b19)]))
    refine own_Fin.step (fun _ => XS.iload X23.here hx rfl (hb hby at_42) rfl) ?_
    show own_Fin p e below s _ _ _ (T23.setTop (mkF m 44 #[.val (.int p1), .val (.int p2), .val (.int p3), .val (.int p4), .val (.int p5), .val (.int (2 : Int32)), .val (.ref b19), .unset, .unset] [(.int p5), (.int (1 : Int32)), (.ref b19)]))
    refine own_Fin.step (fun _ => XS.iconst X23.here hx rfl (hb hby at_44)) ?_
    show own_Fin p e below s _ _ _ (T23.setTop (mkF m 45 #[.val (.int p1), .val (.int p2), .val (.int p3), .val (.int p4), .val (.int p5), .val (.int (2 : Int32)), .val (.ref b19), .unset, .unset] [(.int (1 : Int32)), (.int p5), (.int (1 : Int32)), (.ref b19)]))
    refine own_Fin.step (fun _ => XS.iloadN X23.here hx rfl (hb hby at_45) rfl) ?_
    show own_Fin p e below s _ _ _ (T23.setTop (mkF m 46 #[.val (.int p1), .val (.int p2), .val (.int p3), .val (.int p4), .val (.int p5), .val (.int (2 : Int32)), .val (.ref b19), .unset, .unset] [(.int p2), (.int (1 : Int32)), (.int p5), (.int (1 : Int32)), (.ref b19)]))
    refine own_Fin.step (fun _ => XS.iloadN X23.here hx rfl (hb hby at_46) rfl) ?_
    show own_Fin p e below s _ _ _ (T23.setTop (mkF m 47 #[.val (.int p1), .val (.int p2), .val (.int p3), .val (.int p4), .val (.int p5), .val (.int (2 : Int32)), .val (.ref b19), .unset, .unset] [(.int p3), (.int p2), (.int (1 : Int32)), (.int p5), (.int (1 : Int32)), (.ref b19)]))
    refine own_Fin.step (fun _ => XS.iloadN X23.here hx rfl (hb hby at_47) rfl) ?_
    show own_Fin p e below s _ _ _ (T23.setTop (mkF m 48 #[.val (.int p1), .val (.int p2), .val (.int p3), .val (.int p4), .val (.int p5), .val (.int (2 : Int32)), .val (.ref b19), .unset, .unset] [(.int p4), (.int p3), (.int p2), (.int (1 : Int32)), (.int p5), (.int (1 : Int32)), (.ref b19)]))
    obtain ⟨_, T25, L25, X25, ⟨z25, rfl, N25q, e25⟩, st25⟩ := own_callS X23 hx hZ hown (own_w hw 7 rfl) (own_w hw 8 rfl) (own_w hw 9 rfl) (own_w hw 10 rfl) (by decide) (rm1 l Z a0 hw p5 (1 : Int32) p2 p3 p4 h23 n0 Z23) (by decide) (by decide) e23 (W := 2) (g := (mkF m 48 #[.val (.int p1), .val (.int p2), .val (.int p3), .val (.int p4), .val (.int p5), .val (.int (2 : Int32)), .val (.ref b19), .unset, .unset] [(.int p4), (.int p3), (.int p2), (.int (1 : Int32)), (.int p5), (.int (1 : Int32)), (.ref b19)])) rfl (by rw [hml]; rfl) (argsL := [(.int p5), (.int (1 : Int32)), (.int p2), (.int p3), (.int p4)]) (rest := [(.int (1 : Int32)), (.ref b19)]) (lenOf pd_3 rfl) rfl rfl (by show 2 * 0 + _ ≤ _; exact Nat.le_of_eq rfl) (hb hby at_48) (by decide) (by decide)
    have N25 := Fr.app N23 N25q
    refine own_Fin.step st25 ?_
    show own_Fin p e below s _ _ _ (T25.setTop (mkF m 51 #[.val (.int p1), .val (.int p2), .val (.int p3), .val (.int p4), .val (.int p5), .val (.int (2 : Int32)), .val (.ref b19), .unset, .unset] [(.int z25), (.int (1 : Int32)), (.ref b19)]))
    obtain ⟨T26, h26, X26, e26, V26, W26, st26⟩ := own_stFB X25 hx hZ e25 V23 (j := (1 : Int32)) ⟨by decide, by decide⟩ (g := (mkF m 51 #[.val (.int p1), .val (.int p2), .val (.int p3), .val (.int p4), .val (.int p5), .val (.int (2 : Int32)), .val (.ref b19), .unset, .unset] [(.int z25), (.int (1 : Int32)), (.ref b19)])) rfl rfl (hb hby at_51)
    have N26 := Fr.snoc X26 N25 ge20
    have Z26 : n0 ≤ h26.size := Nat.le_trans Z23 (Nat.le_of_eq W26.size.symm)
    refine own_Fin.step st26 ?_
    show own_Fin p e below s _ _ _ (T26.setTop (mkF m 52 #[.val (.int p1), .val (.int p2), .val (.int p3), .val (.int p4), .val (.int p5), .val (.int (2 : Int32)), .val (.ref b19), .unset, .unset] []))
    refine own_Fin.step (fun _ => XS.iload X26.here hx rfl (hb hby at_52) rfl) ?_
    show own_Fin p e below s _ _ _ (T26.setTop (mkF m 54 #[.val (.int p1), .val (.int p2), .val (.int p3), .val (.int p4), .val (.int p5), .val (.int (2 : Int32)), .val (.ref b19), .unset, .unset] [(.int (2 : Int32))]))
    refine own_Fin.step (fun _ => XS.iconst X26.here hx rfl (hb hby at_54)) ?_
    show own_Fin p e below s _ _ _ (T26.setTop (mkF m 55 #[.val (.int p1), .val (.int p2), .val (.int p3), .val (.int p4), .val (.int p5), .val (.int (2 : Int32)), .val (.ref b19), .unset, .unset] [(.int (2 : Int32)), (.int (2 : Int32))]))
    refine own_Fin.step (fun _ => XS.icmpYes X26.here hx rfl (pc0 := 55) (pc' := 71) rfl (hb hby at_55) rfl (XT.ii_le_t (by decide : ¬ ((2 : Int32) < (2 : Int32)))) (by decide) (by decide)) ?_
    show own_Fin p e below s _ _ _ (T26.setTop (mkF m 71 #[.val (.int p1), .val (.int p2), .val (.int p3), .val (.int p4), .val (.int p5), .val (.int (2 : Int32)), .val (.ref b19), .unset, .unset] []))
    refine own_Fin.step (fun _ => XS.iload X26.here hx rfl (hb hby at_71) rfl) ?_
    show own_Fin p e below s _ _ _ (T26.setTop (mkF m 73 #[.val (.int p1), .val (.int p2), .val (.int p3), .val (.int p4), .val (.int p5), .val (.int (2 : Int32)), .val (.ref b19), .unset, .unset] [(.int (2 : Int32))]))
    refine own_Fin.step (fun _ => XS.iconst X26.here hx rfl (hb hby at_73)) ?_
    show own_Fin p e below s _ _ _ (T26.setTop (mkF m 74 #[.val (.int p1), .val (.int p2), .val (.int p3), .val (.int p4), .val (.int p5), .val (.int (2 : Int32)), .val (.ref b19), .unset, .unset] [(.int (3 : Int32)), (.int (2 : Int32))]))
    refine own_Fin.step (fun _ => XS.icmpYes X26.here hx rfl (pc0 := 74) (pc' := 90) rfl (hb hby at_74) rfl (XT.ii_le_t (by decide : ¬ ((3 : Int32) < (2 : Int32)))) (by decide) (by decide)) ?_
    show own_Fin p e below s _ _ _ (T26.setTop (mkF m 90 #[.val (.int p1), .val (.int p2), .val (.int p3), .val (.int p4), .val (.int p5), .val (.int (2 : Int32)), .val (.ref b19), .unset, .unset] []))
    refine own_Fin.step (fun _ => XS.iload X26.here hx rfl (hb hby at_90) rfl) ?_
    show own_Fin p e below s _ _ _ (T26.setTop (mkF m 92 #[.val (.int p1), .val (.int p2), .val (.int p3), .val (.int p4), .val (.int p5), .val (.int (2 : Int32)), .val (.ref b19), .unset, .unset] [(.int (2 : Int32))]))
    refine own_Fin.step (fun _ => XS.iconst X26.here hx rfl (hb hby at_92)) ?_
    show own_Fin p e below s _ _ _ (T26.setTop (mkF m 93 #[.val (.int p1), .val (.int p2), .val (.int p3), .val (.int p4), .val (.int p5), .val (.int (2 : Int32)), .val (.ref b19), .unset, .unset] [(.int (4 : Int32)), (.int (2 : Int32))]))
    refine own_Fin.step (fun _ => XS.icmpYes X26.here hx rfl (pc0 := 93) (pc' := 109) rfl (hb hby at_93) rfl (XT.ii_le_t (by decide : ¬ ((4 : Int32) < (2 : Int32)))) (by decide) (by decide)) ?_
    show own_Fin p e below s _ _ _ (T26.setTop (mkF m 109 #[.val (.int p1), .val (.int p2), .val (.int p3), .val (.int p4), .val (.int p5), .val (.int (2 : Int32)), .val (.ref b19), .unset, .unset] []))
    refine own_Fin.step (fun _ => XS.iload X26.here hx rfl (hb hby at_109) rfl) ?_
    show own_Fin p e below s _ _ _ (T26.setTop (mkF m 111 #[.val (.int p1), .val (.int p2), .val (.int p3), .val (.int p4), .val (.int p5), .val (.int (2 : Int32)), .val (.ref b19), .unset, .unset] [(.int (2 : Int32))]))
    refine own_Fin.step (fun _ => XS.iconst X26.here hx rfl (hb hby at_111)) ?_
    show own_Fin p e below s _ _ _ (T26.setTop (mkF m 112 #[.val (.int p1), .val (.int p2), .val (.int p3), .val (.int p4), .val (.int p5), .val (.int (2 : Int32)), .val (.ref b19), .unset, .unset] [(.int (5 : Int32)), (.int (2 : Int32))]))
    refine own_Fin.step (fun _ => XS.icmpYes X26.here hx rfl (pc0 := 112) (pc' := 128) rfl (hb hby at_112) rfl (XT.ii_le_t (by decide : ¬ ((5 : Int32) < (2 : Int32)))) (by decide) (by decide)) ?_
    show own_Fin p e below s _ _ _ (T26.setTop (mkF m 128 #[.val (.int p1), .val (.int p2), .val (.int p3), .val (.int p4), .val (.int p5), .val (.int (2 : Int32)), .val (.ref b19), .unset, .unset] []))
    obtain ⟨f, hf⟩ : ∃ z : Nat → Int32, z = (own_upd (own_upd (fun _ => (0 : Int32)) ((0 : Int32)).toNatClampNeg (nar .byte z22)) ((1 : Int32)).toNatClampNeg (nar .byte z25)) := ⟨_, rfl⟩
    rw [← hf] at V26
    refine own_Fin.step (fun _ => XS.aload X26.here hx rfl (hb hby at_128) rfl rfl) ?_
    show own_Fin p e below s _ _ _ (T26.setTop (mkF m 130 #[.val (.int p1), .val (.int p2), .val (.int p3), .val (.int p4), .val (.int p5), .val (.int (2 : Int32)), .val (.ref b19), .unset, .unset] [(.ref b19)]))
    obtain ⟨_, T28, L28, X28, ⟨r28, kt28, gt28, rfl, N28q, K28, sz28, V28, hT28⟩, st28⟩ := own_callS X26 hx hZ hown (own_w hw 2 rfl) (own_w hw 3 rfl) (own_w hw 4 rfl) (own_w hw 5 rfl) (by decide) (rm5 l Z a0 hw b19 k19 (2 : Int32) f h26 n0 Z26 V26 (by decide)) (by decide) (by decide) e26 (W := 0) (g := (mkF m 130 #[.val (.int p1), .val (.int p2), .val (.int p3), .val (.int p4), .val (.int p5), .val (.int (2 : Int32)), .val (.ref b19), .unset, .unset] [(.ref b19)])) rfl (by rw [hml]; rfl) (argsL := [(.ref b19)]) (rest := []) (lenOf pd_2 rfl) rfl rfl (by show 2 * 0 + _ ≤ _; exact Nat.le_of_eq rfl) (hb hby at_130) (by decide) (by decide)
    have N28 := Fr.app N26 N28q
    have ne29 : b19 ≠ r28 := Nat.ne_of_lt (Nat.lt_of_lt_of_le V26.lt sz28)
    have ge30 : n0 ≤ r28 := Nat.le_trans Z26 sz28
    have f31 := V26.keep K28 nin0
    have Z28 : n0 ≤ T28.heap.size := Nat.le_trans Z26 K28.1
    refine own_Fin.step st28 ?_
    show own_Fin p e below s _ _ _ (T28.setTop (mkF m 133 #[.val (.int p1), .val (.int p2), .val (.int p3), .val (.int p4), .val (.int p5), .val (.int (2 : Int32)), .val (.ref b19), .unset, .unset] [(.ref r28)]))
    refine own_Fin.step (fun _ => XS.astore X28.here hx rfl (hb hby at_133) rfl rfl (l' := #[.val (.int p1), .val (.int p2), .val (.int p3), .val (.int p4), .val (.int p5), .val (.int (2 : Int32)), .val (.ref b19), .val (.ref r28), .unset]) rfl) ?_
    show own_Fin p e below s _ _ _ (T28.setTop (mkF m 135 #[.val (.int p1), .val (.int p2), .val (.int p3), .val (.int p4), .val (.int p5), .val (.int (2 : Int32)), .val (.ref b19), .val (.ref r28), .unset] []))
    refine own_Fin.step (fun _ => XS.aload X28.here hx rfl (hb hby at_135) rfl rfl) ?_
    show own_Fin p e below s _ _ _ (T28.setTop (mkF m 137 #[.val (.int p1), .val (.int p2), .val (.int p3), .val (.int p4), .val (.int p5), .val (.int (2 : Int32)), .val (.ref b19), .val (.ref r28), .unset] [(.ref r28)]))
    refine own_Fin.step (fun _ => XS.ifnullNo X28.here hx rfl (hb hby at_137) rfl) ?_
    show own_Fin p e below s _ _ _ (T28.setTop (mkF m 140 #[.val (.int p1), .val (.int p2), .val (.int p3), .val (.int p4), .val (.int p5), .val (.int (2 : Int32)), .val (.ref b19), .val (.ref r28), .unset] []))
    refine own_Fin.step (fun _ => XS.aload X28.here hx rfl (hb hby at_140) rfl rfl) ?_
    show own_Fin p e below s _ _ _ (T28.setTop (mkF m 142 #[.val (.int p1), .val (.int p2), .val (.int p3), .val (.int p4), .val (.int p5), .val (.int (2 : Int32)), .val (.ref b19), .val (.ref r28), .unset] [(.ref r28)]))
    refine own_Fin.step (own_lenF X28 hx hZ rfl V28 (g := (mkF m 142 #[.val (.int p1), .val (.int p2), .val (.int p3), .val (.int p4), .val (.int p5), .val (.int (2 : Int32)), .val (.ref b19), .val (.ref r28), .unset] [(.ref r28)])) rfl rfl (hb hby at_142)) ?_
    show own_Fin p e below s _ _ _ (T28.setTop (mkF m 143 #[.val (.int p1), .val (.int p2), .val (.int p3), .val (.int p4), .val (.int p5), .val (.int (2 : Int32)), .val (.ref b19), .val (.ref r28), .unset] [(.int (2 : Int32))]))
    refine own_Fin.step (fun _ => XS.iload X28.here hx rfl (hb hby at_143) rfl) ?_
    show own_Fin p e below s _ _ _ (T28.setTop (mkF m 145 #[.val (.int p1), .val (.int p2), .val (.int p3), .val (.int p4), .val (.int p5), .val (.int (2 : Int32)), .val (.ref b19), .val (.ref r28), .unset] [(.int (2 : Int32)), (.int (2 : Int32))]))
    refine own_Fin.step (fun _ => XS.icmpYes X28.here hx rfl (pc0 := 145) (pc' := 150) rfl (hb hby at_145) rfl (XT.ii_eq_t (by decide : (2 : Int32) = (2 : Int32))) (by decide) (by decide)) ?_
    show own_Fin p e below s _ _ _ (T28.setTop (mkF m 150 #[.val (.int p1), .val (.int p2), .val (.int p3), .val (.int p4), .val (.int p5), .val (.int (2 : Int32)), .val (.ref b19), .val (.ref r28), .unset] []))
    refine own_Fin.step (fun _ => XS.iconst X28.here hx rfl (hb hby at_150)) ?_
    show own_Fin p e below s _ _ _ (T28.setTop (mkF m 151 #[.val (.int p1), .val (.int p2), .val (.int p3), .val (.int p4), .val (.int p5), .val (.int (2 : Int32)), .val (.ref b19), .val (.ref r28), .unset] [(.int (1 : Int32))]))
    refine own_Fin.step (fun _ => XS.istore X28.here hx rfl (hb hby at_151) rfl (l' := #[.val (.int p1), .val (.int p2), .val (.int p3), .val (.int p4), .val (.int p5), .val (.int (2 : Int32)), .val (.ref b19), .val (.ref r28), .val (.int (1 : Int32))]) rfl) ?_
    show own_Fin p e below s _ _ _ (T28.setTop (mkF m 153 #[.val (.int p1), .val (.int p2), .val (.int p3), .val (.int p4), .val (.int p5), .val (.int (2 : Int32)), .val (.ref b19), .val (.ref r28), .val (.int (1 : Int32))] []))
    refine own_Fin.step (fun _ => XS.iload X28.here hx rfl (hb hby at_153) rfl) ?_
    show own_Fin p e below s _ _ _ (T28.setTop (mkF m 155 #[.val (.int p1), .val (.int p2), .val (.int p3), .val (.int p4), .val (.int p5), .val (.int (2 : Int32)), .val (.ref b19), .val (.ref r28), .val (.int (1 : Int32))] [(.int (1 : Int32))]))
    refine own_Fin.step (fun _ => XS.ifNo X28.here hx rfl (hb hby at_155) rfl (XT.i0_eq_f (by decide : ¬ ((1 : Int32) = (0 : Int32))))) ?_
    show own_Fin p e below s _ _ _ (T28.setTop (mkF m 158 #[.val (.int p1), .val (.int p2), .val (.int p3), .val (.int p4), .val (.int p5), .val (.int (2 : Int32)), .val (.ref b19), .val (.ref r28), .val (.int (1 : Int32))] []))
    refine own_Fin.step (fun _ => XS.iload X28.here hx rfl (hb hby at_158) rfl) ?_
    show own_Fin p e below s _ _ _ (T28.setTop (mkF m 160 #[.val (.int p1), .val (.int p2), .val (.int p3), .val (.int p4), .val (.int p5), .val (.int (2 : Int32)), .val (.ref b19), .val (.ref r28), .val (.int (1 : Int32))] [(.int (2 : Int32))]))
    refine own_Fin.step (fun _ => XS.ifNo X28.here hx rfl (hb hby at_160) rfl (XT.i0_le_f (by decide : (0 : Int32) < (2 : Int32)))) ?_
    show own_Fin p e below s _ _ _ (T28.setTop (mkF m 163 #[.val (.int p1), .val (.int p2), .val (.int p3), .val (.int p4), .val (.int p5), .val (.int (2 : Int32)), .val (.ref b19), .val (.ref r28), .val (.int (1 : Int32))] []))
    refine own_Fin.step (fun _ => XS.aload X28.here hx rfl (hb hby at_163) rfl rfl) ?_
    show own_Fin p e below s _ _ _ (T28.setTop (mkF m 165 #[.val (.int p1), .val (.int p2), .val (.int p3), .val (.int p4), .val (.int p5), .val (.int (2 : Int32)), .val (.ref b19), .val (.ref r28), .val (.int (1 : Int32))] [(.ref r28)]))
    refine own_Fin.step (fun _ => XS.iconst X28.here hx rfl (hb hby at_165)) ?_
    show own_Fin p e below s _ _ _ (T28.setTop (mkF m 166 #[.val (.int p1), .val (.int p2), .val (.int p3), .val (.int p4), .val (.int p5), .val (.int (2 : Int32)), .val (.ref b19), .val (.ref r28), .val (.int (1 : Int32))] [(.int (0 : Int32)), (.ref r28)]))
    refine own_Fin.step (own_ldFI X28 hx hZ rfl V28 (j := (0 : Int32)) ⟨by decide, by decide⟩ (g := (mkF m 166 #[.val (.int p1), .val (.int p2), .val (.int p3), .val (.int p4), .val (.int p5), .val (.int (2 : Int32)), .val (.ref b19), .val (.ref r28), .val (.int (1 : Int32))] [(.int (0 : Int32)), (.ref r28)])) rfl rfl (hb hby at_166)) ?_
    show own_Fin p e below s _ _ _ (T28.setTop (mkF m 167 #[.val (.int p1), .val (.int p2), .val (.int p3), .val (.int p4), .val (.int p5), .val (.int (2 : Int32)), .val (.ref b19), .val (.ref r28), .val (.int (1 : Int32))] [(.int (gt28 ((0 : Int32)).toNatClampNeg))]))
    refine own_Fin.step (fun _ => XS.aload X28.here hx rfl (hb hby at_167) rfl rfl) ?_
    show own_Fin p e below s _ _ _ (T28.setTop (mkF m 169 #[.val (.int p1), .val (.int p2), .val (.int p3), .val (.int p4), .val (.int p5), .val (.int (2 : Int32)), .val (.ref b19), .val (.ref r28), .val (.int (1 : Int32))] [(.ref b19), (.int (gt28 ((0 : Int32)).toNatClampNeg))]))
    refine own_Fin.step (fun _ => XS.iconst X28.here hx rfl (hb hby at_169)) ?_
    show own_Fin p e below s _ _ _ (T28.setTop (mkF m 170 #[.val (.int p1), .val (.int p2), .val (.int p3), .val (.int p4), .val (.int p5), .val (.int (2 : Int32)), .val (.ref b19), .val (.ref r28), .val (.int (1 : Int32))] [(.int (0 : Int32)), (.ref b19), (.int (gt28 ((0 : Int32)).toNatClampNeg))]))
    obtain ⟨_, T32, L32, X32, ⟨z32, rfl, N32q, e32, hz32⟩, st32⟩ := own_callS X28 hx hZ hown (own_w hw 14 rfl) (own_w hw 15 rfl) (own_w hw 9 rfl) (own_w hw 16 rfl) (by decide) (rm3b0 l Z a0 hw b19 k19 (2 : Int32) f T28.heap n0 Z28 f31 (by decide)) (by decide) (by decide) rfl (W := 1) (g := (mkF m 170 #[.val (.int p1), .val (.int p2), .val (.int p3), .val (.int p4), .val (.int p5), .val (.int (2 : Int32)), .val (.ref b19), .val (.ref r28), .val (.int (1 : Int32))] [(.int (0 : Int32)), (.ref b19), (.int (gt28 ((0 : Int32)).toNatClampNeg))])) rfl (by rw [hml]; rfl) (argsL := [(.ref b19), (.int (0 : Int32))]) (rest := [(.int (gt28 ((0 : Int32)).toNatClampNeg))]) (lenOf pd_4 rfl) rfl rfl (by show 2 * 0 + _ ≤ _; exact Nat.le_of_eq rfl) (hb hby at_170) (by decide) (by decide)
    have N32 := Fr.app N28 N32q
    refine own_Fin.step st32 ?_
    show own_Fin p e below s _ _ _ (T32.setTop (mkF m 173 #[.val (.int p1), .val (.int p2), .val (.int p3), .val (.int p4), .val (.int p5), .val (.int (2 : Int32)), .val (.ref b19), .val (.ref r28), .val (.int (1 : Int32))] [(.int z32), (.int (gt28 ((0 : Int32)).toNatClampNeg))]))
    refine own_Fin.step (fun _ => XS.icmpNo X32.here hx rfl (hb hby at_173) rfl (XT.ii_ne_f (own_uniq (hT28 0 (by decide)) hz32))) ?_
    show own_Fin p e below s _ _ _ (T32.setTop (mkF m 176 #[.val (.int p1), .val (.int p2), .val (.int p3), .val (.int p4), .val (.int p5), .val (.int (2 : Int32)), .val (.ref b19), .val (.ref r28), .val (.int (1 : Int32))] []))
    refine own_Fin.step (fun _ => XS.iconst X32.here hx rfl (hb hby at_176)) ?_
    show own_Fin p e below s _ _ _ (T32.setTop (mkF m 177 #[.val (.int p1), .val (.int p2), .val (.int p3), .val (.int p4), .val (.int p5), .val (.int (2 : Int32)), .val (.ref b19), .val (.ref r28), .val (.int (1 : Int32))] [(.int (1 : Int32))]))
    refine own_Fin.step (fun _ => XS.goto X32.here hx rfl (pc0 := 177) (pc' := 181) rfl (hb hby at_177) (by decide) (by decide)) ?_
    show own_Fin p e below s _ _ _ (T32.setTop (mkF m 181 #[.val (.int p1), .val (.int p2), .val (.int p3), .val (.int p4), .val (.int p5), .val (.int (2 : Int32)), .val (.ref b19), .val (.ref r28), .val (.int (1 : Int32))] [(.int (1 : Int32))]))
    refine own_Fin.step (fun _ => XS.istore X32.here hx rfl (hb hby at_181) rfl (l' := #[.val (.int p1), .val (.int p2), .val (.int p3), .val (.int p4), .val (.int p5), .val (.int (2 : Int32)), .val (.ref b19), .val (.ref r28), .val (.int (1 : Int32))]) rfl) ?_
    show own_Fin p e below s _ _ _ (T32.setTop (mkF m 183 #[.val (.int p1), .val (.int p2), .val (.int p3), .val (.int p4), .val (.int p5), .val (.int (2 : Int32)), .val (.ref b19), .val (.ref r28), .val (.int (1 : Int32))] []))
    refine own_Fin.step (fun _ => XS.iload X32.here hx rfl (hb hby at_183) rfl) ?_
    show own_Fin p e below s _ _ _ (T32.setTop (mkF m 185 #[.val (.int p1), .val (.int p2), .val (.int p3), .val (.int p4), .val (.int p5), .val (.int (2 : Int32)), .val (.ref b19), .val (.ref r28), .val (.int (1 : Int32))] [(.int (1 : Int32))]))
    refine own_Fin.step (fun _ => XS.ifNo X32.here hx rfl (hb hby at_185) rfl (XT.i0_eq_f (by decide : ¬ ((1 : Int32) = (0 : Int32))))) ?_
    show own_Fin p e below s _ _ _ (T32.setTop (mkF m 188 #[.val (.int p1), .val (.int p2), .val (.int p3), .val (.int p4), .val (.int p5), .val (.int (2 : Int32)), .val (.ref b19), .val (.ref r28), .val (.int (1 : Int32))] []))
    refine own_Fin.step (fun _ => XS.iload X32.here hx rfl (hb hby at_188) rfl) ?_
    show own_Fin p e below s _ _ _ (T32.setTop (mkF m 190 #[.val (.int p1), .val (.int p2), .val (.int p3), .val (.int p4), .val (.int p5), .val (.int (2 : Int32)), .val (.ref b19), .val (.ref r28), .val (.int (1 : Int32))] [(.int (2 : Int32))]))
    refine own_Fin.step (fun _ => XS.iconst X32.here hx rfl (hb hby at_190)) ?_
    show own_Fin p e below s _ _ _ (T32.setTop (mkF m 191 #[.val (.int p1), .val (.int p2), .val (.int p3), .val (.int p4), .val (.int p5), .val (.int (2 : Int32)), .val (.ref b19), .val (.ref r28), .val (.int (1 : Int32))] [(.int (1 : Int32)), (.int (2 : Int32))]))
    refine own_Fin.step (fun _ => XS.icmpNo X32.here hx rfl (hb hby at_191) rfl (XT.ii_le_f (by decide : (1 : Int32) < (2 : Int32)))) ?_
    show own_Fin p e below s _ _ _ (T32.setTop (mkF m 194 #[.val (.int p1), .val (.int p2), .val (.int p3), .val (.int p4), .val (.int p5), .val (.int (2 : Int32)), .val (.ref b19), .val (.ref r28), .val (.int (1 : Int32))] []))
    refine own_Fin.step (fun _ => XS.aload X32.here hx rfl (hb hby at_194) rfl rfl) ?_
    show own_Fin p e below s _ _ _ (T32.setTop (mkF m 196 #[.val (.int p1), .val (.int p2), .val (.int p3), .val (.int p4), .val (.int p5), .val (.int (2 : Int32)), .val (.ref b19), .val (.ref r28), .val (.int (1 : Int32))] [(.ref r28)]))
    refine own_Fin.step (fun _ => XS.iconst X32.here hx rfl (hb hby at_196)) ?_
    show own_Fin p e below s _ _ _ (T32.setTop (mkF m 197 #[.val (.int p1), .val (.int p2), .val (.int p3), .val (.int p4), .val (.int p5), .val (.int (2 : Int32)), .val (.ref b19), .val (.ref r28), .val (.int (1 : Int32))] [(.int (1 : Int32)), (.ref r28)]))
    refine own_Fin.step (own_ldFI X32 hx hZ e32 V28 (j := (1 : Int32)) ⟨by decide, by decide⟩ (g := (mkF m 197 #[.val (.int p1), .val (.int p2), .val (.int p3), .val (.int p4), .val (.int p5), .val (.int (2 : Int32)), .val (.ref b19), .val (.ref r28), .val (.int (1 : Int32))] [(.int (1 : Int32)), (.ref r28)])) rfl rfl (hb hby at_197)) ?_
    show own_Fin p e below s _ _ _ (T32.setTop (mkF m 198 #[.val (.int p1), .val (.int p2), .val (.int p3), .val (.int p4), .val (.int p5), .val (.int (2 : Int32)), .val (.ref b19), .val (.ref r28), .val (.int (1 : Int32))] [(.int (gt28 ((1 : Int32)).toNatClampNeg))]))
    refine own_Fin.step (fun _ => XS.aload X32.here hx rfl (hb hby at_198) rfl rfl) ?_
    show own_Fin p e below s _ _ _ (T32.setTop (mkF m 200 #[.val (.int p1), .val (.int p2), .val (.int p3), .val (.int p4), .val (.int p5), .val (.int (2 : Int32)), .val (.ref b19), .val (.ref r28), .val (.int (1 : Int32))] [(.ref b19), (.int (gt28 ((1 : Int32)).toNatClampNeg))]))
    refine own_Fin.step (fun _ => XS.iconst X32.here hx rfl (hb hby at_200)) ?_
    show own_Fin p e below s _ _ _ (T32.setTop (mkF m 201 #[.val (.int p1), .val (.int p2), .val (.int p3), .val (.int p4), .val (.int p5), .val (.int (2 : Int32)), .val (.ref b19), .val (.ref r28), .val (.int (1 : Int32))] [(.int (1 : Int32)), (.ref b19), (.int (gt28 ((1 : Int32)).toNatClampNeg))]))
    obtain ⟨_, T33, L33, X33, ⟨z33, rfl, N33q, e33, hz33⟩, st33⟩ := own_callS X32 hx hZ hown (own_w hw 14 rfl) (own_w hw 15 rfl) (own_w hw 9 rfl) (own_w hw 16 rfl) (by decide) (rm3b1 l Z a0 hw b19 k19 (2 : Int32) f T28.heap n0 Z28 f31 (by decide)) (by decide) (by decide) e32 (W := 1) (g := (mkF m 201 #[.val (.int p1), .val (.int p2), .val (.int p3), .val (.int p4), .val (.int p5), .val (.int (2 : Int32)), .val (.ref b19), .val (.ref r28), .val (.int (1 : Int32))] [(.int (1 : Int32)), (.ref b19), (.int (gt28 ((1 : Int32)).toNatClampNeg))])) rfl (by rw [hml]; rfl) (argsL := [(.ref b19), (.int (1 : Int32))]) (rest := [(.int (gt28 ((1 : Int32)).toNatClampNeg))]) (lenOf pd_4 rfl) rfl rfl (by show 2 * 0 + _ ≤ _; exact Nat.le_of_eq rfl) (hb hby at_201) (by decide) (by decide)
    have N33 := Fr.app N32 N33q
    refine own_Fin.step st33 ?_
    show own_Fin p e below s _ _ _ (T33.setTop (mkF m 204 #[.val (.int p1), .val (.int p2), .val (.int p3), .val (.int p4), .val (.int p5), .val (.int (2 : Int32)), .val (.ref b19), .val (.ref r28), .val (.int (1 : Int32))] [(.int z33), (.int (gt28 ((1 : Int32)).toNatClampNeg))]))
    refine own_Fin.step (fun _ => XS.icmpNo X33.here hx rfl (hb hby at_204) rfl (XT.ii_ne_f (own_uniq (hT28 1 (by decide)) hz33))) ?_
    show own_Fin p e below s _ _ _ (T33.setTop (mkF m 207 #[.val (.int p1), .val (.int p2), .val (.int p3), .val (.int p4), .val (.int p5), .val (.int (2 : Int32)), .val (.ref b19), .val (.ref r28), .val (.int (1 : Int32))] []))
    refine own_Fin.step (fun _ => XS.iconst X33.here hx rfl (hb hby at_207)) ?_
    show own_Fin p e below s _ _ _ (T33.setTop (mkF m 208 #[.val (.int p1), .val (.int p2), .val (.int p3), .val (.int p4), .val (.int p5), .val (.int (2 : Int32)), .val (.ref b19), .val (.ref r28), .val (.int (1 : Int32))] [(.int (1 : Int32))]))
    refine own_Fin.step (fun _ => XS.goto X33.here hx rfl (pc0 := 208) (pc' := 212) rfl (hb hby at_208) (by decide) (by decide)) ?_
    show own_Fin p e below s _ _ _ (T33.setTop (mkF m 212 #[.val (.int p1), .val (.int p2), .val (.int p3), .val (.int p4), .val (.int p5), .val (.int (2 : Int32)), .val (.ref b19), .val (.ref r28), .val (.int (1 : Int32))] [(.int (1 : Int32))]))
    refine own_Fin.step (fun _ => XS.istore X33.here hx rfl (hb hby at_212) rfl (l' := #[.val (.int p1), .val (.int p2), .val (.int p3), .val (.int p4), .val (.int p5), .val (.int (2 : Int32)), .val (.ref b19), .val (.ref r28), .val (.int (1 : Int32))]) rfl) ?_
    show own_Fin p e below s _ _ _ (T33.setTop (mkF m 214 #[.val (.int p1), .val (.int p2), .val (.int p3), .val (.int p4), .val (.int p5), .val (.int (2 : Int32)), .val (.ref b19), .val (.ref r28), .val (.int (1 : Int32))] []))
    refine own_Fin.step (fun _ => XS.iload X33.here hx rfl (hb hby at_214) rfl) ?_
    show own_Fin p e below s _ _ _ (T33.setTop (mkF m 216 #[.val (.int p1), .val (.int p2), .val (.int p3), .val (.int p4), .val (.int p5), .val (.int (2 : Int32)), .val (.ref b19), .val (.ref r28), .val (.int (1 : Int32))] [(.int (1 : Int32))]))
    refine own_Fin.step (fun _ => XS.ifNo X33.here hx rfl (hb hby at_216) rfl (XT.i0_eq_f (by decide : ¬ ((1 : Int32) = (0 : Int32))))) ?_
    show own_Fin p e below s _ _ _ (T33.setTop (mkF m 219 #[.val (.int p1), .val (.int p2), .val (.int p3), .val (.int p4), .val (.int p5), .val (.int (2 : Int32)), .val (.ref b19), .val (.ref r28), .val (.int (1 : Int32))] []))
    refine own_Fin.step (fun _ => XS.iload X33.here hx rfl (hb hby at_219) rfl) ?_
    show own_Fin p e below s _ _ _ (T33.setTop (mkF m 221 #[.val (.int p1), .val (.int p2), .val (.int p3), .val (.int p4), .val (.int p5), .val (.int (2 : Int32)), .val (.ref b19), .val (.ref r28), .val (.int (1 : Int32))] [(.int (2 : Int32))]))
    refine own_Fin.step (fun _ => XS.iconst X33.here hx rfl (hb hby at_221)) ?_
    show own_Fin p e below s _ _ _ (T33.setTop (mkF m 222 #[.val (.int p1), .val (.int p2), .val (.int p3), .val (.int p4), .val (.int p5), .val (.int (2 : Int32)), .val (.ref b19), .val (.ref r28), .val (.int (1 : Int32))] [(.int (2 : Int32)), (.int (2 : Int32))]))
    refine own_Fin.step (fun _ => XS.icmpYes X33.here hx rfl (pc0 := 222) (pc' := 238) rfl (hb hby at_222) rfl (XT.ii_le_t (by decide : ¬ ((2 : Int32) < (2 : Int32)))) (by decide) (by decide)) ?_
    show own_Fin p e below s _ _ _ (T33.setTop (mkF m 238 #[.val (.int p1), .val (.int p2), .val (.int p3), .val (.int p4), .val (.int p5), .val (.int (2 : Int32)), .val (.ref b19), .val (.ref r28), .val (.int (1 : Int32))] []))
    refine own_Fin.step (fun _ => XS.iconst X33.here hx rfl (hb hby at_238)) ?_
    show own_Fin p e below s _ _ _ (T33.setTop (mkF m 239 #[.val (.int p1), .val (.int p2), .val (.int p3), .val (.int p4), .val (.int p5), .val (.int (2 : Int32)), .val (.ref b19), .val (.ref r28), .val (.int (1 : Int32))] [(.int (1 : Int32))]))
    refine own_Fin.step (fun _ => XS.goto X33.here hx rfl (pc0 := 239) (pc' := 243) rfl (hb hby at_239) (by decide) (by decide)) ?_
    show own_Fin p e below s _ _ _ (T33.setTop (mkF m 243 #[.val (.int p1), .val (.int p2), .val (.int p3), .val (.int p4), .val (.int p5), .val (.int (2 : Int32)), .val (.ref b19), .val (.ref r28), .val (.int (1 : Int32))] [(.int (1 : Int32))]))
    refine own_Fin.step (fun _ => XS.istore X33.here hx rfl (hb hby at_243) rfl (l' := #[.val (.int p1), .val (.int p2), .val (.int p3), .val (.int p4), .val (.int p5), .val (.int (2 : Int32)), .val (.ref b19), .val (.ref r28), .val (.int (1 : Int32))]) rfl) ?_
    show own_Fin p e below s _ _ _ (T33.setTop (mkF m 245 #[.val (.int p1), .val (.int p2), .val (.int p3), .val (.int p4), .val (.int p5), .val (.int (2 : Int32)), .val (.ref b19), .val (.ref r28), .val (.int (1 : Int32))] []))
    refine own_Fin.step (fun _ => XS.iload X33.here hx rfl (hb hby at_245) rfl) ?_
    show own_Fin p e below s _ _ _ (T33.setTop (mkF m 247 #[.val (.int p1), .val (.int p2), .val (.int p3), .val (.int p4), .val (.int p5), .val (.int (2 : Int32)), .val (.ref b19), .val (.ref r28), .val (.int (1 : Int32))] [(.int (1 : Int32))]))
    refine own_Fin.step (fun _ => XS.ifNo X33.here hx rfl (hb hby at_247) rfl (XT.i0_eq_f (by decide : ¬ ((1 : Int32) = (0 : Int32))))) ?_
    show own_Fin p e below s _ _ _ (T33.setTop (mkF m 250 #[.val (.int p1), .val (.int p2), .val (.int p3), .val (.int p4), .val (.int p5), .val (.int (2 : Int32)), .val (.ref b19), .val (.ref r28), .val (.int (1 : Int32))] []))
    refine own_Fin.step (fun _ => XS.iload X33.here hx rfl (hb hby at_250) rfl) ?_
    show own_Fin p e below s _ _ _ (T33.setTop (mkF m 252 #[.val (.int p1), .val (.int p2), .val (.int p3), .val (.int p4), .val (.int p5), .val (.int (2 : Int32)), .val (.ref b19), .val (.ref r28), .val (.int (1 : Int32))] [(.int (2 : Int32))]))
    refine own_Fin.step (fun _ => XS.iconst X33.here hx rfl (hb hby at_252)) ?_
    show own_Fin p e below s _ _ _ (T33.setTop (mkF m 253 #[.val (.int p1), .val (.int p2), .val (.int p3), .val (.int p4), .val (.int p5), .val (.int (2 : Int32)), .val (.ref b19), .val (.ref r28), .val (.int (1 : Int32))] [(.int (3 : Int32)), (.int (2 : Int32))]))
    refine own_Fin.step (fun _ => XS.icmpYes X33.here hx rfl (pc0 := 253) (pc' := 269) rfl (hb hby at_253) rfl (XT.ii_le_t (by decide : ¬ ((3 : Int32) < (2 : Int32)))) (by decide) (by decide)) ?_
    show own_Fin p e below s _ _ _ (T33.setTop (mkF m 269 #[.val (.int p1), .val (.int p2), .val (.int p3), .val (.int p4), .val (.int p5), .val (.int (2 : Int32)), .val (.ref b19), .val (.ref r28), .val (.int (1 : Int32))] []))
    refine own_Fin.step (fun _ => XS.iconst X33.here hx rfl (hb hby at_269)) ?_
    show own_Fin p e below s _ _ _ (T33.setTop (mkF m 270 #[.val (.int p1), .val (.int p2), .val (.int p3), .val (.int p4), .val (.int p5), .val (.int (2 : Int32)), .val (.ref b19), .val (.ref r28), .val (.int (1 : Int32))] [(.int (1 : Int32))]))
    refine own_Fin.step (fun _ => XS.goto X33.here hx rfl (pc0 := 270) (pc' := 274) rfl (hb hby at_270) (by decide) (by decide)) ?_
    show own_Fin p e below s _ _ _ (T33.setTop (mkF m 274 #[.val (.int p1), .val (.int p2), .val (.int p3), .val (.int p4), .val (.int p5), .val (.int (2 : Int32)), .val (.ref b19), .val (.ref r28), .val (.int (1 : Int32))] [(.int (1 : Int32))]))
    refine own_Fin.step (fun _ => XS.istore X33.here hx rfl (hb hby at_274) rfl (l' := #[.val (.int p1), .val (.int p2), .val (.int p3), .val (.int p4), .val (.int p5), .val (.int (2 : Int32)), .val (.ref b19), .val (.ref r28), .val (.int (1 : Int32))]) rfl) ?_
    show own_Fin p e below s _ _ _ (T33.setTop (mkF m 276 #[.val (.int p1), .val (.int p2), .val (.int p3), .val (.int p4), .val (.int p5), .val (.int (2 : Int32)), .val (.ref b19), .val (.ref r28), .val (.int (1 : Int32))] []))
    refine own_Fin.step (fun _ => XS.iload X33.here hx rfl (hb hby at_276) rfl) ?_
    show own_Fin p e below s _ _ _ (T33.setTop (mkF m 278 #[.val (.int p1), .val (.int p2), .val (.int p3), .val (.int p4), .val (.int p5), .val (.int (2 : Int32)), .val (.ref b19), .val (.ref r28), .val (.int (1 : Int32))] [(.int (1 : Int32))]))
    refine own_Fin.step (fun _ => XS.ifNo X33.here hx rfl (hb hby at_278) rfl (XT.i0_eq_f (by decide : ¬ ((1 : Int32) = (0 : Int32))))) ?_
    show own_Fin p e below s _ _ _ (T33.setTop (mkF m 281 #[.val (.int p1), .val (.int p2), .val (.int p3), .val (.int p4), .val (.int p5), .val (.int (2 : Int32)), .val (.ref b19), .val (.ref r28), .val (.int (1 : Int32))] []))
    refine own_Fin.step (fun _ => XS.iload X33.here hx rfl (hb hby at_281) rfl) ?_
    show own_Fin p e below s _ _ _ (T33.setTop (mkF m 283 #[.val (.int p1), .val (.int p2), .val (.int p3), .val (.int p4), .val (.int p5), .val (.int (2 : Int32)), .val (.ref b19), .val (.ref r28), .val (.int (1 : Int32))] [(.int (2 : Int32))]))
    refine own_Fin.step (fun _ => XS.iconst X33.here hx rfl (hb hby at_283)) ?_
    show own_Fin p e below s _ _ _ (T33.setTop (mkF m 284 #[.val (.int p1), .val (.int p2), .val (.int p3), .val (.int p4), .val (.int p5), .val (.int (2 : Int32)), .val (.ref b19), .val (.ref r28), .val (.int (1 : Int32))] [(.int (4 : Int32)), (.int (2 : Int32))]))
    refine own_Fin.step (fun _ => XS.icmpYes X33.here hx rfl (pc0 := 284) (pc' := 300) rfl (hb hby at_284) rfl (XT.ii_le_t (by decide : ¬ ((4 : Int32) < (2 : Int32)))) (by decide) (by decide)) ?_
    show own_Fin p e below s _ _ _ (T33.setTop (mkF m 300 #[.val (.int p1), .val (.int p2), .val (.int p3), .val (.int p4), .val (.int p5), .val (.int (2 : Int32)), .val (.ref b19), .val (.ref r28), .val (.int (1 : Int32))] []))
    refine own_Fin.step (fun _ => XS.iconst X33.here hx rfl (hb hby at_300)) ?_
    show own_Fin p e below s _ _ _ (T33.setTop (mkF m 301 #[.val (.int p1), .val (.int p2), .val (.int p3), .val (.int p4), .val (.int p5), .val (.int (2 : Int32)), .val (.ref b19), .val (.ref r28), .val (.int (1 : Int32))] [(.int (1 : Int32))]))
    refine own_Fin.step (fun _ => XS.goto X33.here hx rfl (pc0 := 301) (pc' := 305) rfl (hb hby at_301) (by decide) (by decide)) ?_
    show own_Fin p e below s _ _ _ (T33.setTop (mkF m 305 #[.val (.int p1), .val (.int p2), .val (.int p3), .val (.int p4), .val (.int p5), .val (.int (2 : Int32)), .val (.ref b19), .val (.ref r28), .val (.int (1 : Int32))] [(.int (1 : Int32))]))
    refine own_Fin.step (fun _ => XS.istore X33.here hx rfl (hb hby at_305) rfl (l' := #[.val (.int p1), .val (.int p2), .val (.int p3), .val (.int p4), .val (.int p5), .val (.int (2 : Int32)), .val (.ref b19), .val (.ref r28), .val (.int (1 : Int32))]) rfl) ?_
    show own_Fin p e below s _ _ _ (T33.setTop (mkF m 307 #[.val (.int p1), .val (.int p2), .val (.int p3), .val (.int p4), .val (.int p5), .val (.int (2 : Int32)), .val (.ref b19), .val (.ref r28), .val (.int (1 : Int32))] []))
    refine own_Fin.step (fun _ => XS.iload X33.here hx rfl (hb hby at_307) rfl) ?_
    show own_Fin p e below s _ _ _ (T33.setTop (mkF m 309 #[.val (.int p1), .val (.int p2), .val (.int p3), .val (.int p4), .val (.int p5), .val (.int (2 : Int32)), .val (.ref b19), .val (.ref r28), .val (.int (1 : Int32))] [(.int (1 : Int32))]))
    refine own_Fin.step (fun _ => XS.ifNo X33.here hx rfl (hb hby at_309) rfl (XT.i0_eq_f (by decide : ¬ ((1 : Int32) = (0 : Int32))))) ?_
    show own_Fin p e below s _ _ _ (T33.setTop (mkF m 312 #[.val (.int p1), .val (.int p2), .val (.int p3), .val (.int p4), .val (.int p5), .val (.int (2 : Int32)), .val (.ref b19), .val (.ref r28), .val (.int (1 : Int32))] []))
    refine own_Fin.step (fun _ => XS.iload X33.here hx rfl (hb hby at_312) rfl) ?_
    show own_Fin p e below s _ _ _ (T33.setTop (mkF m 314 #[.val (.int p1), .val (.int p2), .val (.int p3), .val (.int p4), .val (.int p5), .val (.int (2 : Int32)), .val (.ref b19), .val (.ref r28), .val (.int (1 : Int32))] [(.int (2 : Int32))]))
    refine own_Fin.step (fun _ => XS.iconst X33.here hx rfl (hb hby at_314)) ?_
    show own_Fin p e below s _ _ _ (T33.setTop (mkF m 315 #[.val (.int p1), .val (.int p2), .val (.int p3), .val (.int p4), .val (.int p5), .val (.int (2 : Int32)), .val (.ref b19), .val (.ref r28), .val (.int (1 : Int32))] [(.int (5 : Int32)), (.int (2 : Int32))]))
    refine own_Fin.step (fun _ => XS.icmpYes X33.here hx rfl (pc0 := 315) (pc' := 331) rfl (hb hby at_315) rfl (XT.ii_le_t (by decide : ¬ ((5 : Int32) < (2 : Int32)))) (by decide) (by decide)) ?_
    show own_Fin p e below s _ _ _ (T33.setTop (mkF m 331 #[.val (.int p1), .val (.int p2), .val (.int p3), .val (.int p4), .val (.int p5), .val (.int (2 : Int32)), .val (.ref b19), .val (.ref r28), .val (.int (1 : Int32))] []))
    refine own_Fin.step (fun _ => XS.iconst X33.here hx rfl (hb hby at_331)) ?_
    show own_Fin p e below s _ _ _ (T33.setTop (mkF m 332 #[.val (.int p1), .val (.int p2), .val (.int p3), .val (.int p4), .val (.int p5), .val (.int (2 : Int32)), .val (.ref b19), .val (.ref r28), .val (.int (1 : Int32))] [(.int (1 : Int32))]))
    refine own_Fin.step (fun _ => XS.goto X33.here hx rfl (pc0 := 332) (pc' := 336) rfl (hb hby at_332) (by decide) (by decide)) ?_
    show own_Fin p e below s _ _ _ (T33.setTop (mkF m 336 #[.val (.int p1), .val (.int p2), .val (.int p3), .val (.int p4), .val (.int p5), .val (.int (2 : Int32)), .val (.ref b19), .val (.ref r28), .val (.int (1 : Int32))] [(.int (1 : Int32))]))
    refine own_Fin.step (fun _ => XS.istore X33.here hx rfl (hb hby at_336) rfl (l' := #[.val (.int p1), .val (.int p2), .val (.int p3), .val (.int p4), .val (.int p5), .val (.int (2 : Int32)), .val (.ref b19), .val (.ref r28), .val (.int (1 : Int32))]) rfl) ?_
    show own_Fin p e below s _ _ _ (T33.setTop (mkF m 338 #[.val (.int p1), .val (.int p2), .val (.int p3), .val (.int p4), .val (.int p5), .val (.int (2 : Int32)), .val (.ref b19), .val (.ref r28), .val (.int (1 : Int32))] []))
    refine own_Fin.step (fun _ => XS.iload X33.here hx rfl (hb hby at_338) rfl) ?_
    show own_Fin p e below s _ _ _ (T33.setTop (mkF m 340 #[.val (.int p1), .val (.int p2), .val (.int p3), .val (.int p4), .val (.int p5), .val (.int (2 : Int32)), .val (.ref b19), .val (.ref r28), .val (.int (1 : Int32))] [(.int (1 : Int32))]))
    exact own_retN X33 hx hlk (t := .boolean) hret (by simp) (hb hby at_340) ⟨rfl, N33⟩ (by decide) (by decide)
  ·
    show own_Fin p e below s _ _ _ (s₁.setTop (mkF m 7 #[.val (.int p1), .val (.int p2), .val (.int p3), .val (.int p4), .val (.int p5), .unset, .unset, .unset, .unset] [(.int (3 : Int32))]))
    refine own_Fin.step (fun _ => XS.istore X0.here hx rfl (hb hby at_7) rfl (l' := #[.val (.int p1), .val (.int p2), .val (.int p3), .val (.int p4), .val (.int p5), .val (.int (3 : Int32)), .unset, .unset, .unset]) rfl) ?_
    show own_Fin p e below s _ _ _ (s₁.setTop (mkF m 9 #[.val (.int p1), .val (.int p2), .val (.int p3), .val (.int p4), .val (.int p5), .val (.int (3 : Int32)), .unset, .unset, .unset] []))
    refine own_Fin.step (fun _ => XS.iload X0.here hx rfl (hb hby at_9) rfl) ?_
    show own_Fin p e below s _ _ _ (s₁.setTop (mkF m 11 #[.val (.int p1), .val (.int p2), .val (.int p3), .val (.int p4), .val (.int p5), .val (.int (3 : Int32)), .unset, .unset, .unset] [(.int (3 : Int32))]))
    obtain ⟨T34, h34, k34, b34, X34, e34, E34, g34, V34, st34⟩ := own_newA X0 hx hZ (own_w hw 1 rfl) e0 (ty := .byte) (dv := (.int (0 : Int32))) rfl rfl (g := (mkF m 11 #[.val (.int p1), .val (.int p2), .val (.int p3), .val (.int p4), .val (.int p5), .val (.int (3 : Int32)), .unset, .unset, .unset] [(.int (3 : Int32))])) rfl (hb hby at_11) rfl (by decide) (cap := 3) (by decide) (by decide) (by decide) (by decide) (3)
    have ge35 : n0 ≤ b34 := Nat.le_trans Z0 (Nat.le_of_eq g34.symm)
    have Z34 : n0 ≤ h34.size := Nat.le_trans Z0 E34.1
    have V34' : Arv Z h34 b34 k34 .byte (3 : Int32) [(.int (0 : Int32)), (.int (0 : Int32)), (.int (0 : Int32))] (.int (0 : Int32)) := V34
    refine own_Fin.step st34 ?_
    show own_Fin p e below s _ _ _ (T34.setTop (mkF m 13 #[.val (.int p1), .val (.int p2), .val (.int p3), .val (.int p4), .val (.int p5), .val (.int (3 : Int32)), .unset, .unset, .unset] [(.ref b34)]))
    have Vf36 := own_Arf.of (N := 3) V34'
    refine own_Fin.step (fun _ => XS.astore X34.here hx rfl (hb hby at_13) rfl rfl (l' := #[.val (.int p1), .val (.int p2), .val (.int p3), .val (.int p4), .val (.int p5), .val (.int (3 : Int32)), .val (.ref b34), .unset, .unset]) rfl) ?_
    show own_Fin p e below s _ _ _ (T34.setTop (mkF m 15 #[.val (.int p1), .val (.int p2), .val (.int p3), .val (.int p4), .val (.int p5), .val (.int (3 : Int32)), .val (.ref b34), .unset, .unset] []))
    refine own_Fin.step (fun _ => XS.iload X34.here hx rfl (hb hby at_15) rfl) ?_
    show own_Fin p e below s _ _ _ (T34.setTop (mkF m 17 #[.val (.int p1), .val (.int p2), .val (.int p3), .val (.int p4), .val (.int p5), .val (.int (3 : Int32)), .val (.ref b34), .unset, .unset] [(.int (3 : Int32))]))
    refine own_Fin.step (fun _ => XS.ifNo X34.here hx rfl (hb hby at_17) rfl (XT.i0_le_f (by decide : (0 : Int32) < (3 : Int32)))) ?_
    show own_Fin p e below s _ _ _ (T34.setTop (mkF m 20 #[.val (.int p1), .val (.int p2), .val (.int p3), .val (.int p4), .val (.int p5), .val (.int (3 : Int32)), .val (.ref b34), .unset, .unset] []))
    refine own_Fin.step (fun _ => XS.aload X34.here hx rfl (hb hby at_20) rfl rfl) ?_
    show own_Fin p e below s _ _ _ (T34.setTop (mkF m 22 #[.val (.int p1), .val (.int p2), .val (.int p3), .val (.int p4), .val (.int p5), .val (.int (3 : Int32)), .val (.ref b34), .unset, .unset] [(.ref b34)]))
    refine own_Fin.step (fun _ => XS.iconst X34.here hx rfl (hb hby at_22)) ?_
    show own_Fin p e below s _ _ _ (T34.setTop (mkF m 23 #[.val (.int p1), .val (.int p2), .val (.int p3), .val (.int p4), .val (.int p5), .val (.int (3 : Int32)), .val (.ref b34), .unset, .unset] [(.int (0 : Int32)), (.ref b34)]))
    refine own_Fin.step (fun _ => XS.iload X34.here hx rfl (hb hby at_23) rfl) ?_
    show own_Fin p e below s _ _ _ (T34.setTop (mkF m 25 #[.val (.int p1), .val (.int p2), .val (.int p3), .val (.int p4), .val (.int p5), .val (.int (3 : Int32)), .val (.ref b34), .unset, .unset] [(.int p5), (.int (0 : Int32)), (.ref b34)]))
    refine own_Fin.step (fun _ => XS.iconst X34.here hx rfl (hb hby at_25)) ?_
    show own_Fin p e below s _ _ _ (T34.setTop (mkF m 26 #[.val (.int p1), .val (.int p2), .val (.int p3), .val (.int p4), .val (.int p5), .val (.int (3 : Int32)), .val (.ref b34), .unset, .unset] [(.int (0 : Int32)), (.int p5), (.int (0 : Int32)), (.ref b34)]))
    refine own_Fin.step (fun _ => XS.iloadN X34.here hx rfl (hb hby at_26) rfl) ?_
    show own_Fin p e below s _ _ _ (T34.setTop (mkF m 27 #[.val (.int p1), .val (.int p2), .val (.int p3), .val (.int p4), .val (.int p5), .val (.int (3 : Int32)), .val (.ref b34), .unset, .unset] [(.int p2), (.int (0 : Int32)), (.int p5), (.int (0 : Int32)), (.ref b34)]))
    refine own_Fin.step (fun _ => XS.iloadN X34.here hx rfl (hb hby at_27) rfl) ?_
    show own_Fin p e below s _ _ _ (T34.setTop (mkF m 28 #[.val (.int p1), .val (.int p2), .val (.int p3), .val (.int p4), .val (.int p5), .val (.int (3 : Int32)), .val (.ref b34), .unset, .unset] [(.int p3), (.int p2), (.int (0 : Int32)), (.int p5), (.int (0 : Int32)), (.ref b34)]))
    refine own_Fin.step (fun _ => XS.iloadN X34.here hx rfl (hb hby at_28) rfl) ?_
    show own_Fin p e below s _ _ _ (T34.setTop (mkF m 29 #[.val (.int p1), .val (.int p2), .val (.int p3), .val (.int p4), .val (.int p5), .val (.int (3 : Int32)), .val (.ref b34), .unset, .unset] [(.int p4), (.int p3), (.int p2), (.int (0 : Int32)), (.int p5), (.int (0 : Int32)), (.ref b34)]))
    obtain ⟨_, T37, L37, X37, ⟨z37, rfl, N37q, e37⟩, st37⟩ := own_callS X34 hx hZ hown (own_w hw 7 rfl) (own_w hw 8 rfl) (own_w hw 9 rfl) (own_w hw 10 rfl) (by decide) (rm1 l Z a0 hw p5 (0 : Int32) p2 p3 p4 h34 n0 Z34) (by decide) (by decide) e34 (W := 2) (g := (mkF m 29 #[.val (.int p1), .val (.int p2), .val (.int p3), .val (.int p4), .val (.int p5), .val (.int (3 : Int32)), .val (.ref b34), .unset, .unset] [(.int p4), (.int p3), (.int p2), (.int (0 : Int32)), (.int p5), (.int (0 : Int32)), (.ref b34)])) rfl (by rw [hml]; rfl) (argsL := [(.int p5), (.int (0 : Int32)), (.int p2), (.int p3), (.int p4)]) (rest := [(.int (0 : Int32)), (.ref b34)]) (lenOf pd_3 rfl) rfl rfl (by show 2 * 0 + _ ≤ _; exact Nat.le_of_eq rfl) (hb hby at_29) (by decide) (by decide)
    have N37 := Fr.app N0 N37q
    refine own_Fin.step st37 ?_
    show own_Fin p e below s _ _ _ (T37.setTop (mkF m 32 #[.val (.int p1), .val (.int p2), .val (.int p3), .val (.int p4), .val (.int p5), .val (.int (3 : Int32)), .val (.ref b34), .unset, .unset] [(.int z37), (.int (0 : Int32)), (.ref b34)]))
    obtain ⟨T38, h38, X38, e38, V38, W38, st38⟩ := own_stFB X37 hx hZ e37 Vf36 (j := (0 : Int32)) ⟨by decide, by decide⟩ (g := (mkF m 32 #[.val (.int p1), .val (.int p2), .val (.int p3), .val (.int p4), .val (.int p5), .val (.int (3 : Int32)), .val (.ref b34), .unset, .unset] [(.int z37), (.int (0 : Int32)), (.ref b34)])) rfl rfl (hb hby at_32)
    have N38 := Fr.snoc X38 N37 ge35
    have Z38 : n0 ≤ h38.size := Nat.le_trans Z34 (Nat.le_of_eq W38.size.symm)
    refine own_Fin.step st38 ?_
    show own_Fin p e below s _ _ _ (T38.setTop (mkF m 33 #[.val (.int p1), .val (.int p2), .val (.int p3), .val (.int p4), .val (.int p5), .val (.int (3 : Int32)), .val (.ref b34), .unset, .unset] []))
    refine own_Fin.step (fun _ => XS.iload X38.here hx rfl (hb hby at_33) rfl) ?_
    show own_Fin p e below s _ _ _ (T38.setTop (mkF m 35 #[.val (.int p1), .val (.int p2), .val (.int p3), .val (.int p4), .val (.int p5), .val (.int (3 : Int32)), .val (.ref b34), .unset, .unset] [(.int (3 : Int32))]))
    refine own_Fin.step (fun _ => XS.iconst X38.here hx rfl (hb hby at_35)) ?_
    show own_Fin p e below s _ _ _ (T38.setTop (mkF m 36 #[.val (.int p1), .val (.int p2), .val (.int p3), .val (.int p4), .val (.int p5), .val (.int (3 : Int32)), .val (.ref b34), .unset, .unset] [(.int (1 : Int32)), (.int (3 : Int32))]))
    refine own_Fin.step (fun _ => XS.icmpNo X38.here hx rfl (hb hby at_36) rfl (XT.ii_le_f (by decide : (1 : Int32) < (3 : Int32)))) ?_
    show own_Fin p e below s _ _ _ (T38.setTop (mkF m 39 #[.val (.int p1), .val (.int p2), .val (.int p3), .val (.int p4), .val (.int p5), .val (.int (3 : Int32)), .val (.ref b34), .unset, .unset] []))
    refine own_Fin.step (fun _ => XS.aload X38.here hx rfl (hb hby at_39) rfl rfl) ?_
    show own_Fin p e below s _ _ _ (T38.setTop (mkF m 41 #[.val (.int p1), .val (.int p2), .val (.int p3), .val (.int p4), .val (.int p5), .val (.int (3 : Int32)), .val (.ref b34), .unset, .unset] [(.ref b34)]))
    refine own_Fin.step (fun _ => XS.iconst X38.here hx rfl (hb hby at_41)) ?_
    show own_Fin p e below s _ _ _ (T38.setTop (mkF m 42 #[.val (.int p1), .val (.int p2), .val (.int p3), .val (.int p4), .val (.int p5), .val (.int (3 : Int32)), .val (.ref b34), .unset, .unset] [(.int (1 : Int32)), (.ref b34)]))
    refine own_Fin.step (fun _ => XS.iload X38.here hx rfl (hb hby at_42) rfl) ?_
    show own_Fin p e below s _ _ _ (T38.setTop (mkF m 44 #[.val (.int p1), .val (.int p2), .val (.int p3), .val (.int p4), .val (.int p5), .val (.int (3 : Int32)), .val (.ref b34), .unset, .unset] [(.int p5), (.int (1 : Int32)), (.ref b34)]))
    refine own_Fin.step (fun _ => XS.iconst X38.here hx rfl (hb hby at_44)) ?_
    show own_Fin p e below s _ _ _ (T38.setTop (mkF m 45 #[.val (.int p1), .val (.int p2), .val (.int p3), .val (.int p4), .val (.int p5), .val (.int (3 : Int32)), .val (.ref b34), .unset, .unset] [(.int (1 : Int32)), (.int p5), (.int (1 : Int32)), (.ref b34)]))
    refine own_Fin.step (fun _ => XS.iloadN X38.here hx rfl (hb hby at_45) rfl) ?_
    show own_Fin p e below s _ _ _ (T38.setTop (mkF m 46 #[.val (.int p1), .val (.int p2), .val (.int p3), .val (.int p4), .val (.int p5), .val (.int (3 : Int32)), .val (.ref b34), .unset, .unset] [(.int p2), (.int (1 : Int32)), (.int p5), (.int (1 : Int32)), (.ref b34)]))
    refine own_Fin.step (fun _ => XS.iloadN X38.here hx rfl (hb hby at_46) rfl) ?_
    show own_Fin p e below s _ _ _ (T38.setTop (mkF m 47 #[.val (.int p1), .val (.int p2), .val (.int p3), .val (.int p4), .val (.int p5), .val (.int (3 : Int32)), .val (.ref b34), .unset, .unset] [(.int p3), (.int p2), (.int (1 : Int32)), (.int p5), (.int (1 : Int32)), (.ref b34)]))
    refine own_Fin.step (fun _ => XS.iloadN X38.here hx rfl (hb hby at_47) rfl) ?_
    show own_Fin p e below s _ _ _ (T38.setTop (mkF m 48 #[.val (.int p1), .val (.int p2), .val (.int p3), .val (.int p4), .val (.int p5), .val (.int (3 : Int32)), .val (.ref b34), .unset, .unset] [(.int p4), (.int p3), (.int p2), (.int (1 : Int32)), (.int p5), (.int (1 : Int32)), (.ref b34)]))
    obtain ⟨_, T40, L40, X40, ⟨z40, rfl, N40q, e40⟩, st40⟩ := own_callS X38 hx hZ hown (own_w hw 7 rfl) (own_w hw 8 rfl) (own_w hw 9 rfl) (own_w hw 10 rfl) (by decide) (rm1 l Z a0 hw p5 (1 : Int32) p2 p3 p4 h38 n0 Z38) (by decide) (by decide) e38 (W := 2) (g := (mkF m 48 #[.val (.int p1), .val (.int p2), .val (.int p3), .val (.int p4), .val (.int p5), .val (.int (3 : Int32)), .val (.ref b34), .unset, .unset] [(.int p4), (.int p3), (.int p2), (.int (1 : Int32)), (.int p5), (.int (1 : Int32)), (.ref b34)])) rfl (by rw [hml]; rfl) (argsL := [(.int p5), (.int (1 : Int32)), (.int p2), (.int p3), (.int p4)]) (rest := [(.int (1 : Int32)), (.ref b34)]) (lenOf pd_3 rfl) rfl rfl (by show 2 * 0 + _ ≤ _; exact Nat.le_of_eq rfl) (hb hby at_48) (by decide) (by decide)
    have N40 := Fr.app N38 N40q
    refine own_Fin.step st40 ?_
    show own_Fin p e below s _ _ _ (T40.setTop (mkF m 51 #[.val (.int p1), .val (.int p2), .val (.int p3), .val (.int p4), .val (.int p5), .val (.int (3 : Int32)), .val (.ref b34), .unset, .unset] [(.int z40), (.int (1 : Int32)), (.ref b34)]))
    obtain ⟨T41, h41, X41, e41, V41, W41, st41⟩ := own_stFB X40 hx hZ e40 V38 (j := (1 : Int32)) ⟨by decide, by decide⟩ (g := (mkF m 51 #[.val (.int p1), .val (.int p2), .val (.int p3), .val (.int p4), .val (.int p5), .val (.int (3 : Int32)), .val (.ref b34), .unset, .unset] [(.int z40), (.int (1 : Int32)), (.ref b34)])) rfl rfl (hb hby at_51)
    have N41 := Fr.snoc X41 N40 ge35
    have Z41 : n0 ≤ h41.size := Nat.le_trans Z38 (Nat.le_of_eq W41.size.symm)
    refine own_Fin.step st41 ?_
    show own_Fin p e below s _ _ _ (T41.setTop (mkF m 52 #[.val (.int p1), .val (.int p2), .val (.int p3), .val (.int p4), .val (.int p5), .val (.int (3 : Int32)), .val (.ref b34), .unset, .unset] []))
    refine own_Fin.step (fun _ => XS.iload X41.here hx rfl (hb hby at_52) rfl) ?_
    show own_Fin p e below s _ _ _ (T41.setTop (mkF m 54 #[.val (.int p1), .val (.int p2), .val (.int p3), .val (.int p4), .val (.int p5), .val (.int (3 : Int32)), .val (.ref b34), .unset, .unset] [(.int (3 : Int32))]))
    refine own_Fin.step (fun _ => XS.iconst X41.here hx rfl (hb hby at_54)) ?_
    show own_Fin p e below s _ _ _ (T41.setTop (mkF m 55 #[.val (.int p1), .val (.int p2), .val (.int p3), .val (.int p4), .val (.int p5), .val (.int (3 : Int32)), .val (.ref b34), .unset, .unset] [(.int (2 : Int32)), (.int (3 : Int32))]))
    refine own_Fin.step (fun _ => XS.icmpNo X41.here hx rfl (hb hby at_55) rfl (XT.ii_le_f (by decide : (2 : Int32) < (3 : Int32)))) ?_
    show own_Fin p e below s _ _ _ (T41.setTop (mkF m 58 #[.val (.int p1), .val (.int p2), .val (.int p3), .val (.int p4), .val (.int p5), .val (.int (3 : Int32)), .val (.ref b34), .unset, .unset] []))
    refine own_Fin.step (fun _ => XS.aload X41.here hx rfl (hb hby at_58) rfl rfl) ?_
    show own_Fin p e below s _ _ _ (T41.setTop (mkF m 60 #[.val (.int p1), .val (.int p2), .val (.int p3), .val (.int p4), .val (.int p5), .val (.int (3 : Int32)), .val (.ref b34), .unset, .unset] [(.ref b34)]))
    refine own_Fin.step (fun _ => XS.iconst X41.here hx rfl (hb hby at_60)) ?_
    show own_Fin p e below s _ _ _ (T41.setTop (mkF m 61 #[.val (.int p1), .val (.int p2), .val (.int p3), .val (.int p4), .val (.int p5), .val (.int (3 : Int32)), .val (.ref b34), .unset, .unset] [(.int (2 : Int32)), (.ref b34)]))
    refine own_Fin.step (fun _ => XS.iload X41.here hx rfl (hb hby at_61) rfl) ?_
    show own_Fin p e below s _ _ _ (T41.setTop (mkF m 63 #[.val (.int p1), .val (.int p2), .val (.int p3), .val (.int p4), .val (.int p5), .val (.int (3 : Int32)), .val (.ref b34), .unset, .unset] [(.int p5), (.int (2 : Int32)), (.ref b34)]))
    refine own_Fin.step (fun _ => XS.iconst X41.here hx rfl (hb hby at_63)) ?_
    show own_Fin p e below s _ _ _ (T41.setTop (mkF m 64 #[.val (.int p1), .val (.int p2), .val (.int p3), .val (.int p4), .val (.int p5), .val (.int (3 : Int32)), .val (.ref b34), .unset, .unset] [(.int (2 : Int32)), (.int p5), (.int (2 : Int32)), (.ref b34)]))
    refine own_Fin.step (fun _ => XS.iloadN X41.here hx rfl (hb hby at_64) rfl) ?_
    show own_Fin p e below s _ _ _ (T41.setTop (mkF m 65 #[.val (.int p1), .val (.int p2), .val (.int p3), .val (.int p4), .val (.int p5), .val (.int (3 : Int32)), .val (.ref b34), .unset, .unset] [(.int p2), (.int (2 : Int32)), (.int p5), (.int (2 : Int32)), (.ref b34)]))
    refine own_Fin.step (fun _ => XS.iloadN X41.here hx rfl (hb hby at_65) rfl) ?_
    show own_Fin p e below s _ _ _ (T41.setTop (mkF m 66 #[.val (.int p1), .val (.int p2), .val (.int p3), .val (.int p4), .val (.int p5), .val (.int (3 : Int32)), .val (.ref b34), .unset, .unset] [(.int p3), (.int p2), (.int (2 : Int32)), (.int p5), (.int (2 : Int32)), (.ref b34)]))
    refine own_Fin.step (fun _ => XS.iloadN X41.here hx rfl (hb hby at_66) rfl) ?_
    show own_Fin p e below s _ _ _ (T41.setTop (mkF m 67 #[.val (.int p1), .val (.int p2), .val (.int p3), .val (.int p4), .val (.int p5), .val (.int (3 : Int32)), .val (.ref b34), .unset, .unset] [(.int p4), (.int p3), (.int p2), (.int (2 : Int32)), (.int p5), (.int (2 : Int32)), (.ref b34)]))
    obtain ⟨_, T43, L43, X43, ⟨z43, rfl, N43q, e43⟩, st43⟩ := own_callS X41 hx hZ hown (own_w hw 7 rfl) (own_w hw 8 rfl) (own_w hw 9 rfl) (own_w hw 10 rfl) (by decide) (rm1 l Z a0 hw p5 (2 : Int32) p2 p3 p4 h41 n0 Z41) (by decide) (by decide) e41 (W := 2) (g := (mkF m 67 #[.val (.int p1), .val (.int p2), .val (.int p3), .val (.int p4), .val (.int p5), .val (.int (3 : Int32)), .val (.ref b34), .unset, .unset] [(.int p4), (.int p3), (.int p2), (.int (2 : Int32)), (.int p5), (.int (2 : Int32)), (.ref b34)])) rfl (by rw [hml]; rfl) (argsL := [(.int p5), (.int (2 : Int32)), (.int p2), (.int p3), (.int p4)]) (rest := [(.int (2 : Int32)), (.ref b34)]) (lenOf pd_3 rfl) rfl rfl (by show 2 * 0 + _ ≤ _; exact Nat.le_of_eq rfl) (hb hby at_67) (by decide) (by decide)
    have N43 := Fr.app N41 N43q
    refine own_Fin.step st43 ?_
    show own_Fin p e below s _ _ _ (T43.setTop (mkF m 70 #[.val (.int p1), .val (.int p2), .val (.int p3), .val (.int p4), .val (.int p5), .val (.int (3 : Int32)), .val (.ref b34), .unset, .unset] [(.int z43), (.int (2 : Int32)), (.ref b34)]))
    obtain ⟨T44, h44, X44, e44, V44, W44, st44⟩ := own_stFB X43 hx hZ e43 V41 (j := (2 : Int32)) ⟨by decide, by decide⟩ (g := (mkF m 70 #[.val (.int p1), .val (.int p2), .val (.int p3), .val (.int p4), .val (.int p5), .val (.int (3 : Int32)), .val (.ref b34), .unset, .unset] [(.int z43), (.int (2 : Int32)), (.ref b34)])) rfl rfl (hb hby at_70)
    have N44 := Fr.snoc X44 N43 ge35
    have Z44 : n0 ≤ h44.size := Nat.le_trans Z41 (Nat.le_of_eq W44.size.symm)
    refine own_Fin.step st44 ?_
    show own_Fin p e below s _ _ _ (T44.setTop (mkF m 71 #[.val (.int p1), .val (.int p2), .val (.int p3), .val (.int p4), .val (.int p5), .val (.int (3 : Int32)), .val (.ref b34), .unset, .unset] []))
    refine own_Fin.step (fun _ => XS.iload X44.here hx rfl (hb hby at_71) rfl) ?_
    show own_Fin p e below s _ _ _ (T44.setTop (mkF m 73 #[.val (.int p1), .val (.int p2), .val (.int p3), .val (.int p4), .val (.int p5), .val (.int (3 : Int32)), .val (.ref b34), .unset, .unset] [(.int (3 : Int32))]))
    refine own_Fin.step (fun _ => XS.iconst X44.here hx rfl (hb hby at_73)) ?_
    show own_Fin p e below s _ _ _ (T44.setTop (mkF m 74 #[.val (.int p1), .val (.int p2), .val (.int p3), .val (.int p4), .val (.int p5), .val (.int (3 : Int32)), .val (.ref b34), .unset, .unset] [(.int (3 : Int32)), (.int (3 : Int32))]))
    refine own_Fin.step (fun _ => XS.icmpYes X44.here hx rfl (pc0 := 74) (pc' := 90) rfl (hb hby at_74) rfl (XT.ii_le_t (by decide : ¬ ((3 : Int32) < (3 : Int32)))) (by decide) (by decide)) ?_
    show own_Fin p e below s _ _ _ (T44.setTop (mkF m 90 #[.val (.int p1), .val (.int p2), .val (.int p3), .val (.int p4), .val (.int p5), .val (.int (3 : Int32)), .val (.ref b34), .unset, .unset] []))
    refine own_Fin.step (fun _ => XS.iload X44.here hx rfl (hb hby at_90) rfl) ?_
    show own_Fin p e below s _ _ _ (T44.setTop (mkF m 92 #[.val (.int p1), .val (.int p2), .val (.int p3), .val (.int p4), .val (.int p5), .val (.int (3 : Int32)), .val (.ref b34), .unset, .unset] [(.int (3 : Int32))]))
    refine own_Fin.step (fun _ => XS.iconst X44.here hx rfl (hb hby at_92)) ?_
    show own_Fin p e below s _ _ _ (T44.setTop (mkF m 93 #[.val (.int p1), .val (.int p2), .val (.int p3), .val (.int p4), .val (.int p5), .val (.int (3 : Int32)), .val (.ref b34), .unset, .unset] [(.int (4 : Int32)), (.int (3 : Int32))]))
    refine own_Fin.step (fun _ => XS.icmpYes X44.here hx rfl (pc0 := 93) (pc' := 109) rfl (hb hby at_93) rfl (XT.ii_le_t (by decide : ¬ ((4 : Int32) < (3 : Int32)))) (by decide) (by decide)) ?_
    show own_Fin p e below s _ _ _ (T44.setTop (mkF m 109 #[.val (.int p1), .val (.int p2), .val (.int p3), .val (.int p4), .val (.int p5), .val (.int (3 : Int32)), .val (.ref b34), .unset, .unset] []))
    refine own_Fin.step (fun _ => XS.iload X44.here hx rfl (hb hby at_109) rfl) ?_
    show own_Fin p e below s _ _ _ (T44.setTop (mkF m 111 #[.val (.int p1), .val (.int p2), .val (.int p3), .val (.int p4), .val (.int p5), .val (.int (3 : Int32)), .val (.ref b34), .unset, .unset] [(.int (3 : Int32))]))
    refine own_Fin.step (fun _ => XS.iconst X44.here hx rfl (hb hby at_111)) ?_
    show own_Fin p e below s _ _ _ (T44.setTop (mkF m 112 #[.val (.int p1), .val (.int p2), .val (.int p3), .val (.int p4), .val (.int p5), .val (.int (3 : Int32)), .val (.ref b34), .unset, .unset] [(.int (5 : Int32)), (.int (3 : Int32))]))
    refine own_Fin.step (fun _ => XS.icmpYes X44.here hx rfl (pc0 := 112) (pc' := 128) rfl (hb hby at_112) rfl (XT.ii_le_t (by decide : ¬ ((5 : Int32) < (3 : Int32)))) (by decide) (by decide)) ?_
    show own_Fin p e below s _ _ _ (T44.setTop (mkF m 128 #[.val (.int p1), .val (.int p2), .val (.int p3), .val (.int p4), .val (.int p5), .val (.int (3 : Int32)), .val (.ref b34), .unset, .unset] []))
    obtain ⟨f, hf⟩ : ∃ z : Nat → Int32, z = (own_upd (own_upd (own_upd (fun _ => (0 : Int32)) ((0 : Int32)).toNatClampNeg (nar .byte z37)) ((1 : Int32)).toNatClampNeg (nar .byte z40)) ((2 : Int32)).toNatClampNeg (nar .byte z43)) := ⟨_, rfl⟩
    rw [← hf] at V44
    refine own_Fin.step (fun _ => XS.aload X44.here hx rfl (hb hby at_128) rfl rfl) ?_
    show own_Fin p e below s _ _ _ (T44.setTop (mkF m 130 #[.val (.int p1), .val (.int p2), .val (.int p3), .val (.int p4), .val (.int p5), .val (.int (3 : Int32)), .val (.ref b34), .unset, .unset] [(.ref b34)]))
    obtain ⟨_, T46, L46, X46, ⟨r46, kt46, gt46, rfl, N46q, K46, sz46, V46, hT46⟩, st46⟩ := own_callS X44 hx hZ hown (own_w hw 2 rfl) (own_w hw 3 rfl) (own_w hw 4 rfl) (own_w hw 5 rfl) (by decide) (rm5 l Z a0 hw b34 k34 (3 : Int32) f h44 n0 Z44 V44 (by decide)) (by decide) (by decide) e44 (W := 0) (g := (mkF m 130 #[.val (.int p1), .val (.int p2), .val (.int p3), .val (.int p4), .val (.int p5), .val (.int (3 : Int32)), .val (.ref b34), .unset, .unset] [(.ref b34)])) rfl (by rw [hml]; rfl) (argsL := [(.ref b34)]) (rest := []) (lenOf pd_2 rfl) rfl rfl (by show 2 * 0 + _ ≤ _; exact Nat.le_of_eq rfl) (hb hby at_130) (by decide) (by decide)
    have N46 := Fr.app N44 N46q
    have ne47 : b34 ≠ r46 := Nat.ne_of_lt (Nat.lt_of_lt_of_le V44.lt sz46)
    have ge48 : n0 ≤ r46 := Nat.le_trans Z44 sz46
    have f49 := V44.keep K46 nin0
    have Z46 : n0 ≤ T46.heap.size := Nat.le_trans Z44 K46.1
    refine own_Fin.step st46 ?_
    show own_Fin p e below s _ _ _ (T46.setTop (mkF m 133 #[.val (.int p1), .val (.int p2), .val (.int p3), .val (.int p4), .val (.int p5), .val (.int (3 : Int32)), .val (.ref b34), .unset, .unset] [(.ref r46)]))
    refine own_Fin.step (fun _ => XS.astore X46.here hx rfl (hb hby at_133) rfl rfl (l' := #[.val (.int p1), .val (.int p2), .val (.int p3), .val (.int p4), .val (.int p5), .val (.int (3 : Int32)), .val (.ref b34), .val (.ref r46), .unset]) rfl) ?_
    show own_Fin p e below s _ _ _ (T46.setTop (mkF m 135 #[.val (.int p1), .val (.int p2), .val (.int p3), .val (.int p4), .val (.int p5), .val (.int (3 : Int32)), .val (.ref b34), .val (.ref r46), .unset] []))
    refine own_Fin.step (fun _ => XS.aload X46.here hx rfl (hb hby at_135) rfl rfl) ?_
    show own_Fin p e below s _ _ _ (T46.setTop (mkF m 137 #[.val (.int p1), .val (.int p2), .val (.int p3), .val (.int p4), .val (.int p5), .val (.int (3 : Int32)), .val (.ref b34), .val (.ref r46), .unset] [(.ref r46)]))
    refine own_Fin.step (fun _ => XS.ifnullNo X46.here hx rfl (hb hby at_137) rfl) ?_
    show own_Fin p e below s _ _ _ (T46.setTop (mkF m 140 #[.val (.int p1), .val (.int p2), .val (.int p3), .val (.int p4), .val (.int p5), .val (.int (3 : Int32)), .val (.ref b34), .val (.ref r46), .unset] []))
    refine own_Fin.step (fun _ => XS.aload X46.here hx rfl (hb hby at_140) rfl rfl) ?_
    show own_Fin p e below s _ _ _ (T46.setTop (mkF m 142 #[.val (.int p1), .val (.int p2), .val (.int p3), .val (.int p4), .val (.int p5), .val (.int (3 : Int32)), .val (.ref b34), .val (.ref r46), .unset] [(.ref r46)]))
    refine own_Fin.step (own_lenF X46 hx hZ rfl V46 (g := (mkF m 142 #[.val (.int p1), .val (.int p2), .val (.int p3), .val (.int p4), .val (.int p5), .val (.int (3 : Int32)), .val (.ref b34), .val (.ref r46), .unset] [(.ref r46)])) rfl rfl (hb hby at_142)) ?_
    show own_Fin p e below s _ _ _ (T46.setTop (mkF m 143 #[.val (.int p1), .val (.int p2), .val (.int p3), .val (.int p4), .val (.int p5), .val (.int (3 : Int32)), .val (.ref b34), .val (.ref r46), .unset] [(.int (3 : Int32))]))
    refine own_Fin.step (fun _ => XS.iload X46.here hx rfl (hb hby at_143) rfl) ?_
    show own_Fin p e below s _ _ _ (T46.setTop (mkF m 145 #[.val (.int p1), .val (.int p2), .val (.int p3), .val (.int p4), .val (.int p5), .val (.int (3 : Int32)), .val (.ref b34), .val (.ref r46), .unset] [(.int (3 : Int32)), (.int (3 : Int32))]))
    refine own_Fin.step (fun _ => XS.icmpYes X46.here hx rfl (pc0 := 145) (pc' := 150) rfl (hb hby at_145) rfl (XT.ii_eq_t (by decide : (3 : Int32) = (3 : Int32))) (by decide) (by decide)) ?_
    show own_Fin p e below s _ _ _ (T46.setTop (mkF m 150 #[.val (.int p1), .val (.int p2), .val (.int p3), .val (.int p4), .val (.int p5), .val (.int (3 : Int32)), .val (.ref b34), .val (.ref r46), .unset] []))
    refine own_Fin.step (fun _ => XS.iconst X46.here hx rfl (hb hby at_150)) ?_
    show own_Fin p e below s _ _ _ (T46.setTop (mkF m 151 #[.val (.int p1), .val (.int p2), .val (.int p3), .val (.int p4), .val (.int p5), .val (.int (3 : Int32)), .val (.ref b34), .val (.ref r46), .unset] [(.int (1 : Int32))]))
    refine own_Fin.step (fun _ => XS.istore X46.here hx rfl (hb hby at_151) rfl (l' := #[.val (.int p1), .val (.int p2), .val (.int p3), .val (.int p4), .val (.int p5), .val (.int (3 : Int32)), .val (.ref b34), .val (.ref r46), .val (.int (1 : Int32))]) rfl) ?_
    show own_Fin p e below s _ _ _ (T46.setTop (mkF m 153 #[.val (.int p1), .val (.int p2), .val (.int p3), .val (.int p4), .val (.int p5), .val (.int (3 : Int32)), .val (.ref b34), .val (.ref r46), .val (.int (1 : Int32))] []))
    refine own_Fin.step (fun _ => XS.iload X46.here hx rfl (hb hby at_153) rfl) ?_
    show own_Fin p e below s _ _ _ (T46.setTop (mkF m 155 #[.val (.int p1), .val (.int p2), .val (.int p3), .val (.int p4), .val (.int p5), .val (.int (3 : Int32)), .val (.ref b34), .val (.ref r46), .val (.int (1 : Int32))] [(.int (1 : Int32))]))
    refine own_Fin.step (fun _ => XS.ifNo X46.here hx rfl (hb hby at_155) rfl (XT.i0_eq_f (by decide : ¬ ((1 : Int32) = (0 : Int32))))) ?_
    show own_Fin p e below s _ _ _ (T46.setTop (mkF m 158 #[.val (.int p1), .val (.int p2), .val (.int p3), .val (.int p4), .val (.int p5), .val (.int (3 : Int32)), .val (.ref b34), .val (.ref r46), .val (.int (1 : Int32))] []))
    refine own_Fin.step (fun _ => XS.iload X46.here hx rfl (hb hby at_158) rfl) ?_
    show own_Fin p e below s _ _ _ (T46.setTop (mkF m 160 #[.val (.int p1), .val (.int p2), .val (.int p3), .val (.int p4), .val (.int p5), .val (.int (3 : Int32)), .val (.ref b34), .val (.ref r46), .val (.int (1 : Int32))] [(.int (3 : Int32))]))
    refine own_Fin.step (fun _ => XS.ifNo X46.here hx rfl (hb hby at_160) rfl (XT.i0_le_f (by decide : (0 : Int32) < (3 : Int32)))) ?_
    show own_Fin p e below s _ _ _ (T46.setTop (mkF m 163 #[.val (.int p1), .val (.int p2), .val (.int p3), .val (.int p4), .val (.int p5), .val (.int (3 : Int32)), .val (.ref b34), .val (.ref r46), .val (.int (1 : Int32))] []))
    refine own_Fin.step (fun _ => XS.aload X46.here hx rfl (hb hby at_163) rfl rfl) ?_
    show own_Fin p e below s _ _ _ (T46.setTop (mkF m 165 #[.val (.int p1), .val (.int p2), .val (.int p3), .val (.int p4), .val (.int p5), .val (.int (3 : Int32)), .val (.ref b34), .val (.ref r46), .val (.int (1 : Int32))] [(.ref r46)]))
    refine own_Fin.step (fun _ => XS.iconst X46.here hx rfl (hb hby at_165)) ?_
    show own_Fin p e below s _ _ _ (T46.setTop (mkF m 166 #[.val (.int p1), .val (.int p2), .val (.int p3), .val (.int p4), .val (.int p5), .val (.int (3 : Int32)), .val (.ref b34), .val (.ref r46), .val (.int (1 : Int32))] [(.int (0 : Int32)), (.ref r46)]))
    refine own_Fin.step (own_ldFI X46 hx hZ rfl V46 (j := (0 : Int32)) ⟨by decide, by decide⟩ (g := (mkF m 166 #[.val (.int p1), .val (.int p2), .val (.int p3), .val (.int p4), .val (.int p5), .val (.int (3 : Int32)), .val (.ref b34), .val (.ref r46), .val (.int (1 : Int32))] [(.int (0 : Int32)), (.ref r46)])) rfl rfl (hb hby at_166)) ?_
    show own_Fin p e below s _ _ _ (T46.setTop (mkF m 167 #[.val (.int p1), .val (.int p2), .val (.int p3), .val (.int p4), .val (.int p5), .val (.int (3 : Int32)), .val (.ref b34), .val (.ref r46), .val (.int (1 : Int32))] [(.int (gt46 ((0 : Int32)).toNatClampNeg))]))
    refine own_Fin.step (fun _ => XS.aload X46.here hx rfl (hb hby at_167) rfl rfl) ?_
    show own_Fin p e below s _ _ _ (T46.setTop (mkF m 169 #[.val (.int p1), .val (.int p2), .val (.int p3), .val (.int p4), .val (.int p5), .val (.int (3 : Int32)), .val (.ref b34), .val (.ref r46), .val (.int (1 : Int32))] [(.ref b34), (.int (gt46 ((0 : Int32)).toNatClampNeg))]))
    refine own_Fin.step (fun _ => XS.iconst X46.here hx rfl (hb hby at_169)) ?_
    show own_Fin p e below s _ _ _ (T46.setTop (mkF m 170 #[.val (.int p1), .val (.int p2), .val (.int p3), .val (.int p4), .val (.int p5), .val (.int (3 : Int32)), .val (.ref b34), .val (.ref r46), .val (.int (1 : Int32))] [(.int (0 : Int32)), (.ref b34), (.int (gt46 ((0 : Int32)).toNatClampNeg))]))
    obtain ⟨_, T50, L50, X50, ⟨z50, rfl, N50q, e50, hz50⟩, st50⟩ := own_callS X46 hx hZ hown (own_w hw 14 rfl) (own_w hw 15 rfl) (own_w hw 9 rfl) (own_w hw 16 rfl) (by decide) (rm3b0 l Z a0 hw b34 k34 (3 : Int32) f T46.heap n0 Z46 f49 (by decide)) (by decide) (by decide) rfl (W := 1) (g := (mkF m 170 #[.val (.int p1), .val (.int p2), .val (.int p3), .val (.int p4), .val (.int p5), .val (.int (3 : Int32)), .val (.ref b34), .val (.ref r46), .val (.int (1 : Int32))] [(.int (0 : Int32)), (.ref b34), (.int (gt46 ((0 : Int32)).toNatClampNeg))])) rfl (by rw [hml]; rfl) (argsL := [(.ref b34), (.int (0 : Int32))]) (rest := [(.int (gt46 ((0 : Int32)).toNatClampNeg))]) (lenOf pd_4 rfl) rfl rfl (by show 2 * 0 + _ ≤ _; exact Nat.le_of_eq rfl) (hb hby at_170) (by decide) (by decide)
    have N50 := Fr.app N46 N50q
    refine own_Fin.step st50 ?_
    show own_Fin p e below s _ _ _ (T50.setTop (mkF m 173 #[.val (.int p1), .val (.int p2), .val (.int p3), .val (.int p4), .val (.int p5), .val (.int (3 : Int32)), .val (.ref b34), .val (.ref r46), .val (.int (1 : Int32))] [(.int z50), (.int (gt46 ((0 : Int32)).toNatClampNeg))]))
    refine own_Fin.step (fun _ => XS.icmpNo X50.here hx rfl (hb hby at_173) rfl (XT.ii_ne_f (own_uniq (hT46 0 (by decide)) hz50))) ?_
    show own_Fin p e below s _ _ _ (T50.setTop (mkF m 176 #[.val (.int p1), .val (.int p2), .val (.int p3), .val (.int p4), .val (.int p5), .val (.int (3 : Int32)), .val (.ref b34), .val (.ref r46), .val (.int (1 : Int32))] []))
    refine own_Fin.step (fun _ => XS.iconst X50.here hx rfl (hb hby at_176)) ?_
    show own_Fin p e below s _ _ _ (T50.setTop (mkF m 177 #[.val (.int p1), .val (.int p2), .val (.int p3), .val (.int p4), .val (.int p5), .val (.int (3 : Int32)), .val (.ref b34), .val (.ref r46), .val (.int (1 : Int32))] [(.int (1 : Int32))]))
    refine own_Fin.step (fun _ => XS.goto X50.here hx rfl (pc0 := 177) (pc' := 181) rfl (hb hby at_177) (by decide) (by decide)) ?_
    show own_Fin p e below s _ _ _ (T50.setTop (mkF m 181 #[.val (.int p1), .val (.int p2), .val (.int p3), .val (.int p4), .val (.int p5), .val (.int (3 : Int32)), .val (.ref b34), .val (.ref r46), .val (.int (1 : Int32))] [(.int (1 : Int32))]))
    refine own_Fin.step (fun _ => XS.istore X50.here hx rfl (hb hby at_181) rfl (l' := #[.val (.int p1), .val (.int p2), .val (.int p3), .val (.int p4), .val (.int p5), .val (.int (3 : Int32)), .val (.ref b34), .val (.ref r46), .val (.int (1 : Int32))]) rfl) ?_
    show own_Fin p e below s _ _ _ (T50.setTop (mkF m 183 #[.val (.int p1), .val (.int p2), .val (.int p3), .val (.int p4), .val (.int p5), .val (.int (3 : Int32)), .val (.ref b34), .val (.ref r46), .val (.int (1 : Int32))] []))
    refine own_Fin.step (fun _ => XS.iload X50.here hx rfl (hb hby at_183) rfl) ?_
    show own_Fin p e below s _ _ _ (T50.setTop (mkF m 185 #[.val (.int p1), .val (.int p2), .val (.int p3), .val (.int p4), .val (.int p5), .val (.int (3 : Int32)), .val (.ref b34), .val (.ref r46), .val (.int (1 : Int32))] [(.int (1 : Int32))]))
    refine own_Fin.step (fun _ => XS.ifNo X50.here hx rfl (hb hby at_185) rfl (XT.i0_eq_f (by decide : ¬ ((1 : Int32) = (0 : Int32))))) ?_
    show own_Fin p e below s _ _ _ (T50.setTop (mkF m 188 #[.val (.int p1), .val (.int p2), .val (.int p3), .val (.int p4), .val (.int p5), .val (.int (3 : Int32)), .val (.ref b34), .val (.ref r46), .val (.int (1 : Int32))] []))
    refine own_Fin.step (fun _ => XS.iload X50.here hx rfl (hb hby at_188) rfl) ?_
    show own_Fin p e below s _ _ _ (T50.setTop (mkF m 190 #[.val (.int p1), .val (.int p2), .val (.int p3), .val (.int p4), .val (.int p5), .val (.int (3 : Int32)), .val (.ref b34), .val (.ref r46), .val (.int (1 : Int32))] [(.int (3 : Int32))]))
    refine own_Fin.step (fun _ => XS.iconst X50.here hx rfl (hb hby at_190)) ?_
    show own_Fin p e below s _ _ _ (T50.setTop (mkF m 191 #[.val (.int p1), .val (.int p2), .val (.int p3), .val (.int p4), .val (.int p5), .val (.int (3 : Int32)), .val (.ref b34), .val (.ref r46), .val (.int (1 : Int32))] [(.int (1 : Int32)), (.int (3 : Int32))]))
    refine own_Fin.step (fun _ => XS.icmpNo X50.here hx rfl (hb hby at_191) rfl (XT.ii_le_f (by decide : (1 : Int32) < (3 : Int32)))) ?_
    show own_Fin p e below s _ _ _ (T50.setTop (mkF m 194 #[.val (.int p1), .val (.int p2), .val (.int p3), .val (.int p4), .val (.int p5), .val (.int (3 : Int32)), .val (.ref b34), .val (.ref r46), .val (.int (1 : Int32))] []))
    refine own_Fin.step (fun _ => XS.aload X50.here hx rfl (hb hby at_194) rfl rfl) ?_
    show own_Fin p e below s _ _ _ (T50.setTop (mkF m 196 #[.val (.int p1), .val (.int p2), .val (.int p3), .val (.int p4), .val (.int p5), .val (.int (3 : Int32)), .val (.ref b34), .val (.ref r46), .val (.int (1 : Int32))] [(.ref r46)]))
    refine own_Fin.step (fun _ => XS.iconst X50.here hx rfl (hb hby at_196)) ?_
    show own_Fin p e below s _ _ _ (T50.setTop (mkF m 197 #[.val (.int p1), .val (.int p2), .val (.int p3), .val (.int p4), .val (.int p5), .val (.int (3 : Int32)), .val (.ref b34), .val (.ref r46), .val (.int (1 : Int32))] [(.int (1 : Int32)), (.ref r46)]))
    refine own_Fin.step (own_ldFI X50 hx hZ e50 V46 (j := (1 : Int32)) ⟨by decide, by decide⟩ (g := (mkF m 197 #[.val (.int p1), .val (.int p2), .val (.int p3), .val (.int p4), .val (.int p5), .val (.int (3 : Int32)), .val (.ref b34), .val (.ref r46), .val (.int (1 : Int32))] [(.int (1 : Int32)), (.ref r46)])) rfl rfl (hb hby at_197)) ?_
    show own_Fin p e below s _ _ _ (T50.setTop (mkF m 198 #[.val (.int p1), .val (.int p2), .val (.int p3), .val (.int p4), .val (.int p5), .val (.int (3 : Int32)), .val (.ref b34), .val (.ref r46), .val (.int (1 : Int32))] [(.int (gt46 ((1 : Int32)).toNatClampNeg))]))
    refine own_Fin.step (fun _ => XS.aload X50.here hx rfl (hb hby at_198) rfl rfl) ?_
    show own_Fin p e below s _ _ _ (T50.setTop (mkF m 200 #[.val (.int p1), .val (.int p2), .val (.int p3), .val (.int p4), .val (.int p5), .val (.int (3 : Int32)), .val (.ref b34), .val (.ref r46), .val (.int (1 : Int32))] [(.ref b34), (.int (gt46 ((1 : Int32)).toNatClampNeg))]))
    refine own_Fin.step (fun _ => XS.iconst X50.here hx rfl (hb hby at_200)) ?_
    show own_Fin p e below s _ _ _ (T50.setTop (mkF m 201 #[.val (.int p1), .val (.int p2), .val (.int p3), .val (.int p4), .val (.int p5), .val (.int (3 : Int32)), .val (.ref b34), .val (.ref r46), .val (.int (1 : Int32))] [(.int (1 : Int32)), (.ref b34), (.int (gt46 ((1 : Int32)).toNatClampNeg))]))
    obtain ⟨_, T51, L51, X51, ⟨z51, rfl, N51q, e51, hz51⟩, st51⟩ := own_callS X50 hx hZ hown (own_w hw 14 rfl) (own_w hw 15 rfl) (own_w hw 9 rfl) (own_w hw 16 rfl) (by decide) (rm3b1 l Z a0 hw b34 k34 (3 : Int32) f T46.heap n0 Z46 f49 (by decide)) (by decide) (by decide) e50 (W := 1) (g := (mkF m 201 #[.val (.int p1), .val (.int p2), .val (.int p3), .val (.int p4), .val (.int p5), .val (.int (3 : Int32)), .val (.ref b34), .val (.ref r46), .val (.int (1 : Int32))] [(.int (1 : Int32)), (.ref b34), (.int (gt46 ((1 : Int32)).toNatClampNeg))])) rfl (by rw [hml]; rfl) (argsL := [(.ref b34), (.int (1 : Int32))]) (rest := [(.int (gt46 ((1 : Int32)).toNatClampNeg))]) (lenOf pd_4 rfl) rfl rfl (by show 2 * 0 + _ ≤ _; exact Nat.le_of_eq rfl) (hb hby at_201) (by decide) (by decide)
    have N51 := Fr.app N50 N51q
    refine own_Fin.step st51 ?_
    show own_Fin p e below s _ _ _ (T51.setTop (mkF m 204 #[.val (.int p1), .val (.int p2), .val (.int p3), .val (.int p4), .val (.int p5), .val (.int (3 : Int32)), .val (.ref b34), .val (.ref r46), .val (.int (1 : Int32))] [(.int z51), (.int (gt46 ((1 : Int32)).toNatClampNeg))]))
    refine own_Fin.step (fun _ => XS.icmpNo X51.here hx rfl (hb hby at_204) rfl (XT.ii_ne_f (own_uniq (hT46 1 (by decide)) hz51))) ?_
    show own_Fin p e below s _ _ _ (T51.setTop (mkF m 207 #[.val (.int p1), .val (.int p2), .val (.int p3), .val (.int p4), .val (.int p5), .val (.int (3 : Int32)), .val (.ref b34), .val (.ref r46), .val (.int (1 : Int32))] []))
    refine own_Fin.step (fun _ => XS.iconst X51.here hx rfl (hb hby at_207)) ?_
    show own_Fin p e below s _ _ _ (T51.setTop (mkF m 208 #[.val (.int p1), .val (.int p2), .val (.int p3), .val (.int p4), .val (.int p5), .val (.int (3 : Int32)), .val (.ref b34), .val (.ref r46), .val (.int (1 : Int32))] [(.int (1 : Int32))]))
    refine own_Fin.step (fun _ => XS.goto X51.here hx rfl (pc0 := 208) (pc' := 212) rfl (hb hby at_208) (by decide) (by decide)) ?_
    show own_Fin p e below s _ _ _ (T51.setTop (mkF m 212 #[.val (.int p1), .val (.int p2), .val (.int p3), .val (.int p4), .val (.int p5), .val (.int (3 : Int32)), .val (.ref b34), .val (.ref r46), .val (.int (1 : Int32))] [(.int (1 : Int32))]))
    refine own_Fin.step (fun _ => XS.istore X51.here hx rfl (hb hby at_212) rfl (l' := #[.val (.int p1), .val (.int p2), .val (.int p3), .val (.int p4), .val (.int p5), .val (.int (3 : Int32)), .val (.ref b34), .val (.ref r46), .val (.int (1 : Int32))]) rfl) ?_
    show own_Fin p e below s _ _ _ (T51.setTop (mkF m 214 #[.val (.int p1), .val (.int p2), .val (.int p3), .val (.int p4), .val (.int p5), .val (.int (3 : Int32)), .val (.ref b34), .val (.ref r46), .val (.int (1 : Int32))] []))
    refine own_Fin.step (fun _ => XS.iload X51.here hx rfl (hb hby at_214) rfl) ?_
    show own_Fin p e below s _ _ _ (T51.setTop (mkF m 216 #[.val (.int p1), .val (.int p2), .val (.int p3), .val (.int p4), .val (.int p5), .val (.int (3 : Int32)), .val (.ref b34), .val (.ref r46), .val (.int (1 : Int32))] [(.int (1 : Int32))]))
    refine own_Fin.step (fun _ => XS.ifNo X51.here hx rfl (hb hby at_216) rfl (XT.i0_eq_f (by decide : ¬ ((1 : Int32) = (0 : Int32))))) ?_
    show own_Fin p e below s _ _ _ (T51.setTop (mkF m 219 #[.val (.int p1), .val (.int p2), .val (.int p3), .val (.int p4), .val (.int p5), .val (.int (3 : Int32)), .val (.ref b34), .val (.ref r46), .val (.int (1 : Int32))] []))
    refine own_Fin.step (fun _ => XS.iload X51.here hx rfl (hb hby at_219) rfl) ?_
    show own_Fin p e below s _ _ _ (T51.setTop (mkF m 221 #[.val (.int p1), .val (.int p2), .val (.int p3), .val (.int p4), .val (.int p5), .val (.int (3 : Int32)), .val (.ref b34), .val (.ref r46), .val (.int (1 : Int32))] [(.int (3 : Int32))]))
    refine own_Fin.step (fun _ => XS.iconst X51.here hx rfl (hb hby at_221)) ?_
    show own_Fin p e below s _ _ _ (T51.setTop (mkF m 222 #[.val (.int p1), .val (.int p2), .val (.int p3), .val (.int p4), .val (.int p5), .val (.int (3 : Int32)), .val (.ref b34), .val (.ref r46), .val (.int (1 : Int32))] [(.int (2 : Int32)), (.int (3 : Int32))]))
    refine own_Fin.step (fun _ => XS.icmpNo X51.here hx rfl (hb hby at_222) rfl (XT.ii_le_f (by decide : (2 : Int32) < (3 : Int32)))) ?_
    show own_Fin p e below s _ _ _ (T51.setTop (mkF m 225 #[.val (.int p1), .val (.int p2), .val (.int p3), .val (.int p4), .val (.int p5), .val (.int (3 : Int32)), .val (.ref b34), .val (.ref r46), .val (.int (1 : Int32))] []))
    refine own_Fin.step (fun _ => XS.aload X51.here hx rfl (hb hby at_225) rfl rfl) ?_
    show own_Fin p e below s _ _ _ (T51.setTop (mkF m 227 #[.val (.int p1), .val (.int p2), .val (.int p3), .val (.int p4), .val (.int p5), .val (.int (3 : Int32)), .val (.ref b34), .val (.ref r46), .val (.int (1 : Int32))] [(.ref r46)]))
    refine own_Fin.step (fun _ => XS.iconst X51.here hx rfl (hb hby at_227)) ?_
    show own_Fin p e below s _ _ _ (T51.setTop (mkF m 228 #[.val (.int p1), .val (.int p2), .val (.int p3), .val (.int p4), .val (.int p5), .val (.int (3 : Int32)), .val (.ref b34), .val (.ref r46), .val (.int (1 : Int32))] [(.int (2 : Int32)), (.ref r46)]))
    refine own_Fin.step (own_ldFI X51 hx hZ e51 V46 (j := (2 : Int32)) ⟨by decide, by decide⟩ (g := (mkF m 228 #[.val (.int p1), .val (.int p2), .val (.int p3), .val (.int p4), .val (.int p5), .val (.int (3 : Int32)), .val (.ref b34), .val (.ref r46), .val (.int (1 : Int32))] [(.int (2 : Int32)), (.ref r46)])) rfl rfl (hb hby at_228)) ?_
    show own_Fin p e below s _ _ _ (T51.setTop (mkF m 229 #[.val (.int p1), .val (.int p2), .val (.int p3), .val (.int p4), .val (.int p5), .val (.int (3 : Int32)), .val (.ref b34), .val (.ref r46), .val (.int (1 : Int32))] [(.int (gt46 ((2 : Int32)).toNatClampNeg))]))
    refine own_Fin.step (fun _ => XS.aload X51.here hx rfl (hb hby at_229) rfl rfl) ?_
    show own_Fin p e below s _ _ _ (T51.setTop (mkF m 231 #[.val (.int p1), .val (.int p2), .val (.int p3), .val (.int p4), .val (.int p5), .val (.int (3 : Int32)), .val (.ref b34), .val (.ref r46), .val (.int (1 : Int32))] [(.ref b34), (.int (gt46 ((2 : Int32)).toNatClampNeg))]))
    refine own_Fin.step (fun _ => XS.iconst X51.here hx rfl (hb hby at_231)) ?_
    show own_Fin p e below s _ _ _ (T51.setTop (mkF m 232 #[.val (.int p1), .val (.int p2), .val (.int p3), .val (.int p4), .val (.int p5), .val (.int (3 : Int32)), .val (.ref b34), .val (.ref r46), .val (.int (1 : Int32))] [(.int (2 : Int32)), (.ref b34), (.int (gt46 ((2 : Int32)).toNatClampNeg))]))
    obtain ⟨_, T52, L52, X52, ⟨z52, rfl, N52q, e52, hz52⟩, st52⟩ := own_callS X51 hx hZ hown (own_w hw 14 rfl) (own_w hw 15 rfl) (own_w hw 9 rfl) (own_w hw 16 rfl) (by decide) (rm3b2 l Z a0 hw b34 k34 (3 : Int32) f T46.heap n0 Z46 f49 (by decide)) (by decide) (by decide) e51 (W := 1) (g := (mkF m 232 #[.val (.int p1), .val (.int p2), .val (.int p3), .val (.int p4), .val (.int p5), .val (.int (3 : Int32)), .val (.ref b34), .val (.ref r46), .val (.int (1 : Int32))] [(.int (2 : Int32)), (.ref b34), (.int (gt46 ((2 : Int32)).toNatClampNeg))])) rfl (by rw [hml]; rfl) (argsL := [(.ref b34), (.int (2 : Int32))]) (rest := [(.int (gt46 ((2 : Int32)).toNatClampNeg))]) (lenOf pd_4 rfl) rfl rfl (by show 2 * 0 + _ ≤ _; exact Nat.le_of_eq rfl) (hb hby at_232) (by decide) (by decide)
    have N52 := Fr.app N51 N52q
    refine own_Fin.step st52 ?_
    show own_Fin p e below s _ _ _ (T52.setTop (mkF m 235 #[.val (.int p1), .val (.int p2), .val (.int p3), .val (.int p4), .val (.int p5), .val (.int (3 : Int32)), .val (.ref b34), .val (.ref r46), .val (.int (1 : Int32))] [(.int z52), (.int (gt46 ((2 : Int32)).toNatClampNeg))]))
    refine own_Fin.step (fun _ => XS.icmpNo X52.here hx rfl (hb hby at_235) rfl (XT.ii_ne_f (own_uniq (hT46 2 (by decide)) hz52))) ?_
    show own_Fin p e below s _ _ _ (T52.setTop (mkF m 238 #[.val (.int p1), .val (.int p2), .val (.int p3), .val (.int p4), .val (.int p5), .val (.int (3 : Int32)), .val (.ref b34), .val (.ref r46), .val (.int (1 : Int32))] []))
    refine own_Fin.step (fun _ => XS.iconst X52.here hx rfl (hb hby at_238)) ?_
    show own_Fin p e below s _ _ _ (T52.setTop (mkF m 239 #[.val (.int p1), .val (.int p2), .val (.int p3), .val (.int p4), .val (.int p5), .val (.int (3 : Int32)), .val (.ref b34), .val (.ref r46), .val (.int (1 : Int32))] [(.int (1 : Int32))]))
    refine own_Fin.step (fun _ => XS.goto X52.here hx rfl (pc0 := 239) (pc' := 243) rfl (hb hby at_239) (by decide) (by decide)) ?_
    show own_Fin p e below s _ _ _ (T52.setTop (mkF m 243 #[.val (.int p1), .val (.int p2), .val (.int p3), .val (.int p4), .val (.int p5), .val (.int (3 : Int32)), .val (.ref b34), .val (.ref r46), .val (.int (1 : Int32))] [(.int (1 : Int32))]))
    refine own_Fin.step (fun _ => XS.istore X52.here hx rfl (hb hby at_243) rfl (l' := #[.val (.int p1), .val (.int p2), .val (.int p3), .val (.int p4), .val (.int p5), .val (.int (3 : Int32)), .val (.ref b34), .val (.ref r46), .val (.int (1 : Int32))]) rfl) ?_
    show own_Fin p e below s _ _ _ (T52.setTop (mkF m 245 #[.val (.int p1), .val (.int p2), .val (.int p3), .val (.int p4), .val (.int p5), .val (.int (3 : Int32)), .val (.ref b34), .val (.ref r46), .val (.int (1 : Int32))] []))
    refine own_Fin.step (fun _ => XS.iload X52.here hx rfl (hb hby at_245) rfl) ?_
    show own_Fin p e below s _ _ _ (T52.setTop (mkF m 247 #[.val (.int p1), .val (.int p2), .val (.int p3), .val (.int p4), .val (.int p5), .val (.int (3 : Int32)), .val (.ref b34), .val (.ref r46), .val (.int (1 : Int32))] [(.int (1 : Int32))]))
    refine own_Fin.step (fun _ => XS.ifNo X52.here hx rfl (hb hby at_247) rfl (XT.i0_eq_f (by decide : ¬ ((1 : Int32) = (0 : Int32))))) ?_
    show own_Fin p e below s _ _ _ (T52.setTop (mkF m 250 #[.val (.int p1), .val (.int p2), .val (.int p3), .val (.int p4), .val (.int p5), .val (.int (3 : Int32)), .val (.ref b34), .val (.ref r46), .val (.int (1 : Int32))] []))
    refine own_Fin.step (fun _ => XS.iload X52.here hx rfl (hb hby at_250) rfl) ?_
    show own_Fin p e below s _ _ _ (T52.setTop (mkF m 252 #[.val (.int p1), .val (.int p2), .val (.int p3), .val (.int p4), .val (.int p5), .val (.int (3 : Int32)), .val (.ref b34), .val (.ref r46), .val (.int (1 : Int32))] [(.int (3 : Int32))]))
    refine own_Fin.step (fun _ => XS.iconst X52.here hx rfl (hb hby at_252)) ?_
    show own_Fin p e below s _ _ _ (T52.setTop (mkF m 253 #[.val (.int p1), .val (.int p2), .val (.int p3), .val (.int p4), .val (.int p5), .val (.int (3 : Int32)), .val (.ref b34), .val (.ref r46), .val (.int (1 : Int32))] [(.int (3 : Int32)), (.int (3 : Int32))]))
    refine own_Fin.step (fun _ => XS.icmpYes X52.here hx rfl (pc0 := 253) (pc' := 269) rfl (hb hby at_253) rfl (XT.ii_le_t (by decide : ¬ ((3 : Int32) < (3 : Int32)))) (by decide) (by decide)) ?_
    show own_Fin p e below s _ _ _ (T52.setTop (mkF m 269 #[.val (.int p1), .val (.int p2), .val (.int p3), .val (.int p4), .val (.int p5), .val (.int (3 : Int32)), .val (.ref b34), .val (.ref r46), .val (.int (1 : Int32))] []))
    refine own_Fin.step (fun _ => XS.iconst X52.here hx rfl (hb hby at_269)) ?_
    show own_Fin p e below s _ _ _ (T52.setTop (mkF m 270 #[.val (.int p1), .val (.int p2), .val (.int p3), .val (.int p4), .val (.int p5), .val (.int (3 : Int32)), .val (.ref b34), .val (.ref r46), .val (.int (1 : Int32))] [(.int (1 : Int32))]))
    refine own_Fin.step (fun _ => XS.goto X52.here hx rfl (pc0 := 270) (pc' := 274) rfl (hb hby at_270) (by decide) (by decide)) ?_
    show own_Fin p e below s _ _ _ (T52.setTop (mkF m 274 #[.val (.int p1), .val (.int p2), .val (.int p3), .val (.int p4), .val (.int p5), .val (.int (3 : Int32)), .val (.ref b34), .val (.ref r46), .val (.int (1 : Int32))] [(.int (1 : Int32))]))
    refine own_Fin.step (fun _ => XS.istore X52.here hx rfl (hb hby at_274) rfl (l' := #[.val (.int p1), .val (.int p2), .val (.int p3), .val (.int p4), .val (.int p5), .val (.int (3 : Int32)), .val (.ref b34), .val (.ref r46), .val (.int (1 : Int32))]) rfl) ?_
    show own_Fin p e below s _ _ _ (T52.setTop (mkF m 276 #[.val (.int p1), .val (.int p2), .val (.int p3), .val (.int p4), .val (.int p5), .val (.int (3 : Int32)), .val (.ref b34), .val (.ref r46), .val (.int (1 : Int32))] []))
    refine own_Fin.step (fun _ => XS.iload X52.here hx rfl (hb hby at_276) rfl) ?_
    show own_Fin p e below s _ _ _ (T52.setTop (mkF m 278 #[.val (.int p1), .val (.int p2), .val (.int p3), .val (.int p4), .val (.int p5), .val (.int (3 : Int32)), .val (.ref b34), .val (.ref r46), .val (.int (1 : Int32))] [(.int (1 : Int32))]))
    refine own_Fin.step (fun _ => XS.ifNo X52.here hx rfl (hb hby at_278) rfl (XT.i0_eq_f (by decide : ¬ ((1 : Int32) = (0 : Int32))))) ?_
    show own_Fin p e below s _ _ _ (T52.setTop (mkF m 281 #[.val (.int p1), .val (.int p2), .val (.int p3), .val (.int p4), .val (.int p5), .val (.int (3 : Int32)), .val (.ref b34), .val (.ref r46), .val (.int (1 : Int32))] []))
    refine own_Fin.step (fun _ => XS.iload X52.here hx rfl (hb hby at_281) rfl) ?_
    show own_Fin p e below s _ _ _ (T52.setTop (mkF m 283 #[.val (.int p1), .val (.int p2), .val (.int p3), .val (.int p4), .val (.int p5), .val (.int (3 : Int32)), .val (.ref b34), .val (.ref r46), .val (.int (1 : Int32))] [(.int (3 : Int32))]))
    refine own_Fin.step (fun _ => XS.iconst X52.here hx rfl (hb hby at_283)) ?_
    show own_Fin p e below s _ _ _ (T52.setTop (mkF m 284 #[.val (.int p1), .val (.int p2), .val (.int p3), .val (.int p4), .val (.int p5), .val (.int (3 : Int32)), .val (.ref b34), .val (.ref r46), .val (.int (1 : Int32))] [(.int (4 : Int32)), (.int (3 : Int32))]))
    refine own_Fin.step (fun _ => XS.icmpYes X52.here hx rfl (pc0 := 284) (pc' := 300) rfl (hb hby at_284) rfl (XT.ii_le_t (by decide : ¬ ((4 : Int32) < (3 : Int32)))) (by decide) (by decide)) ?_
    show own_Fin p e below s _ _ _ (T52.setTop (mkF m 300 #[.val (.int p1), .val (.int p2), .val (.int p3), .val (.int p4), .val (.int p5), .val (.int (3 : Int32)), .val (.ref b34), .val (.ref r46), .val (.int (1 : Int32))] []))
    refine own_Fin.step (fun _ => XS.iconst X52.here hx rfl (hb hby at_300)) ?_
    show own_Fin p e below s _ _ _ (T52.setTop (mkF m 301 #[.val (.int p1), .val (.int p2), .val (.int p3), .val (.int p4), .val (.int p5), .val (.int (3 : Int32)), .val (.ref b34), .val (.ref r46), .val (.int (1 : Int32))] [(.int (1 : Int32))]))
    refine own_Fin.step (fun _ => XS.goto X52.here hx rfl (pc0 := 301) (pc' := 305) rfl (hb hby at_301) (by decide) (by decide)) ?_
    show own_Fin p e below s _ _ _ (T52.setTop (mkF m 305 #[.val (.int p1), .val (.int p2), .val (.int p3), .val (.int p4), .val (.int p5), .val (.int (3 : Int32)), .val (.ref b34), .val (.ref r46), .val (.int (1 : Int32))] [(.int (1 : Int32))]))
    refine own_Fin.step (fun _ => XS.istore X52.here hx rfl (hb hby at_305) rfl (l' := #[.val (.int p1), .val (.int p2), .val (.int p3), .val (.int p4), .val (.int p5), .val (.int (3 : Int32)), .val (.ref b34), .val (.ref r46), .val (.int (1 : Int32))]) rfl) ?_
    show own_Fin p e below s _ _ _ (T52.setTop (mkF m 307 #[.val (.int p1), .val (.int p2), .val (.int p3), .val (.int p4), .val (.int p5), .val (.int (3 : Int32)), .val (.ref b34), .val (.ref r46), .val (.int (1 : Int32))] []))
    refine own_Fin.step (fun _ => XS.iload X52.here hx rfl (hb hby at_307) rfl) ?_
    show own_Fin p e below s _ _ _ (T52.setTop (mkF m 309 #[.val (.int p1), .val (.int p2), .val (.int p3), .val (.int p4), .val (.int p5), .val (.int (3 : Int32)), .val (.ref b34), .val (.ref r46), .val (.int (1 : Int32))] [(.int (1 : Int32))]))
    refine own_Fin.step (fun _ => XS.ifNo X52.here hx rfl (hb hby at_309) rfl (XT.i0_eq_f (by decide : ¬ ((1 : Int32) = (0 : Int32))))) ?_
    show own_Fin p e below s _ _ _ (T52.setTop (mkF m 312 #[.val (.int p1), .val (.int p2), .val (.int p3), .val (.int p4), .val (.int p5), .val (.int (3 : Int32)), .val (.ref b34), .val (.ref r46), .val (.int (1 : Int32))] []))
    refine own_Fin.step (fun _ => XS.iload X52.here hx rfl (hb hby at_312) rfl) ?_
    show own_Fin p e below s _ _ _ (T52.setTop (mkF m 314 #[.val (.int p1), .val (.int p2), .val (.int p3), .val (.int p4), .val (.int p5), .val (.int (3 : Int32)), .val (.ref b34), .val (.ref r46), .val (.int (1 : Int32))] [(.int (3 : Int32))]))
    refine own_Fin.step (fun _ => XS.iconst X52.here hx rfl (hb hby at_314)) ?_
    show own_Fin p e below s _ _ _ (T52.setTop (mkF m 315 #[.val (.int p1), .val (.int p2), .val (.int p3), .val (.int p4), .val (.int p5), .val (.int (3 : Int32)), .val (.ref b34), .val (.ref r46), .val (.int (1 : Int32))] [(.int (5 : Int32)), (.int (3 : Int32))]))
    refine own_Fin.step (fun _ => XS.icmpYes X52.here hx rfl (pc0 := 315) (pc' := 331) rfl (hb hby at_315) rfl (XT.ii_le_t (by decide : ¬ ((5 : Int32) < (3 : Int32)))) (by decide) (by decide)) ?_
    show own_Fin p e below s _ _ _ (T52.setTop (mkF m 331 #[.val (.int p1), .val (.int p2), .val (.int p3), .val (.int p4), .val (.int p5), .val (.int (3 : Int32)), .val (.ref b34), .val (.ref r46), .val (.int (1 : Int32))] []))
    refine own_Fin.step (fun _ => XS.iconst X52.here hx rfl (hb hby at_331)) ?_
    show own_Fin p e below s _ _ _ (T52.setTop (mkF m 332 #[.val (.int p1), .val (.int p2), .val (.int p3), .val (.int p4), .val (.int p5), .val (.int (3 : Int32)), .val (.ref b34), .val (.ref r46), .val (.int (1 : Int32))] [(.int (1 : Int32))]))
    refine own_Fin.step (fun _ => XS.goto X52.here hx rfl (pc0 := 332) (pc' := 336) rfl (hb hby at_332) (by decide) (by decide)) ?_
    show own_Fin p e below s _ _ _ (T52.setTop (mkF m 336 #[.val (.int p1), .val (.int p2), .val (.int p3), .val (.int p4), .val (.int p5), .val (.int (3 : Int32)), .val (.ref b34), .val (.ref r46), .val (.int (1 : Int32))] [(.int (1 : Int32))]))
    refine own_Fin.step (fun _ => XS.istore X52.here hx rfl (hb hby at_336) rfl (l' := #[.val (.int p1), .val (.int p2), .val (.int p3), .val (.int p4), .val (.int p5), .val (.int (3 : Int32)), .val (.ref b34), .val (.ref r46), .val (.int (1 : Int32))]) rfl) ?_
    show own_Fin p e below s _ _ _ (T52.setTop (mkF m 338 #[.val (.int p1), .val (.int p2), .val (.int p3), .val (.int p4), .val (.int p5), .val (.int (3 : Int32)), .val (.ref b34), .val (.ref r46), .val (.int (1 : Int32))] []))
    refine own_Fin.step (fun _ => XS.iload X52.here hx rfl (hb hby at_338) rfl) ?_
    show own_Fin p e below s _ _ _ (T52.setTop (mkF m 340 #[.val (.int p1), .val (.int p2), .val (.int p3), .val (.int p4), .val (.int p5), .val (.int (3 : Int32)), .val (.ref b34), .val (.ref r46), .val (.int (1 : Int32))] [(.int (1 : Int32))]))
    exact own_retN X52 hx hlk (t := .boolean) hret (by simp) (hb hby at_340) ⟨rfl, N52⟩ (by decide) (by decide)
  ·
    show own_Fin p e below s _ _ _ (s₁.setTop (mkF m 7 #[.val (.int p1), .val (.int p2), .val (.int p3), .val (.int p4), .val (.int p5), .unset, .unset, .unset, .unset] [(.int (4 : Int32))]))
    refine own_Fin.step (fun _ => XS.istore X0.here hx rfl (hb hby at_7) rfl (l' := #[.val (.int p1), .val (.int p2), .val (.int p3), .val (.int p4), .val (.int p5), .val (.int (4 : Int32)), .unset, .unset, .unset]) rfl) ?_
    show own_Fin p e below s _ _ _ (s₁.setTop (mkF m 9 #[.val (.int p1), .val (.int p2), .val (.int p3), .val (.int p4), .val (.int p5), .val (.int (4 : Int32)), .unset, .unset, .unset] []))
    refine own_Fin.step (fun _ => XS.iload X0.here hx rfl (hb hby at_9) rfl) ?_
    show own_Fin p e below s _ _ _ (s₁.setTop (mkF m 11 #[.val (.int p1), .val (.int p2), .val (.int p3), .val (.int p4), .val (.int p5), .val (.int (4 : Int32)), .unset, .unset, .unset] [(.int (4 : Int32))]))
    obtain ⟨T53, h53, k53, b53, X53, e53, E53, g53, V53, st53⟩ := own_newA X0 hx hZ (own_w hw 1 rfl) e0 (ty := .byte) (dv := (.int (0 : Int32))) rfl rfl (g := (mkF m 11 #[.val (.int p1), .val (.int p2), .val (.int p3), .val (.int p4), .val (.int p5), .val (.int (4 : Int32)), .unset, .unset, .unset] [(.int (4 : Int32))])) rfl (hb hby at_11) rfl (by decide) (cap := 4) (by decide) (by decide) (by decide) (by decide) (4)
    have ge54 : n0 ≤ b53 := Nat.le_trans Z0 (Nat.le_of_eq g53.symm)
    have Z53 : n0 ≤ h53.size := Nat.le_trans Z0 E53.1
    have V53' : Arv Z h53 b53 k53 .byte (4 : Int32) [(.int (0 : Int32)), (.int (0 : Int32)), (.int (0 : Int32)), (.int (0 : Int32))] (.int (0 : Int32)) := V53
    refine own_Fin.step st53 ?_
    show own_Fin p e below s _ _ _ (T53.setTop (mkF m 13 #[.val (.int p1), .val (.int p2), .val (.int p3), .val (.int p4), .val (.int p5), .val (.int (4 : Int32)), .unset, .unset, .unset] [(.ref b53)]))
    have Vf55 := own_Arf.of (N := 4) V53'
    refine own_Fin.step (fun _ => XS.astore X53.here hx rfl (hb hby at_13) rfl rfl (l' := #[.val (.int p1), .val (.int p2), .val (.int p3), .val (.int p4), .val (.int p5), .val (.int (4 : Int32)), .val (.ref b53), .unset, .unset]) rfl) ?_
    show own_Fin p e below s _ _ _ (T53.setTop (mkF m 15 #[.val (.int p1), .val (.int p2), .val (.int p3), .val (.int p4), .val (.int p5), .val (.int (4 : Int32)), .val (.ref b53), .unset, .unset] []))
    refine own_Fin.step (fun _ => XS.iload X53.here hx rfl (hb hby at_15) rfl) ?_
    show own_Fin p e below s _ _ _ (T53.setTop (mkF m 17 #[.val (.int p1), .val (.int p2), .val (.int p3), .val (.int p4), .val (.int p5), .val (.int (4 : Int32)), .val (.ref b53), .unset, .unset] [(.int (4 : Int32))]))
    refine own_Fin.step (fun _ => XS.ifNo X53.here hx rfl (hb hby at_17) rfl (XT.i0_le_f (by decide : (0 : Int32) < (4 : Int32)))) ?_
    show own_Fin p e below s _ _ _ (T53.setTop (mkF m 20 #[.val (.int p1), .val (.int p2), .val (.int p3), .val (.int p4), .val (.int p5), .val (.int (4 : Int32)), .val (.ref b53), .unset, .unset] []))
    refine own_Fin.step (fun _ => XS.aload X53.here hx rfl (hb hby at_20) rfl rfl) ?_
    show own_Fin p e below s _ _ _ (T53.setTop (mkF m 22 #[.val (.int p1), .val (.int p2), .val (.int p3), .val (.int p4), .val (.int p5), .val (.int (4 : Int32)), .val (.ref b53), .unset, .unset] [(.ref b53)]))
    refine own_Fin.step (fun _ => XS.iconst X53.here hx rfl (hb hby at_22)) ?_
    show own_Fin p e below s _ _ _ (T53.setTop (mkF m 23 #[.val (.int p1), .val (.int p2), .val (.int p3), .val (.int p4), .val (.int p5), .val (.int (4 : Int32)), .val (.ref b53), .unset, .unset] [(.int (0 : Int32)), (.ref b53)]))
    refine own_Fin.step (fun _ => XS.iload X53.here hx rfl (hb hby at_23) rfl) ?_
    show own_Fin p e below s _ _ _ (T53.setTop (mkF m 25 #[.val (.int p1), .val (.int p2), .val (.int p3), .val (.int p4), .val (.int p5), .val (.int (4 : Int32)), .val (.ref b53), .unset, .unset] [(.int p5), (.int (0 : Int32)), (.ref b53)]))
    refine own_Fin.step (fun _ => XS.iconst X53.here hx rfl (hb hby at_25)) ?_
    show own_Fin p e below s _ _ _ (T53.setTop (mkF m 26 #[.val (.int p1), .val (.int p2), .val (.int p3), .val (.int p4), .val (.int p5), .val (.int (4 : Int32)), .val (.ref b53), .unset, .unset] [(.int (0 : Int32)), (.int p5), (.int (0 : Int32)), (.ref b53)]))
    refine own_Fin.step (fun _ => XS.iloadN X53.here hx rfl (hb hby at_26) rfl) ?_
    show own_Fin p e below s _ _ _ (T53.setTop (mkF m 27 #[.val (.int p1), .val (.int p2), .val (.int p3), .val (.int p4), .val (.int p5), .val (.int (4 : Int32)), .val (.ref b53), .unset, .unset] [(.int p2), (.int (0 : Int32)), (.int p5), (.int (0 : Int32)), (.ref b53)]))
    refine own_Fin.step (fun _ => XS.iloadN X53.here hx rfl (hb hby at_27) rfl) ?_
    show own_Fin p e below s _ _ _ (T53.setTop (mkF m 28 #[.val (.int p1), .val (.int p2), .val (.int p3), .val (.int p4), .val (.int p5), .val (.int (4 : Int32)), .val (.ref b53), .unset, .unset] [(.int p3), (.int p2), (.int (0 : Int32)), (.int p5), (.int (0 : Int32)), (.ref b53)]))
    refine own_Fin.step (fun _ => XS.iloadN X53.here hx rfl (hb hby at_28) rfl) ?_
    show own_Fin p e below s _ _ _ (T53.setTop (mkF m 29 #[.val (.int p1), .val (.int p2), .val (.int p3), .val (.int p4), .val (.int p5), .val (.int (4 : Int32)), .val (.ref b53), .unset, .unset] [(.int p4), (.int p3), (.int p2), (.int (0 : Int32)), (.int p5), (.int (0 : Int32)), (.ref b53)]))
    obtain ⟨_, T56, L56, X56, ⟨z56, rfl, N56q, e56⟩, st56⟩ := own_callS X53 hx hZ hown (own_w hw 7 rfl) (own_w hw 8 rfl) (own_w hw 9 rfl) (own_w hw 10 rfl) (by decide) (rm1 l Z a0 hw p5 (0 : Int32) p2 p3 p4 h53 n0 Z53) (by decide) (by decide) e53 (W := 2) (g := (mkF m 29 #[.val (.int p1), .val (.int p2), .val (.int p3), .val (.int p4), .val (.int p5), .val (.int (4 : Int32)), .val (.ref b53), .unset, .unset] [(.int p4), (.int p3), (.int p2), (.int (0 : Int32)), (.int p5), (.int (0 : Int32)), (.ref b53)])) rfl (by rw [hml]; rfl) (argsL := [(.int p5), (.int (0 : Int32)), (.int p2), (.int p3), (.int p4)]) (rest := [(.int (0 : Int32)), (.ref b53)]) (lenOf pd_3 rfl) rfl rfl (by show 2 * 0 + _ ≤ _; exact Nat.le_of_eq rfl) (hb hby at_29) (by decide) (by decide)
    have N56 := Fr.app N0 N56q
    refine own_Fin.step st56 ?_
    show own_Fin p e below s _ _ _ (T56.setTop (mkF m 32 #[.val (.int p1), .val (.int p2), .val (.int p3), .val (.int p4), .val (.int p5), .val (.int (4 : Int32)), .val (.ref b53), .unset, .unset] [(.int z56), (.int (0 : Int32)), (.ref b53)]))
    obtain ⟨T57, h57, X57, e57, V57, W57, st57⟩ := own_stFB X56 hx hZ e56 Vf55 (j := (0 : Int32)) ⟨by decide, by decide⟩ (g := (mkF m 32 #[.val (.int p1), .val (.int p2), .val (.int p3), .val (.int p4), .val (.int p5), .val (.int (4 : Int32)), .val (.ref b53), .unset, .unset] [(.int z56), (.int (0 : Int32)), (.ref b53)])) rfl rfl (hb hby at_32)
    have N57 := Fr.snoc X57 N56 ge54
    have Z57 : n0 ≤ h57.size := Nat.le_trans Z53 (Nat.le_of_eq W57.size.symm)
    refine own_Fin.step st57 ?_
    show own_Fin p e below s _ _ _ (T57.setTop (mkF m 33 #[.val (.int p1), .val (.int p2), .val (.int p3), .val (.int p4), .val (.int p5), .val (.int (4 : Int32)), .val (.ref b53), .unset, .unset] []))
    refine own_Fin.step (fun _ => XS.iload X57.here hx rfl (hb hby at_33) rfl) ?_
    show own_Fin p e below s _ _ _ (T57.setTop (mkF m 35 #[.val (.int p1), .val (.int p2), .val (.int p3), .val (.int p4), .val (.int p5), .val (.int (4 : Int32)), .val (.ref b53), .unset, .unset] [(.int (4 : Int32))]))
    refine own_Fin.step (fun _ => XS.iconst X57.here hx rfl (hb hby at_35)) ?_
    show own_Fin p e below s _ _ _ (T57.setTop (mkF m 36 #[.val (.int p1), .val (.int p2), .val (.int p3), .val (.int p4), .val (.int p5), .val (.int (4 : Int32)), .val (.ref b53), .unset, .unset] [(.int (1 : Int32)), (.int (4 : Int32))]))
    refine own_Fin.step (fun _ => XS.icmpNo X57.here hx rfl (hb hby at_36) rfl (XT.ii_le_f (by decide : (1 : Int32) < (4 : Int32)))) ?_
    show own_Fin p e below s _ _ _ (T57.setTop (mkF m 39 #[.val (.int p1), .val (.int p2), .val (.int p3), .val (.int p4), .val (.int p5), .val (.int (4 : Int32)), .val (.ref b53), .unset, .unset] []))
    refine own_Fin.step (fun _ => XS.aload X57.here hx rfl (hb hby at_39) rfl rfl) ?_
    show own_Fin p e below s _ _ _ (T57.setTop (mkF m 41 #[.val (.int p1), .val (.int p2), .val (.int p3), .val (.int p4), .val (.int p5), .val (.int (4 : Int32)), .val (.ref b53), .unset, .unset] [(.ref b53)]))
    refine own_Fin.step (fun _ => XS.iconst X57.here hx rfl (hb hby at_41)) ?_
    show own_Fin p e below s _ _ _ (T57.setTop (mkF m 42 #[.val (.int p1), .val (.int p2), .val (.int p3), .val (.int p4), .val (.int p5), .val (.int (4 : Int32)), .val (.ref b53), .unset, .unset] [(.int (1 : Int32)), (.ref b53)]))
    refine own_Fin.step (fun _ => XS.iload X57.here hx rfl (hb hby at_42) rfl) ?_
    show own_Fin p e below s _ _ _ (T57.setTop (mkF m 44 #[.val (.int p1), .val (.int p2), .val (.int p3), .val (.int p4), .val (.int p5), .val (.int (4 : Int32)), .val (.ref b53), .unset, .unset] [(.int p5), (.int (1 : Int32)), (.ref b53)]))
    refine own_Fin.step (fun _ => XS.iconst X57.here hx rfl (hb hby at_44)) ?_
    show own_Fin p e below s _ _ _ (T57.setTop (mkF m 45 #[.val (.int p1), .val (.int p2), .val (.int p3), .val (.int p4), .val (.int p5), .val (.int (4 : Int32)), .val (.ref b53), .unset, .unset] [(.int (1 : Int32)), (.int p5), (.int (1 : Int32)), (.ref b53)]))
    refine own_Fin.step (fun _ => XS.iloadN X57.here hx rfl (hb hby at_45) rfl) ?_
    show own_Fin p e below s _ _ _ (T57.setTop (mkF m 46 #[.val (.int p1), .val (.int p2), .val (.int p3), .val (.int p4), .val (.int p5), .val (.int (4 : Int32)), .val (.ref b53), .unset, .unset] [(.int p2), (.int (1 : Int32)), (.int p5), (.int (1 : Int32)), (.ref b53)]))
    refine own_Fin.step (fun _ => XS.iloadN X57.here hx rfl (hb hby at_46) rfl) ?_
    show own_Fin p e below s _ _ _ (T57.setTop (mkF m 47 #[.val (.int p1), .val (.int p2), .val (.int p3), .val (.int p4), .val (.int p5), .val (.int (4 : Int32)), .val (.ref b53), .unset, .unset] [(.int p3), (.int p2), (.int (1 : Int32)), (.int p5), (.int (1 : Int32)), (.ref b53)]))
    refine own_Fin.step (fun _ => XS.iloadN X57.here hx rfl (hb hby at_47) rfl) ?_
    show own_Fin p e below s _ _ _ (T57.setTop (mkF m 48 #[.val (.int p1), .val (.int p2), .val (.int p3), .val (.int p4), .val (.int p5), .val (.int (4 : Int32)), .val (.ref b53), .unset, .unset] [(.int p4), (.int p3), (.int p2), (.int (1 : Int32)), (.int p5), (.int (1 : Int32)), (.ref b53)]))
    obtain ⟨_, T59, L59, X59, ⟨z59, rfl, N59q, e59⟩, st59⟩ := own_callS X57 hx hZ hown (own_w hw 7 rfl) (own_w hw 8 rfl) (own_w hw 9 rfl) (own_w hw 10 rfl) (by decide) (rm1 l Z a0 hw p5 (1 : Int32) p2 p3 p4 h57 n0 Z57) (by decide) (by decide) e57 (W := 2) (g := (mkF m 48 #[.val (.int p1), .val (.int p2), .val (.int p3), .val (.int p4), .val (.int p5), .val (.int (4 : Int32)), .val (.ref b53), .unset, .unset] [(.int p4), (.int p3), (.int p2), (.int (1 : Int32)), (.int p5), (.int (1 : Int32)), (.ref b53)])) rfl (by rw [hml]; rfl) (argsL := [(.int p5), (.int (1 : Int32)), (.int p2), (.int p3), (.int p4)]) (rest := [(.int (1 : Int32)), (.ref b53)]) (lenOf pd_3 rfl) rfl rfl (by show 2 * 0 + _ ≤ _; exact Nat.le_of_eq rfl) (hb hby at_48) (by decide) (by decide)
    have N59 := Fr.app N57 N59q
    refine own_Fin.step st59 ?_
    show own_Fin p e below s _ _ _ (T59.setTop (mkF m 51 #[.val (.int p1), .val (.int p2), .val (.int p3), .val (.int p4), .val (.int p5), .val (.int (4 : Int32)), .val (.ref b53), .unset, .unset] [(.int z59), (.int (1 : Int32)), (.ref b53)]))
    obtain ⟨T60, h60, X60, e60, V60, W60, st60⟩ := own_stFB X59 hx hZ e59 V57 (j := (1 : Int32)) ⟨by decide, by decide⟩ (g := (mkF m 51 #[.val (.int p1), .val (.int p2), .val (.int p3), .val (.int p4), .val (.int p5), .val (.int (4 : Int32)), .val (.ref b53), .unset, .unset] [(.int z59), (.int (1 : Int32)), (.ref b53)])) rfl rfl (hb hby at_51)
    have N60 := Fr.snoc X60 N59 ge54
    have Z60 : n0 ≤ h60.size := Nat.le_trans Z57 (Nat.le_of_eq W60.size.symm)
    refine own_Fin.step st60 ?_
    show own_Fin p e below s _ _ _ (T60.setTop (mkF m 52 #[.val (.int p1), .val (.int p2), .val (.int p3), .val (.int p4), .val (.int p5), .val (.int (4 : Int32)), .val (.ref b53), .unset, .unset] []))
    refine own_Fin.step (fun _ => XS.iload X60.here hx rfl (hb hby at_52) rfl) ?_
    show own_Fin p e below s _ _ _ (T60.setTop (mkF m 54 #[.val (.int p1), .val (.int p2), .val (.int p3), .val (.int p4), .val (.int p5), .val (.int (4 : Int32)), .val (.ref b53), .unset, .unset] [(.int (4 : Int32))]))
    refine own_Fin.step (fun _ => XS.iconst X60.here hx rfl (hb hby at_54)) ?_
    show own_Fin p e below s _ _ _ (T60.setTop (mkF m 55 #[.val (.int p1), .val (.int p2), .val (.int p3), .val (.int p4), .val (.int p5), .val (.int (4 : Int32)), .val (.ref b53), .unset, .unset] [(.int (2 : Int32)), (.int (4 : Int32))]))
    refine own_Fin.step (fun _ => XS.icmpNo X60.here hx rfl (hb hby at_55) rfl (XT.ii_le_f (by decide : (2 : Int32) < (4 : Int32)))) ?_
    show own_Fin p e below s _ _ _ (T60.setTop (mkF m 58 #[.val (.int p1), .val (.int p2), .val (.int p3), .val (.int p4), .val (.int p5), .val (.int (4 : Int32)), .val (.ref b53), .unset, .unset] []))
    refine own_Fin.step (fun _ => XS.aload X60.here hx rfl (hb hby at_58) rfl rfl) ?_
    show own_Fin p e below s _ _ _ (T60.setTop (mkF m 60 #[.val (.int p1), .val (.int p2), .val (.int p3), .val (.int p4), .val (.int p5), .val (.int (4 : Int32)), .val (.ref b53), .unset, .unset] [(.ref b53)]))
    refine own_Fin.step (fun _ => XS.iconst X60.here hx rfl (hb hby at_60)) ?_
    show own_Fin p e below s _ _ _ (T60.setTop (mkF m 61 #[.val (.int p1), .val (.int p2), .val (.int p3), .val (.int p4), .val (.int p5), .val (.int (4 : Int32)), .val (.ref b53), .unset, .unset] [(.int (2 : Int32)), (.ref b53)]))
    refine own_Fin.step (fun _ => XS.iload X60.here hx rfl (hb hby at_61) rfl) ?_
    show own_Fin p e below s _ _ _ (T60.setTop (mkF m 63 #[.val (.int p1), .val (.int p2), .val (.int p3), .val (.int p4), .val (.int p5), .val (.int (4 : Int32)), .val (.ref b53), .unset, .unset] [(.int p5), (.int (2 : Int32)), (.ref b53)]))
    refine own_Fin.step (fun _ => XS.iconst X60.here hx rfl (hb hby at_63)) ?_
    show own_Fin p e below s _ _ _ (T60.setTop (mkF m 64 #[.val (.int p1), .val (.int p2), .val (.int p3), .val (.int p4), .val (.int p5), .val (.int (4 : Int32)), .val (.ref b53), .unset, .unset] [(.int (2 : Int32)), (.int p5), (.int (2 : Int32)), (.ref b53)]))
    refine own_Fin.step (fun _ => XS.iloadN X60.here hx rfl (hb hby at_64) rfl) ?_
    show own_Fin p e below s _ _ _ (T60.setTop (mkF m 65 #[.val (.int p1), .val (.int p2), .val (.int p3), .val (.int p4), .val (.int p5), .val (.int (4 : Int32)), .val (.ref b53), .unset, .unset] [(.int p2), (.int (2 : Int32)), (.int p5), (.int (2 : Int32)), (.ref b53)]))
    refine own_Fin.step (fun _ => XS.iloadN X60.here hx rfl (hb hby at_65) rfl) ?_
    show own_Fin p e below s _ _ _ (T60.setTop (mkF m 66 #[.val (.int p1), .val (.int p2), .val (.int p3), .val (.int p4), .val (.int p5), .val (.int (4 : Int32)), .val (.ref b53), .unset, .unset] [(.int p3), (.int p2), (.int (2 : Int32)), (.int p5), (.int (2 : Int32)), (.ref b53)]))
    refine own_Fin.step (fun _ => XS.iloadN X60.here hx rfl (hb hby at_66) rfl) ?_
    show own_Fin p e below s _ _ _ (T60.setTop (mkF m 67 #[.val (.int p1), .val (.int p2), .val (.int p3), .val (.int p4), .val (.int p5), .val (.int (4 : Int32)), .val (.ref b53), .unset, .unset] [(.int p4), (.int p3), (.int p2), (.int (2 : Int32)), (.int p5), (.int (2 : Int32)), (.ref b53)]))
    obtain ⟨_, T62, L62, X62, ⟨z62, rfl, N62q, e62⟩, st62⟩ := own_callS X60 hx hZ hown (own_w hw 7 rfl) (own_w hw 8 rfl) (own_w hw 9 rfl) (own_w hw 10 rfl) (by decide) (rm1 l Z a0 hw p5 (2 : Int32) p2 p3 p4 h60 n0 Z60) (by decide) (by decide) e60 (W := 2) (g := (mkF m 67 #[.val (.int p1), .val (.int p2), .val (.int p3), .val (.int p4), .val (.int p5), .val (.int (4 : Int32)), .val (.ref b53), .unset, .unset] [(.int p4), (.int p3), (.int p2), (.int (2 : Int32)), (.int p5), (.int (2 : Int32)), (.ref b53)])) rfl (by rw [hml]; rfl) (argsL := [(.int p5), (.int (2 : Int32)), (.int p2), (.int p3), (.int p4)]) (rest := [(.int (2 : Int32)), (.ref b53)]) (lenOf pd_3 rfl) rfl rfl (by show 2 * 0 + _ ≤ _; exact Nat.le_of_eq rfl) (hb hby at_67) (by decide) (by decide)
    have N62 := Fr.app N60 N62q
    refine own_Fin.step st62 ?_
    show own_Fin p e below s _ _ _ (T62.setTop (mkF m 70 #[.val (.int p1), .val (.int p2), .val (.int p3), .val (.int p4), .val (.int p5), .val (.int (4 : Int32)), .val (.ref b53), .unset, .unset] [(.int z62), (.int (2 : Int32)), (.ref b53)]))
    obtain ⟨T63, h63, X63, e63, V63, W63, st63⟩ := own_stFB X62 hx hZ e62 V60 (j := (2 : Int32)) ⟨by decide, by decide⟩ (g := (mkF m 70 #[.val (.int p1), .val (.int p2), .val (.int p3), .val (.int p4), .val (.int p5), .val (.int (4 : Int32)), .val (.ref b53), .unset, .unset] [(.int z62), (.int (2 : Int32)), (.ref b53)])) rfl rfl (hb hby at_70)
    have N63 := Fr.snoc X63 N62 ge54
    have Z63 : n0 ≤ h63.size := Nat.le_trans Z60 (Nat.le_of_eq W63.size.symm)
    refine own_Fin.step st63 ?_
    show own_Fin p e below s _ _ _ (T63.setTop (mkF m 71 #[.val (.int p1), .val (.int p2), .val (.int p3), .val (.int p4), .val (.int p5), .val (.int (4 : Int32)), .val (.ref b53), .unset, .unset] []))
    refine own_Fin.step (fun _ => XS.iload X63.here hx rfl (hb hby at_71) rfl) ?_
    show own_Fin p e below s _ _ _ (T63.setTop (mkF m 73 #[.val (.int p1), .val (.int p2), .val (.int p3), .val (.int p4), .val (.int p5), .val (.int (4 : Int32)), .val (.ref b53), .unset, .unset] [(.int (4 : Int32))]))
    refine own_Fin.step (fun _ => XS.iconst X63.here hx rfl (hb hby at_73)) ?_
    show own_Fin p e below s _ _ _ (T63.setTop (mkF m 74 #[.val (.int p1), .val (.int p2), .val (.int p3), .val (.int p4), .val (.int p5), .val (.int (4 : Int32)), .val (.ref b53), .unset, .unset] [(.int (3 : Int32)), (.int (4 : Int32))]))
    refine own_Fin.step (fun _ => XS.icmpNo X63.here hx rfl (hb hby at_74) rfl (XT.ii_le_f (by decide : (3 : Int32) < (4 : Int32)))) ?_
    show own_Fin p e below s _ _ _ (T63.setTop (mkF m 77 #[.val (.int p1), .val (.int p2), .val (.int p3), .val (.int p4), .val (.int p5), .val (.int (4 : Int32)), .val (.ref b53), .unset, .unset] []))
    refine own_Fin.step (fun _ => XS.aload X63.here hx rfl (hb hby at_77) rfl rfl) ?_
    show own_Fin p e below s _ _ _ (T63.setTop (mkF m 79 #[.val (.int p1), .val (.int p2), .val (.int p3), .val (.int p4), .val (.int p5), .val (.int (4 : Int32)), .val (.ref b53), .unset, .unset] [(.ref b53)]))
    refine own_Fin.step (fun _ => XS.iconst X63.here hx rfl (hb hby at_79)) ?_
    show own_Fin p e below s _ _ _ (T63.setTop (mkF m 80 #[.val (.int p1), .val (.int p2), .val (.int p3), .val (.int p4), .val (.int p5), .val (.int (4 : Int32)), .val (.ref b53), .unset, .unset] [(.int (3 : Int32)), (.ref b53)]))
    refine own_Fin.step (fun _ => XS.iload X63.here hx rfl (hb hby at_80) rfl) ?_
    show own_Fin p e below s _ _ _ (T63.setTop (mkF m 82 #[.val (.int p1), .val (.int p2), .val (.int p3), .val (.int p4), .val (.int p5), .val (.int (4 : Int32)), .val (.ref b53), .unset, .unset] [(.int p5), (.int (3 : Int32)), (.ref b53)]))
    refine own_Fin.step (fun _ => XS.iconst X63.here hx rfl (hb hby at_82)) ?_
    show own_Fin p e below s _ _ _ (T63.setTop (mkF m 83 #[.val (.int p1), .val (.int p2), .val (.int p3), .val (.int p4), .val (.int p5), .val (.int (4 : Int32)), .val (.ref b53), .unset, .unset] [(.int (3 : Int32)), (.int p5), (.int (3 : Int32)), (.ref b53)]))
    refine own_Fin.step (fun _ => XS.iloadN X63.here hx rfl (hb hby at_83) rfl) ?_
    show own_Fin p e below s _ _ _ (T63.setTop (mkF m 84 #[.val (.int p1), .val (.int p2), .val (.int p3), .val (.int p4), .val (.int p5), .val (.int (4 : Int32)), .val (.ref b53), .unset, .unset] [(.int p2), (.int (3 : Int32)), (.int p5), (.int (3 : Int32)), (.ref b53)]))
    refine own_Fin.step (fun _ => XS.iloadN X63.here hx rfl (hb hby at_84) rfl) ?_
    show own_Fin p e below s _ _ _ (T63.setTop (mkF m 85 #[.val (.int p1), .val (.int p2), .val (.int p3), .val (.int p4), .val (.int p5), .val (.int (4 : Int32)), .val (.ref b53), .unset, .unset] [(.int p3), (.int p2), (.int (3 : Int32)), (.int p5), (.int (3 : Int32)), (.ref b53)]))
    refine own_Fin.step (fun _ => XS.iloadN X63.here hx rfl (hb hby at_85) rfl) ?_
    show own_Fin p e below s _ _ _ (T63.setTop (mkF m 86 #[.val (.int p1), .val (.int p2), .val (.int p3), .val (.int p4), .val (.int p5), .val (.int (4 : Int32)), .val (.ref b53), .unset, .unset] [(.int p4), (.int p3), (.int p2), (.int (3 : Int32)), (.int p5), (.int (3 : Int32)), (.ref b53)]))
    obtain ⟨_, T65, L65, X65, ⟨z65, rfl, N65q, e65⟩, st65⟩ := own_callS X63 hx hZ hown (own_w hw 7 rfl) (own_w hw 8 rfl) (own_w hw 9 rfl) (own_w hw 10 rfl) (by decide) (rm1 l Z a0 hw p5 (3 : Int32) p2 p3 p4 h63 n0 Z63) (by decide) (by decide) e63 (W := 2) (g := (mkF m 86 #[.val (.int p1), .val (.int p2), .val (.int p3), .val (.int p4), .val (.int p5), .val (.int (4 : Int32)), .val (.ref b53), .unset, .unset] [(.int p4), (.int p3), (.int p2), (.int (3 : Int32)), (.int p5), (.int (3 : Int32)), (.ref b53)])) rfl (by rw [hml]; rfl) (argsL := [(.int p5), (.int (3 : Int32)), (.int p2), (.int p3), (.int p4)]) (rest := [(.int (3 : Int32)), (.ref b53)]) (lenOf pd_3 rfl) rfl rfl (by show 2 * 0 + _ ≤ _; exact Nat.le_of_eq rfl) (hb hby at_86) (by decide) (by decide)
    have N65 := Fr.app N63 N65q
    refine own_Fin.step st65 ?_
    show own_Fin p e below s _ _ _ (T65.setTop (mkF m 89 #[.val (.int p1), .val (.int p2), .val (.int p3), .val (.int p4), .val (.int p5), .val (.int (4 : Int32)), .val (.ref b53), .unset, .unset] [(.int z65), (.int (3 : Int32)), (.ref b53)]))
    obtain ⟨T66, h66, X66, e66, V66, W66, st66⟩ := own_stFB X65 hx hZ e65 V63 (j := (3 : Int32)) ⟨by decide, by decide⟩ (g := (mkF m 89 #[.val (.int p1), .val (.int p2), .val (.int p3), .val (.int p4), .val (.int p5), .val (.int (4 : Int32)), .val (.ref b53), .unset, .unset] [(.int z65), (.int (3 : Int32)), (.ref b53)])) rfl rfl (hb hby at_89)
    have N66 := Fr.snoc X66 N65 ge54
    have Z66 : n0 ≤ h66.size := Nat.le_trans Z63 (Nat.le_of_eq W66.size.symm)
    refine own_Fin.step st66 ?_
    show own_Fin p e below s _ _ _ (T66.setTop (mkF m 90 #[.val (.int p1), .val (.int p2), .val (.int p3), .val (.int p4), .val (.int p5), .val (.int (4 : Int32)), .val (.ref b53), .unset, .unset] []))
    refine own_Fin.step (fun _ => XS.iload X66.here hx rfl (hb hby at_90) rfl) ?_
    show own_Fin p e below s _ _ _ (T66.setTop (mkF m 92 #[.val (.int p1), .val (.int p2), .val (.int p3), .val (.int p4), .val (.int p5), .val (.int (4 : Int32)), .val (.ref b53), .unset, .unset] [(.int (4 : Int32))]))
    refine own_Fin.step (fun _ => XS.iconst X66.here hx rfl (hb hby at_92)) ?_
    show own_Fin p e below s _ _ _ (T66.setTop (mkF m 93 #[.val (.int p1), .val (.int p2), .val (.int p3), .val (.int p4), .val (.int p5), .val (.int (4 : Int32)), .val (.ref b53), .unset, .unset] [(.int (4 : Int32)), (.int (4 : Int32))]))
    refine own_Fin.step (fun _ => XS.icmpYes X66.here hx rfl (pc0 := 93) (pc' := 109) rfl (hb hby at_93) rfl (XT.ii_le_t (by decide : ¬ ((4 : Int32) < (4 : Int32)))) (by decide) (by decide)) ?_
    show own_Fin p e below s _ _ _ (T66.setTop (mkF m 109 #[.val (.int p1), .val (.int p2), .val (.int p3), .val (.int p4), .val (.int p5), .val (.int (4 : Int32)), .val (.ref b53), .unset, .unset] []))
    refine own_Fin.step (fun _ => XS.iload X66.here hx rfl (hb hby at_109) rfl) ?_
    show own_Fin p e below s _ _ _ (T66.setTop (mkF m 111 #[.val (.int p1), .val (.int p2), .val (.int p3), .val (.int p4), .val (.int p5), .val (.int (4 : Int32)), .val (.ref b53), .unset, .unset] [(.int (4 : Int32))]))
    refine own_Fin.step (fun _ => XS.iconst X66.here hx rfl (hb hby at_111)) ?_
    show own_Fin p e below s _ _ _ (T66.setTop (mkF m 112 #[.val (.int p1), .val (.int p2), .val (.int p3), .val (.int p4), .val (.int p5), .val (.int (4 : Int32)), .val (.ref b53), .unset, .unset] [(.int (5 : Int32)), (.int (4 : Int32))]))
    refine own_Fin.step (fun _ => XS.icmpYes X66.here hx rfl (pc0 := 112) (pc' := 128) rfl (hb hby at_112) rfl (XT.ii_le_t (by decide : ¬ ((5 : Int32) < (4 : Int32)))) (by decide) (by decide)) ?_
    show own_Fin p e below s _ _ _ (T66.setTop (mkF m 128 #[.val (.int p1), .val (.int p2), .val (.int p3), .val (.int p4), .val (.int p5), .val (.int (4 : Int32)), .val (.ref b53), .unset, .unset] []))
    obtain ⟨f, hf⟩ : ∃ z : Nat → Int32, z = (own_upd (own_upd (own_upd (own_upd (fun _ => (0 : Int32)) ((0 : Int32)).toNatClampNeg (nar .byte z56)) ((1 : Int32)).toNatClampNeg (nar .byte z59)) ((2 : Int32)).toNatClampNeg (nar .byte z62)) ((3 : Int32)).toNatClampNeg (nar .byte z65)) := ⟨_, rfl⟩
    rw [← hf] at V66
    refine own_Fin.step (fun _ => XS.aload X66.here hx rfl (hb hby at_128) rfl rfl) ?_
    show own_Fin p e below s _ _ _ (T66.setTop (mkF m 130 #[.val (.int p1), .val (.int p2), .val (.int p3), .val (.int p4), .val (.int p5), .val (.int (4 : Int32)), .val (.ref b53), .unset, .unset] [(.ref b53)]))
    obtain ⟨_, T68, L68, X68, ⟨r68, kt68, gt68, rfl, N68q, K68, sz68, V68, hT68⟩, st68⟩ := own_callS X66 hx hZ hown (own_w hw 2 rfl) (own_w hw 3 rfl) (own_w hw 4 rfl) (own_w hw 5 rfl) (by decide) (rm5 l Z a0 hw b53 k53 (4 : Int32) f h66 n0 Z66 V66 (by decide)) (by decide) (by decide) e66 (W := 0) (g := (mkF m 130 #[.val (.int p1), .val (.int p2), .val (.int p3), .val (.int p4), .val (.int p5), .val (.int (4 : Int32)), .val (.ref b53), .unset, .unset] [(.ref b53)])) rfl (by rw [hml]; rfl) (argsL := [(.ref b53)]) (rest := []) (lenOf pd_2 rfl) rfl rfl (by show 2 * 0 + _ ≤ _; exact Nat.le_of_eq rfl) (hb hby at_130) (by decide) (by decide)
    have N68 := Fr.app N66 N68q
    have ne69 : b53 ≠ r68 := Nat.ne_of_lt (Nat.lt_of_lt_of_le V66.lt sz68)
    have ge70 : n0 ≤ r68 := Nat.le_trans Z66 sz68
    have f71 := V66.keep K68 nin0
    have Z68 : n0 ≤ T68.heap.size := Nat.le_trans Z66 K68.1
    refine own_Fin.step st68 ?_
    show own_Fin p e below s _ _ _ (T68.setTop (mkF m 133 #[.val (.int p1), .val (.int p2), .val (.int p3), .val (.int p4), .val (.int p5), .val (.int (4 : Int32)), .val (.ref b53), .unset, .unset] [(.ref r68)]))
    refine own_Fin.step (fun _ => XS.astore X68.here hx rfl (hb hby at_133) rfl rfl (l' := #[.val (.int p1), .val (.int p2), .val (.int p3), .val (.int p4), .val (.int p5), .val (.int (4 : Int32)), .val (.ref b53), .val (.ref r68), .unset]) rfl) ?_
    show own_Fin p e below s _ _ _ (T68.setTop (mkF m 135 #[.val (.int p1), .val (.int p2), .val (.int p3), .val (.int p4), .val (.int p5), .val (.int (4 : Int32)), .val (.ref b53), .val (.ref r68), .unset] []))
    refine own_Fin.step (fun _ => XS.aload X68.here hx rfl (hb hby at_135) rfl rfl) ?_
    show own_Fin p e below s _ _ _ (T68.setTop (mkF m 137 #[.val (.int p1), .val (.int p2), .val (.int p3), .val (.int p4), .val (.int p5), .val (.int (4 : Int32)), .val (.ref b53), .val (.ref r68), .unset] [(.ref r68)]))
    refine own_Fin.step (fun _ => XS.ifnullNo X68.here hx rfl (hb hby at_137) rfl) ?_
    show own_Fin p e below s _ _ _ (T68.setTop (mkF m 140 #[.val (.int p1), .val (.int p2), .val (.int p3), .val (.int p4), .val (.int p5), .val (.int (4 : Int32)), .val (.ref b53), .val (.ref r68), .unset] []))
    refine own_Fin.step (fun _ => XS.aload X68.here hx rfl (hb hby at_140) rfl rfl) ?_
    show own_Fin p e below s _ _ _ (T68.setTop (mkF m 142 #[.val (.int p1), .val (.int p2), .val (.int p3), .val (.int p4), .val (.int p5), .val (.int (4 : Int32)), .val (.ref b53), .val (.ref r68), .unset] [(.ref r68)]))
    refine own_Fin.step (own_lenF X68 hx hZ rfl V68 (g := (mkF m 142 #[.val (.int p1), .val (.int p2), .val (.int p3), .val (.int p4), .val (.int p5), .val (.int (4 : Int32)), .val (.ref b53), .val (.ref r68), .unset] [(.ref r68)])) rfl rfl (hb hby at_142)) ?_
    show own_Fin p e below s _ _ _ (T68.setTop (mkF m 143 #[.val (.int p1), .val (.int p2), .val (.int p3), .val (.int p4), .val (.int p5), .val (.int (4 : Int32)), .val (.ref b53), .val (.ref r68), .unset] [(.int (4 : Int32))]))
    refine own_Fin.step (fun _ => XS.iload X68.here hx rfl (hb hby at_143) rfl) ?_
    show own_Fin p e below s _ _ _ (T68.setTop (mkF m 145 #[.val (.int p1), .val (.int p2), .val (.int p3), .val (.int p4), .val (.int p5), .val (.int (4 : Int32)), .val (.ref b53), .val (.ref r68), .unset] [(.int (4 : Int32)), (.int (4 : Int32))]))
    refine own_Fin.step (fun _ => XS.icmpYes X68.here hx rfl (pc0 := 145) (pc' := 150) rfl (hb hby at_145) rfl (XT.ii_eq_t (by decide : (4 : Int32) = (4 : Int32))) (by decide) (by decide)) ?_
    show own_Fin p e below s _ _ _ (T68.setTop (mkF m 150 #[.val (.int p1), .val (.int p2), .val (.int p3), .val (.int p4), .val (.int p5), .val (.int (4 : Int32)), .val (.ref b53), .val (.ref r68), .unset] []))
    refine own_Fin.step (fun _ => XS.iconst X68.here hx rfl (hb hby at_150)) ?_
    show own_Fin p e below s _ _ _ (T68.setTop (mkF m 151 #[.val (.int p1), .val (.int p2), .val (.int p3), .val (.int p4), .val (.int p5), .val (.int (4 : Int32)), .val (.ref b53), .val (.ref r68), .unset] [(.int (1 : Int32))]))
    refine own_Fin.step (fun _ => XS.istore X68.here hx rfl (hb hby at_151) rfl (l' := #[.val (.int p1), .val (.int p2), .val (.int p3), .val (.int p4), .val (.int p5), .val (.int (4 : Int32)), .val (.ref b53), .val (.ref r68), .val (.int (1 : Int32))]) rfl) ?_
    show own_Fin p e below s _ _ _ (T68.setTop (mkF m 153 #[.val (.int p1), .val (.int p2), .val (.int p3), .val (.int p4), .val (.int p5), .val (.int (4 : Int32)), .val (.ref b53), .val (.ref r68), .val (.int (1 : Int32))] []))
    refine own_Fin.step (fun _ => XS.iload X68.here hx rfl (hb hby at_153) rfl) ?_
    show own_Fin p e below s _ _ _ (T68.setTop (mkF m 155 #[.val (.int p1), .val (.int p2), .val (.int p3), .val (.int p4), .val (.int p5), .val (.int (4 : Int32)), .val (.ref b53), .val (.ref r68), .val (.int (1 : Int32))] [(.int (1 : Int32))]))
    refine own_Fin.step (fun _ => XS.ifNo X68.here hx rfl (hb hby at_155) rfl (XT.i0_eq_f (by decide : ¬ ((1 : Int32) = (0 : Int32))))) ?_
    show own_Fin p e below s _ _ _ (T68.setTop (mkF m 158 #[.val (.int p1), .val (.int p2), .val (.int p3), .val (.int p4), .val (.int p5), .val (.int (4 : Int32)), .val (.ref b53), .val (.ref r68), .val (.int (1 : Int32))] []))
    refine own_Fin.step (fun _ => XS.iload X68.here hx rfl (hb hby at_158) rfl) ?_
    show own_Fin p e below s _ _ _ (T68.setTop (mkF m 160 #[.val (.int p1), .val (.int p2), .val (.int p3), .val (.int p4), .val (.int p5), .val (.int (4 : Int32)), .val (.ref b53), .val (.ref r68), .val (.int (1 : Int32))] [(.int (4 : Int32))]))
    refine own_Fin.step (fun _ => XS.ifNo X68.here hx rfl (hb hby at_160) rfl (XT.i0_le_f (by decide : (0 : Int32) < (4 : Int32)))) ?_
    show own_Fin p e below s _ _ _ (T68.setTop (mkF m 163 #[.val (.int p1), .val (.int p2), .val (.int p3), .val (.int p4), .val (.int p5), .val (.int (4 : Int32)), .val (.ref b53), .val (.ref r68), .val (.int (1 : Int32))] []))
    refine own_Fin.step (fun _ => XS.aload X68.here hx rfl (hb hby at_163) rfl rfl) ?_
    show own_Fin p e below s _ _ _ (T68.setTop (mkF m 165 #[.val (.int p1), .val (.int p2), .val (.int p3), .val (.int p4), .val (.int p5), .val (.int (4 : Int32)), .val (.ref b53), .val (.ref r68), .val (.int (1 : Int32))] [(.ref r68)]))
    refine own_Fin.step (fun _ => XS.iconst X68.here hx rfl (hb hby at_165)) ?_
    show own_Fin p e below s _ _ _ (T68.setTop (mkF m 166 #[.val (.int p1), .val (.int p2), .val (.int p3), .val (.int p4), .val (.int p5), .val (.int (4 : Int32)), .val (.ref b53), .val (.ref r68), .val (.int (1 : Int32))] [(.int (0 : Int32)), (.ref r68)]))
    refine own_Fin.step (own_ldFI X68 hx hZ rfl V68 (j := (0 : Int32)) ⟨by decide, by decide⟩ (g := (mkF m 166 #[.val (.int p1), .val (.int p2), .val (.int p3), .val (.int p4), .val (.int p5), .val (.int (4 : Int32)), .val (.ref b53), .val (.ref r68), .val (.int (1 : Int32))] [(.int (0 : Int32)), (.ref r68)])) rfl rfl (hb hby at_166)) ?_
    show own_Fin p e below s _ _ _ (T68.setTop (mkF m 167 #[.val (.int p1), .val (.int p2), .val (.int p3), .val (.int p4), .val (.int p5), .val (.int (4 : Int32)), .val (.ref b53), .val (.ref r68), .val (.int (1 : Int32))] [(.int (gt68 ((0 : Int32)).toNatClampNeg))]))
    refine own_Fin.step (fun _ => XS.aload X68.here hx rfl (hb hby at_167) rfl rfl) ?_
    show own_Fin p e below s _ _ _ (T68.setTop (mkF m 169 #[.val (.int p1), .val (.int p2), .val (.int p3), .val (.int p4), .val (.int p5), .val (.int (4 : Int32)), .val (.ref b53), .val (.ref r68), .val (.int (1 : Int32))] [(.ref b53), (.int (gt68 ((0 : Int32)).toNatClampNeg))]))
    refine own_Fin.step (fun _ => XS.iconst X68.here hx rfl (hb hby at_169)) ?_
    show own_Fin p e below s _ _ _ (T68.setTop (mkF m 170 #[.val (.int p1), .val (.int p2), .val (.int p3), .val (.int p4), .val (.int p5), .val (.int (4 : Int32)), .val (.ref b53), .val (.ref r68), .val (.int (1 : Int32))] [(.int (0 : Int32)), (.ref b53), (.int (gt68 ((0 : Int32)).toNatClampNeg))]))
    obtain ⟨_, T72, L72, X72, ⟨z72, rfl, N72q, e72, hz72⟩, st72⟩ := own_callS X68 hx hZ hown (own_w hw 14 rfl) (own_w hw 15 rfl) (own_w hw 9 rfl) (own_w hw 16 rfl) (by decide) (rm3b0 l Z a0 hw b53 k53 (4 : Int32) f T68.heap n0 Z68 f71 (by decide)) (by decide) (by decide) rfl (W := 1) (g := (mkF m 170 #[.val (.int p1), .val (.int p2), .val (.int p3), .val (.int p4), .val (.int p5), .val (.int (4 : Int32)), .val (.ref b53), .val (.ref r68), .val (.int (1 : Int32))] [(.int (0 : Int32)), (.ref b53), (.int (gt68 ((0 : Int32)).toNatClampNeg))])) rfl (by rw [hml]; rfl) (argsL := [(.ref b53), (.int (0 : Int32))]) (rest := [(.int (gt68 ((0 : Int32)).toNatClampNeg))]) (lenOf pd_4 rfl) rfl rfl (by show 2 * 0 + _ ≤ _; exact Nat.le_of_eq rfl) (hb hby at_170) (by decide) (by decide)
    have N72 := Fr.app N68 N72q
    refine own_Fin.step st72 ?_
    show own_Fin p e below s _ _ _ (T72.setTop (mkF m 173 #[.val (.int p1), .val (.int p2), .val (.int p3), .val (.int p4), .val (.int p5), .val (.int (4 : Int32)), .val (.ref b53), .val (.ref r68), .val (.int (1 : Int32))] [(.int z72), (.int (gt68 ((0 : Int32)).toNatClampNeg))]))
    refine own_Fin.step (fun _ => XS.icmpNo X72.here hx rfl (hb hby at_173) rfl (XT.ii_ne_f (own_uniq (hT68 0 (by decide)) hz72))) ?_
    show own_Fin p e below s _ _ _ (T72.setTop (mkF m 176 #[.val (.int p1), .val (.int p2), .val (.int p3), .val (.int p4), .val (.int p5), .val (.int (4 : Int32)), .val (.ref b53), .val (.ref r68), .val (.int (1 : Int32))] []))
    refine own_Fin.step (fun _ => XS.iconst X72.here hx rfl (hb hby at_176)) ?_
    show own_Fin p e below s _ _ _ (T72.setTop (mkF m 177 #[.val (.int p1), .val (.int p2), .val (.int p3), .val (.int p4), .val (.int p5), .val (.int (4 : Int32)), .val (.ref b53), .val (.ref r68), .val (.int (1 : Int32))] [(.int (1 : Int32))]))
    refine own_Fin.step (fun _ => XS.goto X72.here hx rfl (pc0 := 177) (pc' := 181) rfl (hb hby at_177) (by decide) (by decide)) ?_
    show own_Fin p e below s _ _ _ (T72.setTop (mkF m 181 #[.val (.int p1), .val (.int p2), .val (.int p3), .val (.int p4), .val (.int p5), .val (.int (4 : Int32)), .val (.ref b53), .val (.ref r68), .val (.int (1 : Int32))] [(.int (1 : Int32))]))
    refine own_Fin.step (fun _ => XS.istore X72.here hx rfl (hb hby at_181) rfl (l' := #[.val (.int p1), .val (.int p2), .val (.int p3), .val (.int p4), .val (.int p5), .val (.int (4 : Int32)), .val (.ref b53), .val (.ref r68), .val (.int (1 : Int32))]) rfl) ?_
    show own_Fin p e below s _ _ _ (T72.setTop (mkF m 183 #[.val (.int p1), .val (.int p2), .val (.int p3), .val (.int p4), .val (.int p5), .val (.int (4 : Int32)), .val (.ref b53), .val (.ref r68), .val (.int (1 : Int32))] []))
    refine own_Fin.step (fun _ => XS.iload X72.here hx rfl (hb hby at_183) rfl) ?_
    show own_Fin p e below s _ _ _ (T72.setTop (mkF m 185 #[.val (.int p1), .val (.int p2), .val (.int p3), .val (.int p4), .val (.int p5), .val (.int (4 : Int32)), .val (.ref b53), .val (.ref r68), .val (.int (1 : Int32))] [(.int (1 : Int32))]))
    refine own_Fin.step (fun _ => XS.ifNo X72.here hx rfl (hb hby at_185) rfl (XT.i0_eq_f (by decide : ¬ ((1 : Int32) = (0 : Int32))))) ?_
    show own_Fin p e below s _ _ _ (T72.setTop (mkF m 188 #[.val (.int p1), .val (.int p2), .val (.int p3), .val (.int p4), .val (.int p5), .val (.int (4 : Int32)), .val (.ref b53), .val (.ref r68), .val (.int (1 : Int32))] []))
    refine own_Fin.step (fun _ => XS.iload X72.here hx rfl (hb hby at_188) rfl) ?_
    show own_Fin p e below s _ _ _ (T72.setTop (mkF m 190 #[.val (.int p1), .val (.int p2), .val (.int p3), .val (.int p4), .val (.int p5), .val (.int (4 : Int32)), .val (.ref b53), .val (.ref r68), .val (.int (1 : Int32))] [(.int (4 : Int32))]))
    refine own_Fin.step (fun _ => XS.iconst X72.here hx rfl (hb hby at_190)) ?_
    show own_Fin p e below s _ _ _ (T72.setTop (mkF m 191 #[.val (.int p1), .val (.int p2), .val (.int p3), .val (.int p4), .val (.int p5), .val (.int (4 : Int32)), .val (.ref b53), .val (.ref r68), .val (.int (1 : Int32))] [(.int (1 : Int32)), (.int (4 : Int32))]))
    refine own_Fin.step (fun _ => XS.icmpNo X72.here hx rfl (hb hby at_191) rfl (XT.ii_le_f (by decide : (1 : Int32) < (4 : Int32)))) ?_
    show own_Fin p e below s _ _ _ (T72.setTop (mkF m 194 #[.val (.int p1), .val (.int p2), .val (.int p3), .val (.int p4), .val (.int p5), .val (.int (4 : Int32)), .val (.ref b53), .val (.ref r68), .val (.int (1 : Int32))] []))
    refine own_Fin.step (fun _ => XS.aload X72.here hx rfl (hb hby at_194) rfl rfl) ?_
    show own_Fin p e below s _ _ _ (T72.setTop (mkF m 196 #[.val (.int p1), .val (.int p2), .val (.int p3), .val (.int p4), .val (.int p5), .val (.int (4 : Int32)), .val (.ref b53), .val (.ref r68), .val (.int (1 : Int32))] [(.ref r68)]))
    refine own_Fin.step (fun _ => XS.iconst X72.here hx rfl (hb hby at_196)) ?_
    show own_Fin p e below s _ _ _ (T72.setTop (mkF m 197 #[.val (.int p1), .val (.int p2), .val (.int p3), .val (.int p4), .val (.int p5), .val (.int (4 : Int32)), .val (.ref b53), .val (.ref r68), .val (.int (1 : Int32))] [(.int (1 : Int32)), (.ref r68)]))
    refine own_Fin.step (own_ldFI X72 hx hZ e72 V68 (j := (1 : Int32)) ⟨by decide, by decide⟩ (g := (mkF m 197 #[.val (.int p1), .val (.int p2), .val (.int p3), .val (.int p4), .val (.int p5), .val (.int (4 : Int32)), .val (.ref b53), .val (.ref r68), .val (.int (1 : Int32))] [(.int (1 : Int32)), (.ref r68)])) rfl rfl (hb hby at_197)) ?_
    show own_Fin p e below s _ _ _ (T72.setTop (mkF m 198 #[.val (.int p1), .val (.int p2), .val (.int p3), .val (.int p4), .val (.int p5), .val (.int (4 : Int32)), .val (.ref b53), .val (.ref r68), .val (.int (1 : Int32))] [(.int (gt68 ((1 : Int32)).toNatClampNeg))]))
    refine own_Fin.step (fun _ => XS.aload X72.here hx rfl (hb hby at_198) rfl rfl) ?_
    show own_Fin p e below s _ _ _ (T72.setTop (mkF m 200 #[.val (.int p1), .val (.int p2), .val (.int p3), .val (.int p4), .val (.int p5), .val (.int (4 : Int32)), .val (.ref b53), .val (.ref r68), .val (.int (1 : Int32))] [(.ref b53), (.int (gt68 ((1 : Int32)).toNatClampNeg))]))
    refine own_Fin.step (fun _ => XS.iconst X72.here hx rfl (hb hby at_200)) ?_
    show own_Fin p e below s _ _ _ (T72.setTop (mkF m 201 #[.val (.int p1), .val (.int p2), .val (.int p3), .val (.int p4), .val (.int p5), .val (.int (4 : Int32)), .val (.ref b53), .val (.ref r68), .val (.int (1 : Int32))] [(.int (1 : Int32)), (.ref b53), (.int (gt68 ((1 : Int32)).toNatClampNeg))]))
    obtain ⟨_, T73, L73, X73, ⟨z73, rfl, N73q, e73, hz73⟩, st73⟩ := own_callS X72 hx hZ hown (own_w hw 14 rfl) (own_w hw 15 rfl) (own_w hw 9 rfl) (own_w hw 16 rfl) (by decide) (rm3b1 l Z a0 hw b53 k53 (4 : Int32) f T68.heap n0 Z68 f71 (by decide)) (by decide) (by decide) e72 (W := 1) (g := (mkF m 201 #[.val (.int p1), .val (.int p2), .val (.int p3), .val (.int p4), .val (.int p5), .val (.int (4 : Int32)), .val (.ref b53), .val (.ref r68), .val (.int (1 : Int32))] [(.int (1 : Int32)), (.ref b53), (.int (gt68 ((1 : Int32)).toNatClampNeg))])) rfl (by rw [hml]; rfl) (argsL := [(.ref b53), (.int (1 : Int32))]) (rest := [(.int (gt68 ((1 : Int32)).toNatClampNeg))]) (lenOf pd_4 rfl) rfl rfl (by show 2 * 0 + _ ≤ _; exact Nat.le_of_eq rfl) (hb hby at_201) (by decide) (by decide)
    have N73 := Fr.app N72 N73q
    refine own_Fin.step st73 ?_
    show own_Fin p e below s _ _ _ (T73.setTop (mkF m 204 #[.val (.int p1), .val (.int p2), .val (.int p3), .val (.int p4), .val (.int p5), .val (.int (4 : Int32)), .val (.ref b53), .val (.ref r68), .val (.int (1 : Int32))] [(.int z73), (.int (gt68 ((1 : Int32)).toNatClampNeg))]))
    refine own_Fin.step (fun _ => XS.icmpNo X73.here hx rfl (hb hby at_204) rfl (XT.ii_ne_f (own_uniq (hT68 1 (by decide)) hz73))) ?_
    show own_Fin p e below s _ _ _ (T73.setTop (mkF m 207 #[.val (.int p1), .val (.int p2), .val (.int p3), .val (.int p4), .val (.int p5), .val (.int (4 : Int32)), .val (.ref b53), .val (.ref r68), .val (.int (1 : Int32))] []))
    refine own_Fin.step (fun _ => XS.iconst X73.here hx rfl (hb hby at_207)) ?_
    show own_Fin p e below s _ _ _ (T73.setTop (mkF m 208 #[.val (.int p1), .val (.int p2), .val (.int p3), .val (.int p4), .val (.int p5), .val (.int (4 : Int32)), .val (.ref b53), .val (.ref r68), .val (.int (1 : Int32))] [(.int (1 : Int32))]))
    refine own_Fin.step (fun _ => XS.goto X73.here hx rfl (pc0 := 208) (pc' := 212) rfl (hb hby at_208) (by decide) (by decide)) ?_
    show own_Fin p e below s _ _ _ (T73.setTop (mkF m 212 #[.val (.int p1), .val (.int p2), .val (.int p3), .val (.int p4), .val (.int p5), .val (.int (4 : Int32)), .val (.ref b53), .val (.ref r68), .val (.int (1 : Int32))] [(.int (1 : Int32))]))
    refine own_Fin.step (fun _ => XS.istore X73.here hx rfl (hb hby at_212) rfl (l' := #[.val (.int p1), .val (.int p2), .val (.int p3), .val (.int p4), .val (.int p5), .val (.int (4 : Int32)), .val (.ref b53), .val (.ref r68), .val (.int (1 : Int32))]) rfl) ?_
    show own_Fin p e below s _ _ _ (T73.setTop (mkF m 214 #[.val (.int p1), .val (.int p2), .val (.int p3), .val (.int p4), .val (.int p5), .val (.int (4 : Int32)), .val (.ref b53), .val (.ref r68), .val (.int (1 : Int32))] []))
    refine own_Fin.step (fun _ => XS.iload X73.here hx rfl (hb hby at_214) rfl) ?_
    show own_Fin p e below s _ _ _ (T73.setTop (mkF m 216 #[.val (.int p1), .val (.int p2), .val (.int p3), .val (.int p4), .val (.int p5), .val (.int (4 : Int32)), .val (.ref b53), .val (.ref r68), .val (.int (1 : Int32))] [(.int (1 : Int32))]))
    refine own_Fin.step (fun _ => XS.ifNo X73.here hx rfl (hb hby at_216) rfl (XT.i0_eq_f (by decide : ¬ ((1 : Int32) = (0 : Int32))))) ?_
    show own_Fin p e below s _ _ _ (T73.setTop (mkF m 219 #[.val (.int p1), .val (.int p2), .val (.int p3), .val (.int p4), .val (.int p5), .val (.int (4 : Int32)), .val (.ref b53), .val (.ref r68), .val (.int (1 : Int32))] []))
    refine own_Fin.step (fun _ => XS.iload X73.here hx rfl (hb hby at_219) rfl) ?_
    show own_Fin p e below s _ _ _ (T73.setTop (mkF m 221 #[.val (.int p1), .val (.int p2), .val (.int p3), .val (.int p4), .val (.int p5), .val (.int (4 : Int32)), .val (.ref b53), .val (.ref r68), .val (.int (1 : Int32))] [(.int (4 : Int32))]))
    refine own_Fin.step (fun _ => XS.iconst X73.here hx rfl (hb hby at_221)) ?_
    show own_Fin p e below s _ _ _ (T73.setTop (mkF m 222 #[.val (.int p1), .val (.int p2), .val (.int p3), .val (.int p4), .val (.int p5), .val (.int (4 : Int32)), .val (.ref b53), .val (.ref r68), .val (.int (1 : Int32))] [(.int (2 : Int32)), (.int (4 : Int32))]))
    refine own_Fin.step (fun _ => XS.icmpNo X73.here hx rfl (hb hby at_222) rfl (XT.ii_le_f (by decide : (2 : Int32) < (4 : Int32)))) ?_
    show own_Fin p e below s _ _ _ (T73.setTop (mkF m 225 #[.val (.int p1), .val (.int p2), .val (.int p3), .val (.int p4), .val (.int p5), .val (.int (4 : Int32)), .val (.ref b53), .val (.ref r68), .val (.int (1 : Int32))] []))
    refine own_Fin.step (fun _ => XS.aload X73.here hx rfl (hb hby at_225) rfl rfl) ?_
    show own_Fin p e below s _ _ _ (T73.setTop (mkF m 227 #[.val (.int p1), .val (.int p2), .val (.int p3), .val (.int p4), .val (.int p5), .val (.int (4 : Int32)), .val (.ref b53), .val (.ref r68), .val (.int (1 : Int32))] [(.ref r68)]))
    refine own_Fin.step (fun _ => XS.iconst X73.here hx rfl (hb hby at_227)) ?_
    show own_Fin p e below s _ _ _ (T73.setTop (mkF m 228 #[.val (.int p1), .val (.int p2), .val (.int p3), .val (.int p4), .val (.int p5), .val (.int (4 : Int32)), .val (.ref b53), .val (.ref r68), .val (.int (1 : Int32))] [(.int (2 : Int32)), (.ref r68)]))
    refine own_Fin.step (own_ldFI X73 hx hZ e73 V68 (j := (2 : Int32)) ⟨by decide, by decide⟩ (g := (mkF m 228 #[.val (.int p1), .val (.int p2), .val (.int p3), .val (.int p4), .val (.int p5), .val (.int (4 : Int32)), .val (.ref b53), .val (.ref r68), .val (.int (1 : Int32))] [(.int (2 : Int32)), (.ref r68)])) rfl rfl (hb hby at_228)) ?_
    show own_Fin p e below s _ _ _ (T73.setTop (mkF m 229 #[.val (.int p1), .val (.int p2), .val (.int p3), .val (.int p4), .val (.int p5), .val (.int (4 : Int32)), .val (.ref b53), .val (.ref r68), .val (.int (1 : Int32))] [(.int (gt68 ((2 : Int32)).toNatClampNeg))]))
    refine own_Fin.step (fun _ => XS.aload X73.here hx rfl (hb hby at_229) rfl rfl) ?_
    show own_Fin p e below s _ _ _ (T73.setTop (mkF m 231 #[.val (.int p1), .val (.int p2), .val (.int p3), .val (.int p4), .val (.int p5), .val (.int (4 : Int32)), .val (.ref b53), .val (.ref r68), .val (.int (1 : Int32))] [(.ref b53), (.int (gt68 ((2 : Int32)).toNatClampNeg))]))
    refine own_Fin.step (fun _ => XS.iconst X73.here hx rfl (hb hby at_231)) ?_
    show own_Fin p e below s _ _ _ (T73.setTop (mkF m 232 #[.val (.int p1), .val (.int p2), .val (.int p3), .val (.int p4), .val (.int p5), .val (.int (4 : Int32)), .val (.ref b53), .val (.ref r68), .val (.int (1 : Int32))] [(.int (2 : Int32)), (.ref b53), (.int (gt68 ((2 : Int32)).toNatClampNeg))]))
    obtain ⟨_, T74, L74, X74, ⟨z74, rfl, N74q, e74, hz74⟩, st74⟩ := own_callS X73 hx hZ hown (own_w hw 14 rfl) (own_w hw 15 rfl) (own_w hw 9 rfl) (own_w hw 16 rfl) (by decide) (rm3b2 l Z a0 hw b53 k53 (4 : Int32) f T68.heap n0 Z68 f71 (by decide)) (by decide) (by decide) e73 (W := 1) (g := (mkF m 232 #[.val (.int p1), .val (.int p2), .val (.int p3), .val (.int p4), .val (.int p5), .val (.int (4 : Int32)), .val (.ref b53), .val (.ref r68), .val (.int (1 : Int32))] [(.int (2 : Int32)), (.ref b53), (.int (gt68 ((2 : Int32)).toNatClampNeg))])) rfl (by rw [hml]; rfl) (argsL := [(.ref b53), (.int (2 : Int32))]) (rest := [(.int (gt68 ((2 : Int32)).toNatClampNeg))]) (lenOf pd_4 rfl) rfl rfl (by show 2 * 0 + _ ≤ _; exact Nat.le_of_eq rfl) (hb hby at_232) (by decide) (by decide)
    have N74 := Fr.app N73 N74q
    refine own_Fin.step st74 ?_
    show own_Fin p e below s _ _ _ (T74.setTop (mkF m 235 #[.val (.int p1), .val (.int p2), .val (.int p3), .val (.int p4), .val (.int p5), .val (.int (4 : Int32)), .val (.ref b53), .val (.ref r68), .val (.int (1 : Int32))] [(.int z74), (.int (gt68 ((2 : Int32)).toNatClampNeg))]))
    refine own_Fin.step (fun _ => XS.icmpNo X74.here hx rfl (hb hby at_235) rfl (XT.ii_ne_f (own_uniq (hT68 2 (by decide)) hz74))) ?_
    show own_Fin p e below s _ _ _ (T74.setTop (mkF m 238 #[.val (.int p1), .val (.int p2), .val (.int p3), .val (.int p4), .val (.int p5), .val (.int (4 : Int32)), .val (.ref b53), .val (.ref r68), .val (.int (1 : Int32))] []))
    refine own_Fin.step (fun _ => XS.iconst X74.here hx rfl (hb hby at_238)) ?_
    show own_Fin p e below s _ _ _ (T74.setTop (mkF m 239 #[.val (.int p1), .val (.int p2), .val (.int p3), .val (.int p4), .val (.int p5), .val (.int (4 : Int32)), .val (.ref b53), .val (.ref r68), .val (.int (1 : Int32))] [(.int (1 : Int32))]))
    refine own_Fin.step (fun _ => XS.goto X74.here hx rfl (pc0 := 239) (pc' := 243) rfl (hb hby at_239) (by decide) (by decide)) ?_
    show own_Fin p e below s _ _ _ (T74.setTop (mkF m 243 #[.val (.int p1), .val (.int p2), .val (.int p3), .val (.int p4), .val (.int p5), .val (.int (4 : Int32)), .val (.ref b53), .val (.ref r68), .val (.int (1 : Int32))] [(.int (1 : Int32))]))
    refine own_Fin.step (fun _ => XS.istore X74.here hx rfl (hb hby at_243) rfl (l' := #[.val (.int p1), .val (.int p2), .val (.int p3), .val (.int p4), .val (.int p5), .val (.int (4 : Int32)), .val (.ref b53), .val (.ref r68), .val (.int (1 : Int32))]) rfl) ?_
    show own_Fin p e below s _ _ _ (T74.setTop (mkF m 245 #[.val (.int p1), .val (.int p2), .val (.int p3), .val (.int p4), .val (.int p5), .val (.int (4 : Int32)), .val (.ref b53), .val (.ref r68), .val (.int (1 : Int32))] []))
    refine own_Fin.step (fun _ => XS.iload X74.here hx rfl (hb hby at_245) rfl) ?_
    show own_Fin p e below s _ _ _ (T74.setTop (mkF m 247 #[.val (.int p1), .val (.int p2), .val (.int p3), .val (.int p4), .val (.int p5), .val (.int (4 : Int32)), .val (.ref b53), .val (.ref r68), .val (.int (1 : Int32))] [(.int (1 : Int32))]))
    refine own_Fin.step (fun _ => XS.ifNo X74.here hx rfl (hb hby at_247) rfl (XT.i0_eq_f (by decide : ¬ ((1 : Int32) = (0 : Int32))))) ?_
    show own_Fin p e below s _ _ _ (T74.setTop (mkF m 250 #[.val (.int p1), .val (.int p2), .val (.int p3), .val (.int p4), .val (.int p5), .val (.int (4 : Int32)), .val (.ref b53), .val (.ref r68), .val (.int (1 : Int32))] []))
    refine own_Fin.step (fun _ => XS.iload X74.here hx rfl (hb hby at_250) rfl) ?_
    show own_Fin p e below s _ _ _ (T74.setTop (mkF m 252 #[.val (.int p1), .val (.int p2), .val (.int p3), .val (.int p4), .val (.int p5), .val (.int (4 : Int32)), .val (.ref b53), .val (.ref r68), .val (.int (1 : Int32))] [(.int (4 : Int32))]))
    refine own_Fin.step (fun _ => XS.iconst X74.here hx rfl (hb hby at_252)) ?_
    show own_Fin p e below s _ _ _ (T74.setTop (mkF m 253 #[.val (.int p1), .val (.int p2), .val (.int p3), .val (.int p4), .val (.int p5), .val (.int (4 : Int32)), .val (.ref b53), .val (.ref r68), .val (.int (1 : Int32))] [(.int (3 : Int32)), (.int (4 : Int32))]))
    refine own_Fin.step (fun _ => XS.icmpNo X74.here hx rfl (hb hby at_253) rfl (XT.ii_le_f (by decide : (3 : Int32) < (4 : Int32)))) ?_
    show own_Fin p e below s _ _ _ (T74.setTop (mkF m 256 #[.val (.int p1), .val (.int p2), .val (.int p3), .val (.int p4), .val (.int p5), .val (.int (4 : Int32)), .val (.ref b53), .val (.ref r68), .val (.int (1 : Int32))] []))
    refine own_Fin.step (fun _ => XS.aload X74.here hx rfl (hb hby at_256) rfl rfl) ?_
    show own_Fin p e below s _ _ _ (T74.setTop (mkF m 258 #[.val (.int p1), .val (.int p2), .val (.int p3), .val (.int p4), .val (.int p5), .val (.int (4 : Int32)), .val (.ref b53), .val (.ref r68), .val (.int (1 : Int32))] [(.ref r68)]))
    refine own_Fin.step (fun _ => XS.iconst X74.here hx rfl (hb hby at_258)) ?_
    show own_Fin p e below s _ _ _ (T74.setTop (mkF m 259 #[.val (.int p1), .val (.int p2), .val (.int p3), .val (.int p4), .val (.int p5), .val (.int (4 : Int32)), .val (.ref b53), .val (.ref r68), .val (.int (1 : Int32))] [(.int (3 : Int32)), (.ref r68)]))
    refine own_Fin.step (own_ldFI X74 hx hZ e74 V68 (j := (3 : Int32)) ⟨by decide, by decide⟩ (g := (mkF m 259 #[.val (.int p1), .val (.int p2), .val (.int p3), .val (.int p4), .val (.int p5), .val (.int (4 : Int32)), .val (.ref b53), .val (.ref r68), .val (.int (1 : Int32))] [(.int (3 : Int32)), (.ref r68)])) rfl rfl (hb hby at_259)) ?_
    show own_Fin p e below s _ _ _ (T74.setTop (mkF m 260 #[.val (.int p1), .val (.int p2), .val (.int p3), .val (.int p4), .val (.int p5), .val (.int (4 : Int32)), .val (.ref b53), .val (.ref r68), .val (.int (1 : Int32))] [(.int (gt68 ((3 : Int32)).toNatClampNeg))]))
    refine own_Fin.step (fun _ => XS.aload X74.here hx rfl (hb hby at_260) rfl rfl) ?_
    show own_Fin p e below s _ _ _ (T74.setTop (mkF m 262 #[.val (.int p1), .val (.int p2), .val (.int p3), .val (.int p4), .val (.int p5), .val (.int (4 : Int32)), .val (.ref b53), .val (.ref r68), .val (.int (1 : Int32))] [(.ref b53), (.int (gt68 ((3 : Int32)).toNatClampNeg))]))
    refine own_Fin.step (fun _ => XS.iconst X74.here hx rfl (hb hby at_262)) ?_
    show own_Fin p e below s _ _ _ (T74.setTop (mkF m 263 #[.val (.int p1), .val (.int p2), .val (.int p3), .val (.int p4), .val (.int p5), .val (.int (4 : Int32)), .val (.ref b53), .val (.ref r68), .val (.int (1 : Int32))] [(.int (3 : Int32)), (.ref b53), (.int (gt68 ((3 : Int32)).toNatClampNeg))]))
    obtain ⟨_, T75, L75, X75, ⟨z75, rfl, N75q, e75, hz75⟩, st75⟩ := own_callS X74 hx hZ hown (own_w hw 14 rfl) (own_w hw 15 rfl) (own_w hw 9 rfl) (own_w hw 16 rfl) (by decide) (rm3b3 l Z a0 hw b53 k53 (4 : Int32) f T68.heap n0 Z68 f71 (by decide)) (by decide) (by decide) e74 (W := 1) (g := (mkF m 263 #[.val (.int p1), .val (.int p2), .val (.int p3), .val (.int p4), .val (.int p5), .val (.int (4 : Int32)), .val (.ref b53), .val (.ref r68), .val (.int (1 : Int32))] [(.int (3 : Int32)), (.ref b53), (.int (gt68 ((3 : Int32)).toNatClampNeg))])) rfl (by rw [hml]; rfl) (argsL := [(.ref b53), (.int (3 : Int32))]) (rest := [(.int (gt68 ((3 : Int32)).toNatClampNeg))]) (lenOf pd_4 rfl) rfl rfl (by show 2 * 0 + _ ≤ _; exact Nat.le_of_eq rfl) (hb hby at_263) (by decide) (by decide)
    have N75 := Fr.app N74 N75q
    refine own_Fin.step st75 ?_
    show own_Fin p e below s _ _ _ (T75.setTop (mkF m 266 #[.val (.int p1), .val (.int p2), .val (.int p3), .val (.int p4), .val (.int p5), .val (.int (4 : Int32)), .val (.ref b53), .val (.ref r68), .val (.int (1 : Int32))] [(.int z75), (.int (gt68 ((3 : Int32)).toNatClampNeg))]))
    refine own_Fin.step (fun _ => XS.icmpNo X75.here hx rfl (hb hby at_266) rfl (XT.ii_ne_f (own_uniq (hT68 3 (by decide)) hz75))) ?_
    show own_Fin p e below s _ _ _ (T75.setTop (mkF m 269 #[.val (.int p1), .val (.int p2), .val (.int p3), .val (.int p4), .val (.int p5), .val (.int (4 : Int32)), .val (.ref b53), .val (.ref r68), .val (.int (1 : Int32))] []))
    refine own_Fin.step (fun _ => XS.iconst X75.here hx rfl (hb hby at_269)) ?_
    show own_Fin p e below s _ _ _ (T75.setTop (mkF m 270 #[.val (.int p1), .val (.int p2), .val (.int p3), .val (.int p4), .val (.int p5), .val (.int (4 : Int32)), .val (.ref b53), .val (.ref r68), .val (.int (1 : Int32))] [(.int (1 : Int32))]))
    refine own_Fin.step (fun _ => XS.goto X75.here hx rfl (pc0 := 270) (pc' := 274) rfl (hb hby at_270) (by decide) (by decide)) ?_
    show own_Fin p e below s _ _ _ (T75.setTop (mkF m 274 #[.val (.int p1), .val (.int p2), .val (.int p3), .val (.int p4), .val (.int p5), .val (.int (4 : Int32)), .val (.ref b53), .val (.ref r68), .val (.int (1 : Int32))] [(.int (1 : Int32))]))
    refine own_Fin.step (fun _ => XS.istore X75.here hx rfl (hb hby at_274) rfl (l' := #[.val (.int p1), .val (.int p2), .val (.int p3), .val (.int p4), .val (.int p5), .val (.int (4 : Int32)), .val (.ref b53), .val (.ref r68), .val (.int (1 : Int32))]) rfl) ?_
    show own_Fin p e below s _ _ _ (T75.setTop (mkF m 276 #[.val (.int p1), .val (.int p2), .val (.int p3), .val (.int p4), .val (.int p5), .val (.int (4 : Int32)), .val (.ref b53), .val (.ref r68), .val (.int (1 : Int32))] []))
    refine own_Fin.step (fun _ => XS.iload X75.here hx rfl (hb hby at_276) rfl) ?_
    show own_Fin p e below s _ _ _ (T75.setTop (mkF m 278 #[.val (.int p1), .val (.int p2), .val (.int p3), .val (.int p4), .val (.int p5), .val (.int (4 : Int32)), .val (.ref b53), .val (.ref r68), .val (.int (1 : Int32))] [(.int (1 : Int32))]))
    refine own_Fin.step (fun _ => XS.ifNo X75.here hx rfl (hb hby at_278) rfl (XT.i0_eq_f (by decide : ¬ ((1 : Int32) = (0 : Int32))))) ?_
    show own_Fin p e below s _ _ _ (T75.setTop (mkF m 281 #[.val (.int p1), .val (.int p2), .val (.int p3), .val (.int p4), .val (.int p5), .val (.int (4 : Int32)), .val (.ref b53), .val (.ref r68), .val (.int (1 : Int32))] []))
    refine own_Fin.step (fun _ => XS.iload X75.here hx rfl (hb hby at_281) rfl) ?_
    show own_Fin p e below s _ _ _ (T75.setTop (mkF m 283 #[.val (.int p1), .val (.int p2), .val (.int p3), .val (.int p4), .val (.int p5), .val (.int (4 : Int32)), .val (.ref b53), .val (.ref r68), .val (.int (1 : Int32))] [(.int (4 : Int32))]))
    refine own_Fin.step (fun _ => XS.iconst X75.here hx rfl (hb hby at_283)) ?_
    show own_Fin p e below s _ _ _ (T75.setTop (mkF m 284 #[.val (.int p1), .val (.int p2), .val (.int p3), .val (.int p4), .val (.int p5), .val (.int (4 : Int32)), .val (.ref b53), .val (.ref r68), .val (.int (1 : Int32))] [(.int (4 : Int32)), (.int (4 : Int32))]))
    refine own_Fin.step (fun _ => XS.icmpYes X75.here hx rfl (pc0 := 284) (pc' := 300) rfl (hb hby at_284) rfl (XT.ii_le_t (by decide : ¬ ((4 : Int32) < (4 : Int32)))) (by decide) (by decide)) ?_
    show own_Fin p e below s _ _ _ (T75.setTop (mkF m 300 #[.val (.int p1), .val (.int p2), .val (.int p3), .val (.int p4), .val (.int p5), .val (.int (4 : Int32)), .val (.ref b53), .val (.ref r68), .val (.int (1 : Int32))] []))
    refine own_Fin.step (fun _ => XS.iconst X75.here hx rfl (hb hby at_300)) ?_
    show own_Fin p e below s _ _ _ (T75.setTop (mkF m 301 #[.val (.int p1), .val (.int p2), .val (.int p3), .val (.int p4), .val (.int p5), .val (.int (4 : Int32)), .val (.ref b53), .val (.ref r68), .val (.int (1 : Int32))] [(.int (1 : Int32))]))
    refine own_Fin.step (fun _ => XS.goto X75.here hx rfl (pc0 := 301) (pc' := 305) rfl (hb hby at_301) (by decide) (by decide)) ?_
    show own_Fin p e below s _ _ _ (T75.setTop (mkF m 305 #[.val (.int p1), .val (.int p2), .val (.int p3), .val (.int p4), .val (.int p5), .val (.int (4 : Int32)), .val (.ref b53), .val (.ref r68), .val (.int (1 : Int32))] [(.int (1 : Int32))]))
    refine own_Fin.step (fun _ => XS.istore X75.here hx rfl (hb hby at_305) rfl (l' := #[.val (.int p1), .val (.int p2), .val (.int p3), .val (.int p4), .val (.int p5), .val (.int (4 : Int32)), .val (.ref b53), .val (.ref r68), .val (.int (1 : Int32))]) rfl) ?_
    show own_Fin p e below s _ _ _ (T75.setTop (mkF m 307 #[.val (.int p1), .val (.int p2), .val (.int p3), .val (.int p4), .val (.int p5), .val (.int (4 : Int32)), .val (.ref b53), .val (.ref r68), .val (.int (1 : Int32))] []))
    refine own_Fin.step (fun _ => XS.iload X75.here hx rfl (hb hby at_307) rfl) ?_
    show own_Fin p e below s _ _ _ (T75.setTop (mkF m 309 #[.val (.int p1), .val (.int p2), .val (.int p3), .val (.int p4), .val (.int p5), .val (.int (4 : Int32)), .val (.ref b53), .val (.ref r68), .val (.int (1 : Int32))] [(.int (1 : Int32))]))
    refine own_Fin.step (fun _ => XS.ifNo X75.here hx rfl (hb hby at_309) rfl (XT.i0_eq_f (by decide : ¬ ((1 : Int32) = (0 : Int32))))) ?_
    show own_Fin p e below s _ _ _ (T75.setTop (mkF m 312 #[.val (.int p1), .val (.int p2), .val (.int p3), .val (.int p4), .val (.int p5), .val (.int (4 : Int32)), .val (.ref b53), .val (.ref r68), .val (.int (1 : Int32))] []))
    refine own_Fin.step (fun _ => XS.iload X75.here hx rfl (hb hby at_312) rfl) ?_
    show own_Fin p e below s _ _ _ (T75.setTop (mkF m 314 #[.val (.int p1), .val (.int p2), .val (.int p3), .val (.int p4), .val (.int p5), .val (.int (4 : Int32)), .val (.ref b53), .val (.ref r68), .val (.int (1 : Int32))] [(.int (4 : Int32))]))
    refine own_Fin.step (fun _ => XS.iconst X75.here hx rfl (hb hby at_314)) ?_
    show own_Fin p e below s _ _ _ (T75.setTop (mkF m 315 #[.val (.int p1), .val (.int p2), .val (.int p3), .val (.int p4), .val (.int p5), .val (.int (4 : Int32)), .val (.ref b53), .val (.ref r68), .val (.int (1 : Int32))] [(.int (5 : Int32)), (.int (4 : Int32))]))
    refine own_Fin.step (fun _ => XS.icmpYes X75.here hx rfl (pc0 := 315) (pc' := 331) rfl (hb hby at_315) rfl (XT.ii_le_t (by decide : ¬ ((5 : Int32) < (4 : Int32)))) (by decide) (by decide)) ?_
    show own_Fin p e below s _ _ _ (T75.setTop (mkF m 331 #[.val (.int p1), .val (.int p2), .val (.int p3), .val (.int p4), .val (.int p5), .val (.int (4 : Int32)), .val (.ref b53), .val (.ref r68), .val (.int (1 : Int32))] []))
    refine own_Fin.step (fun _ => XS.iconst X75.here hx rfl (hb hby at_331)) ?_
    show own_Fin p e below s _ _ _ (T75.setTop (mkF m 332 #[.val (.int p1), .val (.int p2), .val (.int p3), .val (.int p4), .val (.int p5), .val (.int (4 : Int32)), .val (.ref b53), .val (.ref r68), .val (.int (1 : Int32))] [(.int (1 : Int32))]))
    refine own_Fin.step (fun _ => XS.goto X75.here hx rfl (pc0 := 332) (pc' := 336) rfl (hb hby at_332) (by decide) (by decide)) ?_
    show own_Fin p e below s _ _ _ (T75.setTop (mkF m 336 #[.val (.int p1), .val (.int p2), .val (.int p3), .val (.int p4), .val (.int p5), .val (.int (4 : Int32)), .val (.ref b53), .val (.ref r68), .val (.int (1 : Int32))] [(.int (1 : Int32))]))
    refine own_Fin.step (fun _ => XS.istore X75.here hx rfl (hb hby at_336) rfl (l' := #[.val (.int p1), .val (.int p2), .val (.int p3), .val (.int p4), .val (.int p5), .val (.int (4 : Int32)), .val (.ref b53), .val (.ref r68), .val (.int (1 : Int32))]) rfl) ?_
    show own_Fin p e below s _ _ _ (T75.setTop (mkF m 338 #[.val (.int p1), .val (.int p2), .val (.int p3), .val (.int p4), .val (.int p5), .val (.int (4 : Int32)), .val (.ref b53), .val (.ref r68), .val (.int (1 : Int32))] []))
    refine own_Fin.step (fun _ => XS.iload X75.here hx rfl (hb hby at_338) rfl) ?_
    show own_Fin p e below s _ _ _ (T75.setTop (mkF m 340 #[.val (.int p1), .val (.int p2), .val (.int p3), .val (.int p4), .val (.int p5), .val (.int (4 : Int32)), .val (.ref b53), .val (.ref r68), .val (.int (1 : Int32))] [(.int (1 : Int32))]))
    exact own_retN X75 hx hlk (t := .boolean) hret (by simp) (hb hby at_340) ⟨rfl, N75⟩ (by decide) (by decide)
  ·
    show own_Fin p e below s _ _ _ (s₁.setTop (mkF m 7 #[.val (.int p1), .val (.int p2), .val (.int p3), .val (.int p4), .val (.int p5), .unset, .unset, .unset, .unset] [(.int (5 : Int32))]))
    refine own_Fin.step (fun _ => XS.istore X0.here hx rfl (hb hby at_7) rfl (l' := #[.val (.int p1), .val (.int p2), .val (.int p3), .val (.int p4), .val (.int p5), .val (.int (5 : Int32)), .unset, .unset, .unset]) rfl) ?_
    show own_Fin p e below s _ _ _ (s₁.setTop (mkF m 9 #[.val (.int p1), .val (.int p2), .val (.int p3), .val (.int p4), .val (.int p5), .val (.int (5 : Int32)), .unset, .unset, .unset] []))
    refine own_Fin.step (fun _ => XS.iload X0.here hx rfl (hb hby at_9) rfl) ?_
    show own_Fin p e below s _ _ _ (s₁.setTop (mkF m 11 #[.val (.int p1), .val (.int p2), .val (.int p3), .val (.int p4), .val (.int p5), .val (.int (5 : Int32)), .unset, .unset, .unset] [(.int (5 : Int32))]))
    obtain ⟨T76, h76, k76, b76, X76, e76, E76, g76, V76, st76⟩ := own_newA X0 hx hZ (own_w hw 1 rfl) e0 (ty := .byte) (dv := (.int (0 : Int32))) rfl rfl (g := (mkF m 11 #[.val (.int p1), .val (.int p2), .val (.int p3), .val (.int p4), .val (.int p5), .val (.int (5 : Int32)), .unset, .unset, .unset] [(.int (5 : Int32))])) rfl (hb hby at_11) rfl (by decide) (cap := 5) (by decide) (by decide) (by decide) (by decide) (5)
    have ge77 : n0 ≤ b76 := Nat.le_trans Z0 (Nat.le_of_eq g76.symm)
    have Z76 : n0 ≤ h76.size := Nat.le_trans Z0 E76.1
    have V76' : Arv Z h76 b76 k76 .byte (5 : Int32) [(.int (0 : Int32)), (.int (0 : Int32)), (.int (0 : Int32)), (.int (0 : Int32)), (.int (0 : Int32))] (.int (0 : Int32)) := V76
    refine own_Fin.step st76 ?_
    show own_Fin p e below s _ _ _ (T76.setTop (mkF m 13 #[.val (.int p1), .val (.int p2), .val (.int p3), .val (.int p4), .val (.int p5), .val (.int (5 : Int32)), .unset, .unset, .unset] [(.ref b76)]))
    have Vf78 := own_Arf.of (N := 5) V76'
    refine own_Fin.step (fun _ => XS.astore X76.here hx rfl (hb hby at_13) rfl rfl (l' := #[.val (.int p1), .val (.int p2), .val (.int p3), .val (.int p4), .val (.int p5), .val (.int (5 : Int32)), .val (.ref b76), .unset, .unset]) rfl) ?_
    show own_Fin p e below s _ _ _ (T76.setTop (mkF m 15 #[.val (.int p1), .val (.int p2), .val (.int p3), .val (.int p4), .val (.int p5), .val (.int (5 : Int32)), .val (.ref b76), .unset, .unset] []))
    refine own_Fin.step (fun _ => XS.iload X76.here hx rfl (hb hby at_15) rfl) ?_
    show own_Fin p e below s _ _ _ (T76.setTop (mkF m 17 #[.val (.int p1), .val (.int p2), .val (.int p3), .val (.int p4), .val (.int p5), .val (.int (5 : Int32)), .val (.ref b76), .unset, .unset] [(.int (5 : Int32))]))
    refine own_Fin.step (fun _ => XS.ifNo X76.here hx rfl (hb hby at_17) rfl (XT.i0_le_f (by decide : (0 : Int32) < (5 : Int32)))) ?_
    show own_Fin p e below s _ _ _ (T76.setTop (mkF m 20 #[.val (.int p1), .val (.int p2), .val (.int p3), .val (.int p4), .val (.int p5), .val (.int (5 : Int32)), .val (.ref b76), .unset, .unset] []))
    refine own_Fin.step (fun _ => XS.aload X76.here hx rfl (hb hby at_20) rfl rfl) ?_
    show own_Fin p e below s _ _ _ (T76.setTop (mkF m 22 #[.val (.int p1), .val (.int p2), .val (.int p3), .val (.int p4), .val (.int p5), .val (.int (5 : Int32)), .val (.ref b76), .unset, .unset] [(.ref b76)]))
    refine own_Fin.step (fun _ => XS.iconst X76.here hx rfl (hb hby at_22)) ?_
    show own_Fin p e below s _ _ _ (T76.setTop (mkF m 23 #[.val (.int p1), .val (.int p2), .val (.int p3), .val (.int p4), .val (.int p5), .val (.int (5 : Int32)), .val (.ref b76), .unset, .unset] [(.int (0 : Int32)), (.ref b76)]))
    refine own_Fin.step (fun _ => XS.iload X76.here hx rfl (hb hby at_23) rfl) ?_
    show own_Fin p e below s _ _ _ (T76.setTop (mkF m 25 #[.val (.int p1), .val (.int p2), .val (.int p3), .val (.int p4), .val (.int p5), .val (.int (5 : Int32)), .val (.ref b76), .unset, .unset] [(.int p5), (.int (0 : Int32)), (.ref b76)]))
    refine own_Fin.step (fun _ => XS.iconst X76.here hx rfl (hb hby at_25)) ?_
    show own_Fin p e below s _ _ _ (T76.setTop (mkF m 26 #[.val (.int p1), .val (.int p2), .val (.int p3), .val (.int p4), .val (.int p5), .val (.int (5 : Int32)), .val (.ref b76), .unset, .unset] [(.int (0 : Int32)), (.int p5), (.int (0 : Int32)), (.ref b76)]))
    refine own_Fin.step (fun _ => XS.iloadN X76.here hx rfl (hb hby at_26) rfl) ?_
    show own_Fin p e below s _ _ _ (T76.setTop (mkF m 27 #[.val (.int p1), .val (.int p2), .val (.int p3), .val (.int p4), .val (.int p5), .val (.int (5 : Int32)), .val (.ref b76), .unset, .unset] [(.int p2), (.int (0 : Int32)), (.int p5), (.int (0 : Int32)), (.ref b76)]))
    refine own_Fin.step (fun _ => XS.iloadN X76.here hx rfl (hb hby at_27) rfl) ?_
    show own_Fin p e below s _ _ _ (T76.setTop (mkF m 28 #[.val (.int p1), .val (.int p2), .val (.int p3), .val (.int p4), .val (.int p5), .val (.int (5 : Int32)), .val (.ref b76), .unset, .unset] [(.int p3), (.int p2), (.int (0 : Int32)), (.int p5), (.int (0 : Int32)), (.ref b76)]))
    refine own_Fin.step (fun _ => XS.iloadN X76.here hx rfl (hb hby at_28) rfl) ?_
    show own_Fin p e below s _ _ _ (T76.setTop (mkF m 29 #[.val (.int p1), .val (.int p2), .val (.int p3), .val (.int p4), .val (.int p5), .val (.int (5 : Int32)), .val (.ref b76), .unset, .unset] [(.int p4), (.int p3), (.int p2), (.int (0 : Int32)), (.int p5), (.int (0 : Int32)), (.ref b76)]))
    obtain ⟨_, T79, L79, X79, ⟨z79, rfl, N79q, e79⟩, st79⟩ := own_callS X76 hx hZ hown (own_w hw 7 rfl) (own_w hw 8 rfl) (own_w hw 9 rfl) (own_w hw 10 rfl) (by decide) (rm1 l Z a0 hw p5 (0 : Int32) p2 p3 p4 h76 n0 Z76) (by decide) (by decide) e76 (W := 2) (g := (mkF m 29 #[.val (.int p1), .val (.int p2), .val (.int p3), .val (.int p4), .val (.int p5), .val (.int (5 : Int32)), .val (.ref b76), .unset, .unset] [(.int p4), (.int p3), (.int p2), (.int (0 : Int32)), (.int p5), (.int (0 : Int32)), (.ref b76)])) rfl (by rw [hml]; rfl) (argsL := [(.int p5), (.int (0 : Int32)), (.int p2), (.int p3), (.int p4)]) (rest := [(.int (0 : Int32)), (.ref b76)]) (lenOf pd_3 rfl) rfl rfl (by show 2 * 0 + _ ≤ _; exact Nat.le_of_eq rfl) (hb hby at_29) (by decide) (by decide)
    have N79 := Fr.app N0 N79q
    refine own_Fin.step st79 ?_
    show own_Fin p e below s _ _ _ (T79.setTop (mkF m 32 #[.val (.int p1), .val (.int p2), .val (.int p3), .val (.int p4), .val (.int p5), .val (.int (5 : Int32)), .val (.ref b76), .unset, .unset] [(.int z79), (.int (0 : Int32)), (.ref b76)]))
    obtain ⟨T80, h80, X80, e80, V80, W80, st80⟩ := own_stFB X79 hx hZ e79 Vf78 (j := (0 : Int32)) ⟨by decide, by decide⟩ (g := (mkF m 32 #[.val (.int p1), .val (.int p2), .val (.int p3), .val (.int p4), .val (.int p5), .val (.int (5 : Int32)), .val (.ref b76), .unset, .unset] [(.int z79), (.int (0 : Int32)), (.ref b76)])) rfl rfl (hb hby at_32)
    have N80 := Fr.snoc X80 N79 ge77
    have Z80 : n0 ≤ h80.size := Nat.le_trans Z76 (Nat.le_of_eq W80.size.symm)
    refine own_Fin.step st80 ?_
    show own_Fin p e below s _ _ _ (T80.setTop (mkF m 33 #[.val (.int p1), .val (.int p2), .val (.int p3), .val (.int p4), .val (.int p5), .val (.int (5 : Int32)), .val (.ref b76), .unset, .unset] []))
    refine own_Fin.step (fun _ => XS.iload X80.here hx rfl (hb hby at_33) rfl) ?_
    show own_Fin p e below s _ _ _ (T80.setTop (mkF m 35 #[.val (.int p1), .val (.int p2), .val (.int p3), .val (.int p4), .val (.int p5), .val (.int (5 : Int32)), .val (.ref b76), .unset, .unset] [(.int (5 : Int32))]))
    refine own_Fin.step (fun _ => XS.iconst X80.here hx rfl (hb hby at_35)) ?_
    show own_Fin p e below s _ _ _ (T80.setTop (mkF m 36 #[.val (.int p1), .val (.int p2), .val (.int p3), .val (.int p4), .val (.int p5), .val (.int (5 : Int32)), .val (.ref b76), .unset, .unset] [(.int (1 : Int32)), (.int (5 : Int32))]))
    refine own_Fin.step (fun _ => XS.icmpNo X80.here hx rfl (hb hby at_36) rfl (XT.ii_le_f (by decide : (1 : Int32) < (5 : Int32)))) ?_
    show own_Fin p e below s _ _ _ (T80.setTop (mkF m 39 #[.val (.int p1), .val (.int p2), .val (.int p3), .val (.int p4), .val (.int p5), .val (.int (5 : Int32)), .val (.ref b76), .unset, .unset] []))
    refine own_Fin.step (fun _ => XS.aload X80.here hx rfl (hb hby at_39) rfl rfl) ?_
    show own_Fin p e below s _ _ _ (T80.setTop (mkF m 41 #[.val (.int p1), .val (.int p2), .val (.int p3), .val (.int p4), .val (.int p5), .val (.int (5 : Int32)), .val (.ref b76), .unset, .unset] [(.ref b76)]))
    refine own_Fin.step (fun _ => XS.iconst X80.here hx rfl (hb hby at_41)) ?_
    show own_Fin p e below s _ _ _ (T80.setTop (mkF m 42 #[.val (.int p1), .val (.int p2), .val (.int p3), .val (.int p4), .val (.int p5), .val (.int (5 : Int32)), .val (.ref b76), .unset, .unset] [(.int (1 : Int32)), (.ref b76)]))
    refine own_Fin.step (fun _ => XS.iload X80.here hx rfl (hb hby at_42) rfl) ?_
    show own_Fin p e below s _ _ _ (T80.setTop (mkF m 44 #[.val (.int p1), .val (.int p2), .val (.int p3), .val (.int p4), .val (.int p5), .val (.int (5 : Int32)), .val (.ref b76), .unset, .unset] [(.int p5), (.int (1 : Int32)), (.ref b76)]))
    refine own_Fin.step (fun _ => XS.iconst X80.here hx rfl (hb hby at_44)) ?_
    show own_Fin p e below s _ _ _ (T80.setTop (mkF m 45 #[.val (.int p1), .val (.int p2), .val (.int p3), .val (.int p4), .val (.int p5), .val (.int (5 : Int32)), .val (.ref b76), .unset, .unset] [(.int (1 : Int32)), (.int p5), (.int (1 : Int32)), (.ref b76)]))
    refine own_Fin.step (fun _ => XS.iloadN X80.here hx rfl (hb hby at_45) rfl) ?_
    show own_Fin p e below s _ _ _ (T80.setTop (mkF m 46 #[.val (.int p1), .val (.int p2), .val (.int p3), .val (.int p4), .val (.int p5), .val (.int (5 : Int32)), .val (.ref b76), .unset, .unset] [(.int p2), (.int (1 : Int32)), (.int p5), (.int (1 : Int32)), (.ref b76)]))
    refine own_Fin.step (fun _ => XS.iloadN X80.here hx rfl (hb hby at_46) rfl) ?_
    show own_Fin p e below s _ _ _ (T80.setTop (mkF m 47 #[.val (.int p1), .val (.int p2), .val (.int p3), .val (.int p4), .val (.int p5), .val (.int (5 : Int32)), .val (.ref b76), .unset, .unset] [(.int p3), (.int p2), (.int (1 : Int32)), (.int p5), (.int (1 : Int32)), (.ref b76)]))
    refine own_Fin.step (fun _ => XS.iloadN X80.here hx rfl (hb hby at_47) rfl) ?_
    show own_Fin p e below s _ _ _ (T80.setTop (mkF m 48 #[.val (.int p1), .val (.int p2), .val (.int p3), .val (.int p4), .val (.int p5), .val (.int (5 : Int32)), .val (.ref b76), .unset, .unset] [(.int p4), (.int p3), (.int p2), (.int (1 : Int32)), (.int p5), (.int (1 : Int32)), (.ref b76)]))
    obtain ⟨_, T82, L82, X82, ⟨z82, rfl, N82q, e82⟩, st82⟩ := own_callS X80 hx hZ hown (own_w hw 7 rfl) (own_w hw 8 rfl) (own_w hw 9 rfl) (own_w hw 10 rfl) (by decide) (rm1 l Z a0 hw p5 (1 : Int32) p2 p3 p4 h80 n0 Z80) (by decide) (by decide) e80 (W := 2) (g := (mkF m 48 #[.val (.int p1), .val (.int p2), .val (.int p3), .val (.int p4), .val (.int p5), .val (.int (5 : Int32)), .val (.ref b76), .unset, .unset] [(.int p4), (.int p3), (.int p2), (.int (1 : Int32)), (.int p5), (.int (1 : Int32)), (.ref b76)])) rfl (by rw [hml]; rfl) (argsL := [(.int p5), (.int (1 : Int32)), (.int p2), (.int p3), (.int p4)]) (rest := [(.int (1 : Int32)), (.ref b76)]) (lenOf pd_3 rfl) rfl rfl (by show 2 * 0 + _ ≤ _; exact Nat.le_of_eq rfl) (hb hby at_48) (by decide) (by decide)
    have N82 := Fr.app N80 N82q
    refine own_Fin.step st82 ?_
    show own_Fin p e below s _ _ _ (T82.setTop (mkF m 51 #[.val (.int p1), .val (.int p2), .val (.int p3), .val (.int p4), .val (.int p5), .val (.int (5 : Int32)), .val (.ref b76), .unset, .unset] [(.int z82), (.int (1 : Int32)), (.ref b76)]))
    obtain ⟨T83, h83, X83, e83, V83, W83, st83⟩ := own_stFB X82 hx hZ e82 V80 (j := (1 : Int32)) ⟨by decide, by decide⟩ (g := (mkF m 51 #[.val (.int p1), .val (.int p2), .val (.int p3), .val (.int p4), .val (.int p5), .val (.int (5 : Int32)), .val (.ref b76), .unset, .unset] [(.int z82), (.int (1 : Int32)), (.ref b76)])) rfl rfl (hb hby at_51)
    have N83 := Fr.snoc X83 N82 ge77
    have Z83 : n0 ≤ h83.size := Nat.le_trans Z80 (Nat.le_of_eq W83.size.symm)
    refine own_Fin.step st83 ?_
    show own_Fin p e below s _ _ _ (T83.setTop (mkF m 52 #[.val (.int p1), .val (.int p2), .val (.int p3), .val (.int p4), .val (.int p5), .val (.int (5 : Int32)), .val (.ref b76), .unset, .unset] []))
    refine own_Fin.step (fun _ => XS.iload X83.here hx rfl (hb hby at_52) rfl) ?_
    show own_Fin p e below s _ _ _ (T83.setTop (mkF m 54 #[.val (.int p1), .val (.int p2), .val (.int p3), .val (.int p4), .val (.int p5), .val (.int (5 : Int32)), .val (.ref b76), .unset, .unset] [(.int (5 : Int32))]))
    refine own_Fin.step (fun _ => XS.iconst X83.here hx rfl (hb hby at_54)) ?_
    show own_Fin p e below s _ _ _ (T83.setTop (mkF m 55 #[.val (.int p1), .val (.int p2), .val (.int p3), .val (.int p4), .val (.int p5), .val (.int (5 : Int32)), .val (.ref b76), .unset, .unset] [(.int (2 : Int32)), (.int (5 : Int32))]))
    refine own_Fin.step (fun _ => XS.icmpNo X83.here hx rfl (hb hby at_55) rfl (XT.ii_le_f (by decide : (2 : Int32) < (5 : Int32)))) ?_
    show own_Fin p e below s _ _ _ (T83.setTop (mkF m 58 #[.val (.int p1), .val (.int p2), .val (.int p3), .val (.int p4), .val (.int p5), .val (.int (5 : Int32)), .val (.ref b76), .unset, .unset] []))
    refine own_Fin.step (fun _ => XS.aload X83.here hx rfl (hb hby at_58) rfl rfl) ?_
    show own_Fin p e below s _ _ _ (T83.setTop (mkF m 60 #[.val (.int p1), .val (.int p2), .val (.int p3), .val (.int p4), .val (.int p5), .val (.int (5 : Int32)), .val (.ref b76), .unset, .unset] [(.ref b76)]))
    refine own_Fin.step (fun _ => XS.iconst X83.here hx rfl (hb hby at_60)) ?_
    show own_Fin p e below s _ _ _ (T83.setTop (mkF m 61 #[.val (.int p1), .val (.int p2), .val (.int p3), .val (.int p4), .val (.int p5), .val (.int (5 : Int32)), .val (.ref b76), .unset, .unset] [(.int (2 : Int32)), (.ref b76)]))
    refine own_Fin.step (fun _ => XS.iload X83.here hx rfl (hb hby at_61) rfl) ?_
    show own_Fin p e below s _ _ _ (T83.setTop (mkF m 63 #[.val (.int p1), .val (.int p2), .val (.int p3), .val (.int p4), .val (.int p5), .val (.int (5 : Int32)), .val (.ref b76), .unset, .unset] [(.int p5), (.int (2 : Int32)), (.ref b76)]))
    refine own_Fin.step (fun _ => XS.iconst X83.here hx rfl (hb hby at_63)) ?_
    show own_Fin p e below s _ _ _ (T83.setTop (mkF m 64 #[.val (.int p1), .val (.int p2), .val (.int p3), .val (.int p4), .val (.int p5), .val (.int (5 : Int32)), .val (.ref b76), .unset, .unset] [(.int (2 : Int32)), (.int p5), (.int (2 : Int32)), (.ref b76)]))
    refine own_Fin.step (fun _ => XS.iloadN X83.here hx rfl (hb hby at_64) rfl) ?_
    show own_Fin p e below s _ _ _ (T83.setTop (mkF m 65 #[.val (.int p1), .val (.int p2), .val (.int p3), .val (.int p4), .val (.int p5), .val (.int (5 : Int32)), .val (.ref b76), .unset, .unset] [(.int p2), (.int (2 : Int32)), (.int p5), (.int (2 : Int32)), (.ref b76)]))
    refine own_Fin.step (fun _ => XS.iloadN X83.here hx rfl (hb hby at_65) rfl) ?_
    show own_Fin p e below s _ _ _ (T83.setTop (mkF m 66 #[.val (.int p1), .val (.int p2), .val (.int p3), .val (.int p4), .val (.int p5), .val (.int (5 : Int32)), .val (.ref b76), .unset, .unset] [(.int p3), (.int p2), (.int (2 : Int32)), (.int p5), (.int (2 : Int32)), (.ref b76)]))
    refine own_Fin.step (fun _ => XS.iloadN X83.here hx rfl (hb hby at_66) rfl) ?_
    show own_Fin p e below s _ _ _ (T83.setTop (mkF m 67 #[.val (.int p1), .val (.int p2), .val (.int p3), .val (.int p4), .val (.int p5), .val (.int (5 : Int32)), .val (.ref b76), .unset, .unset] [(.int p4), (.int p3), (.int p2), (.int (2 : Int32)), (.int p5), (.int (2 : Int32)), (.ref b76)]))
    obtain ⟨_, T85, L85, X85, ⟨z85, rfl, N85q, e85⟩, st85⟩ := own_callS X83 hx hZ hown (own_w hw 7 rfl) (own_w hw 8 rfl) (own_w hw 9 rfl) (own_w hw 10 rfl) (by decide) (rm1 l Z a0 hw p5 (2 : Int32) p2 p3 p4 h83 n0 Z83) (by decide) (by decide) e83 (W := 2) (g := (mkF m 67 #[.val (.int p1), .val (.int p2), .val (.int p3), .val (.int p4), .val (.int p5), .val (.int (5 : Int32)), .val (.ref b76), .unset, .unset] [(.int p4), (.int p3), (.int p2), (.int (2 : Int32)), (.int p5), (.int (2 : Int32)), (.ref b76)])) rfl (by rw [hml]; rfl) (argsL := [(.int p5), (.int (2 : Int32)), (.int p2), (.int p3), (.int p4)]) (rest := [(.int (2 : Int32)), (.ref b76)]) (lenOf pd_3 rfl) rfl rfl (by show 2 * 0 + _ ≤ _; exact Nat.le_of_eq rfl) (hb hby at_67) (by decide) (by decide)
    have N85 := Fr.app N83 N85q
    refine own_Fin.step st85 ?_
    show own_Fin p e below s _ _ _ (T85.setTop (mkF m 70 #[.val (.int p1), .val (.int p2), .val (.int p3), .val (.int p4), .val (.int p5), .val (.int (5 : Int32)), .val (.ref b76), .unset, .unset] [(.int z85), (.int (2 : Int32)), (.ref b76)]))
    obtain ⟨T86, h86, X86, e86, V86, W86, st86⟩ := own_stFB X85 hx hZ e85 V83 (j := (2 : Int32)) ⟨by decide, by decide⟩ (g := (mkF m 70 #[.val (.int p1), .val (.int p2), .val (.int p3), .val (.int p4), .val (.int p5), .val (.int (5 : Int32)), .val (.ref b76), .unset, .unset] [(.int z85), (.int (2 : Int32)), (.ref b76)])) rfl rfl (hb hby at_70)
    have N86 := Fr.snoc X86 N85 ge77
    have Z86 : n0 ≤ h86.size := Nat.le_trans Z83 (Nat.le_of_eq W86.size.symm)
    refine own_Fin.step st86 ?_
    show own_Fin p e below s _ _ _ (T86.setTop (mkF m 71 #[.val (.int p1), .val (.int p2), .val (.int p3), .val (.int p4), .val (.int p5), .val (.int (5 : Int32)), .val (.ref b76), .unset, .unset] []))
    refine own_Fin.step (fun _ => XS.iload X86.here hx rfl (hb hby at_71) rfl) ?_
    show own_Fin p e below s _ _ _ (T86.setTop (mkF m 73 #[.val (.int p1), .val (.int p2), .val (.int p3), .val (.int p4), .val (.int p5), .val (.int (5 : Int32)), .val (.ref b76), .unset, .unset] [(.int (5 : Int32))]))
    refine own_Fin.step (fun _ => XS.iconst X86.here hx rfl (hb hby at_73)) ?_
    show own_Fin p e below s _ _ _ (T86.setTop (mkF m 74 #[.val (.int p1), .val (.int p2), .val (.int p3), .val (.int p4), .val (.int p5), .val (.int (5 : Int32)), .val (.ref b76), .unset, .unset] [(.int (3 : Int32)), (.int (5 : Int32))]))
    refine own_Fin.step (fun _ => XS.icmpNo X86.here hx rfl (hb hby at_74) rfl (XT.ii_le_f (by decide : (3 : Int32) < (5 : Int32)))) ?_
    show own_Fin p e below s _ _ _ (T86.setTop (mkF m 77 #[.val (.int p1), .val (.int p2), .val (.int p3), .val (.int p4), .val (.int p5), .val (.int (5 : Int32)), .val (.ref b76), .unset, .unset] []))
    refine own_Fin.step (fun _ => XS.aload X86.here hx rfl (hb hby at_77) rfl rfl) ?_
    show own_Fin p e below s _ _ _ (T86.setTop (mkF m 79 #[.val (.int p1), .val (.int p2), .val (.int p3), .val (.int p4), .val (.int p5), .val (.int (5 : Int32)), .val (.ref b76), .unset, .unset] [(.ref b76)]))
    refine own_Fin.step (fun _ => XS.iconst X86.here hx rfl (hb hby at_79)) ?_
    show own_Fin p e below s _ _ _ (T86.setTop (mkF m 80 #[.val (.int p1), .val (.int p2), .val (.int p3), .val (.int p4), .val (.int p5), .val (.int (5 : Int32)), .val (.ref b76), .unset, .unset] [(.int (3 : Int32)), (.ref b76)]))
    refine own_Fin.step (fun _ => XS.iload X86.here hx rfl (hb hby at_80) rfl) ?_
    show own_Fin p e below s _ _ _ (T86.setTop (mkF m 82 #[.val (.int p1), .val (.int p2), .val (.int p3), .val (.int p4), .val (.int p5), .val (.int (5 : Int32)), .val (.ref b76), .unset, .unset] [(.int p5), (.int (3 : Int32)), (.ref b76)]))
    refine own_Fin.step (fun _ => XS.iconst X86.here hx rfl (hb hby at_82)) ?_
    show own_Fin p e below s _ _ _ (T86.setTop (mkF m 83 #[.val (.int p1), .val (.int p2), .val (.int p3), .val (.int p4), .val (.int p5), .val (.int (5 : Int32)), .val (.ref b76), .unset, .unset] [(.int (3 : Int32)), (.int p5), (.int (3 : Int32)), (.ref b76)]))
    refine own_Fin.step (fun _ => XS.iloadN X86.here hx rfl (hb hby at_83) rfl) ?_
    show own_Fin p e below s _ _ _ (T86.setTop (mkF m 84 #[.val (.int p1), .val (.int p2), .val (.int p3), .val (.int p4), .val (.int p5), .val (.int (5 : Int32)), .val (.ref b76), .unset, .unset] [(.int p2), (.int (3 : Int32)), (.int p5), (.int (3 : Int32)), (.ref b76)]))
    refine own_Fin.step (fun _ => XS.iloadN X86.here hx rfl (hb hby at_84) rfl) ?_
    show own_Fin p e below s _ _ _ (T86.setTop (mkF m 85 #[.val (.int p1), .val (.int p2), .val (.int p3), .val (.int p4), .val (.int p5), .val (.int (5 : Int32)), .val (.ref b76), .unset, .unset] [(.int p3), (.int p2), (.int (3 : Int32)), (.int p5), (.int (3 : Int32)), (.ref b76)]))
    refine own_Fin.step (fun _ => XS.iloadN X86.here hx rfl (hb hby at_85) rfl) ?_
    show own_Fin p e below s _ _ _ (T86.setTop (mkF m 86 #[.val (.int p1), .val (.int p2), .val (.int p3), .val (.int p4), .val (.int p5), .val (.int (5 : Int32)), .val (.ref b76), .unset, .unset] [(.int p4), (.int p3), (.int p2), (.int (3 : Int32)), (.int p5), (.int (3 : Int32)), (.ref b76)]))
    obtain ⟨_, T88, L88, X88, ⟨z88, rfl, N88q, e88⟩, st88⟩ := own_callS X86 hx hZ hown (own_w hw 7 rfl) (own_w hw 8 rfl) (own_w hw 9 rfl) (own_w hw 10 rfl) (by decide) (rm1 l Z a0 hw p5 (3 : Int32) p2 p3 p4 h86 n0 Z86) (by decide) (by decide) e86 (W := 2) (g := (mkF m 86 #[.val (.int p1), .val (.int p2), .val (.int p3), .val (.int p4), .val (.int p5), .val (.int (5 : Int32)), .val (.ref b76), .unset, .unset] [(.int p4), (.int p3), (.int p2), (.int (3 : Int32)), (.int p5), (.int (3 : Int32)), (.ref b76)])) rfl (by rw [hml]; rfl) (argsL := [(.int p5), (.int (3 : Int32)), (.int p2), (.int p3), (.int p4)]) (rest := [(.int (3 : Int32)), (.ref b76)]) (lenOf pd_3 rfl) rfl rfl (by show 2 * 0 + _ ≤ _; exact Nat.le_of_eq rfl) (hb hby at_86) (by decide) (by decide)
    have N88 := Fr.app N86 N88q
    refine own_Fin.step st88 ?_
    show own_Fin p e below s _ _ _ (T88.setTop (mkF m 89 #[.val (.int p1), .val (.int p2), .val (.int p3), .val (.int p4), .val (.int p5), .val (.int (5 : Int32)), .val (.ref b76), .unset, .unset] [(.int z88), (.int (3 : Int32)), (.ref b76)]))
    obtain ⟨T89, h89, X89, e89, V89, W89, st89⟩ := own_stFB X88 hx hZ e88 V86 (j := (3 : Int32)) ⟨by decide, by decide⟩ (g := (mkF m 89 #[.val (.int p1), .val (.int p2), .val (.int p3), .val (.int p4), .val (.int p5), .val (.int (5 : Int32)), .val (.ref b76), .unset, .unset] [(.int z88), (.int (3 : Int32)), (.ref b76)])) rfl rfl (hb hby at_89)
    have N89 := Fr.snoc X89 N88 ge77
    have Z89 : n0 ≤ h89.size := Nat.le_trans Z86 (Nat.le_of_eq W89.size.symm)
    refine own_Fin.step st89 ?_
    show own_Fin p e below s _ _ _ (T89.setTop (mkF m 90 #[.val (.int p1), .val (.int p2), .val (.int p3), .val (.int p4), .val (.int p5), .val (.int (5 : Int32)), .val (.ref b76), .unset, .unset] []))
    refine own_Fin.step (fun _ => XS.iload X89.here hx rfl (hb hby at_90) rfl) ?_
    show own_Fin p e below s _ _ _ (T89.setTop (mkF m 92 #[.val (.int p1), .val (.int p2), .val (.int p3), .val (.int p4), .val (.int p5), .val (.int (5 : Int32)), .val (.ref b76), .unset, .unset] [(.int (5 : Int32))]))
    refine own_Fin.step (fun _ => XS.iconst X89.here hx rfl (hb hby at_92)) ?_
    show own_Fin p e below s _ _ _ (T89.setTop (mkF m 93 #[.val (.int p1), .val (.int p2), .val (.int p3), .val (.int p4), .val (.int p5), .val (.int (5 : Int32)), .val (.ref b76), .unset, .unset] [(.int (4 : Int32)), (.int (5 : Int32))]))
    refine own_Fin.step (fun _ => XS.icmpNo X89.here hx rfl (hb hby at_93) rfl (XT.ii_le_f (by decide : (4 : Int32) < (5 : Int32)))) ?_
    show own_Fin p e below s _ _ _ (T89.setTop (mkF m 96 #[.val (.int p1), .val (.int p2), .val (.int p3), .val (.int p4), .val (.int p5), .val (.int (5 : Int32)), .val (.ref b76), .unset, .unset] []))
    refine own_Fin.step (fun _ => XS.aload X89.here hx rfl (hb hby at_96) rfl rfl) ?_
    show own_Fin p e below s _ _ _ (T89.setTop (mkF m 98 #[.val (.int p1), .val (.int p2), .val (.int p3), .val (.int p4), .val (.int p5), .val (.int (5 : Int32)), .val (.ref b76), .unset, .unset] [(.ref b76)]))
    refine own_Fin.step (fun _ => XS.iconst X89.here hx rfl (hb hby at_98)) ?_
    show own_Fin p e below s _ _ _ (T89.setTop (mkF m 99 #[.val (.int p1), .val (.int p2), .val (.int p3), .val (.int p4), .val (.int p5), .val (.int (5 : Int32)), .val (.ref b76), .unset, .unset] [(.int (4 : Int32)), (.ref b76)]))
    refine own_Fin.step (fun _ => XS.iload X89.here hx rfl (hb hby at_99) rfl) ?_
    show own_Fin p e below s _ _ _ (T89.setTop (mkF m 101 #[.val (.int p1), .val (.int p2), .val (.int p3), .val (.int p4), .val (.int p5), .val (.int (5 : Int32)), .val (.ref b76), .unset, .unset] [(.int p5), (.int (4 : Int32)), (.ref b76)]))
    refine own_Fin.step (fun _ => XS.iconst X89.here hx rfl (hb hby at_101)) ?_
    show own_Fin p e below s _ _ _ (T89.setTop (mkF m 102 #[.val (.int p1), .val (.int p2), .val (.int p3), .val (.int p4), .val (.int p5), .val (.int (5 : Int32)), .val (.ref b76), .unset, .unset] [(.int (4 : Int32)), (.int p5), (.int (4 : Int32)), (.ref b76)]))
    refine own_Fin.step (fun _ => XS.iloadN X89.here hx rfl (hb hby at_102) rfl) ?_
    show own_Fin p e below s _ _ _ (T89.setTop (mkF m 103 #[.val (.int p1), .val (.int p2), .val (.int p3), .val (.int p4), .val (.int p5), .val (.int (5 : Int32)), .val (.ref b76), .unset, .unset] [(.int p2), (.int (4 : Int32)), (.int p5), (.int (4 : Int32)), (.ref b76)]))
    refine own_Fin.step (fun _ => XS.iloadN X89.here hx rfl (hb hby at_103) rfl) ?_
    show own_Fin p e below s _ _ _ (T89.setTop (mkF m 104 #[.val (.int p1), .val (.int p2), .val (.int p3), .val (.int p4), .val (.int p5), .val (.int (5 : Int32)), .val (.ref b76), .unset, .unset] [(.int p3), (.int p2), (.int (4 : Int32)), (.int p5), (.int (4 : Int32)), (.ref b76)]))
    refine own_Fin.step (fun _ => XS.iloadN X89.here hx rfl (hb hby at_104) rfl) ?_
    show own_Fin p e below s _ _ _ (T89.setTop (mkF m 105 #[.val (.int p1), .val (.int p2), .val (.int p3), .val (.int p4), .val (.int p5), .val (.int (5 : Int32)), .val (.ref b76), .unset, .unset] [(.int p4), (.int p3), (.int p2), (.int (4 : Int32)), (.int p5), (.int (4 : Int32)), (.ref b76)]))
    obtain ⟨_, T91, L91, X91, ⟨z91, rfl, N91q, e91⟩, st91⟩ := own_callS X89 hx hZ hown (own_w hw 7 rfl) (own_w hw 8 rfl) (own_w hw 9 rfl) (own_w hw 10 rfl) (by decide) (rm1 l Z a0 hw p5 (4 : Int32) p2 p3 p4 h89 n0 Z89) (by decide) (by decide) e89 (W := 2) (g := (mkF m 105 #[.val (.int p1), .val (.int p2), .val (.int p3), .val (.int p4), .val (.int p5), .val (.int (5 : Int32)), .val (.ref b76), .unset, .unset] [(.int p4), (.int p3), (.int p2), (.int (4 : Int32)), (.int p5), (.int (4 : Int32)), (.ref b76)])) rfl (by rw [hml]; rfl) (argsL := [(.int p5), (.int (4 : Int32)), (.int p2), (.int p3), (.int p4)]) (rest := [(.int (4 : Int32)), (.ref b76)]) (lenOf pd_3 rfl) rfl rfl (by show 2 * 0 + _ ≤ _; exact Nat.le_of_eq rfl) (hb hby at_105) (by decide) (by decide)
    have N91 := Fr.app N89 N91q
    refine own_Fin.step st91 ?_
    show own_Fin p e below s _ _ _ (T91.setTop (mkF m 108 #[.val (.int p1), .val (.int p2), .val (.int p3), .val (.int p4), .val (.int p5), .val (.int (5 : Int32)), .val (.ref b76), .unset, .unset] [(.int z91), (.int (4 : Int32)), (.ref b76)]))
    obtain ⟨T92, h92, X92, e92, V92, W92, st92⟩ := own_stFB X91 hx hZ e91 V89 (j := (4 : Int32)) ⟨by decide, by decide⟩ (g := (mkF m 108 #[.val (.int p1), .val (.int p2), .val (.int p3), .val (.int p4), .val (.int p5), .val (.int (5 : Int32)), .val (.ref b76), .unset, .unset] [(.int z91), (.int (4 : Int32)), (.ref b76)])) rfl rfl (hb hby at_108)
    have N92 := Fr.snoc X92 N91 ge77
    have Z92 : n0 ≤ h92.size := Nat.le_trans Z89 (Nat.le_of_eq W92.size.symm)
    refine own_Fin.step st92 ?_
    show own_Fin p e below s _ _ _ (T92.setTop (mkF m 109 #[.val (.int p1), .val (.int p2), .val (.int p3), .val (.int p4), .val (.int p5), .val (.int (5 : Int32)), .val (.ref b76), .unset, .unset] []))
    refine own_Fin.step (fun _ => XS.iload X92.here hx rfl (hb hby at_109) rfl) ?_
    show own_Fin p e below s _ _ _ (T92.setTop (mkF m 111 #[.val (.int p1), .val (.int p2), .val (.int p3), .val (.int p4), .val (.int p5), .val (.int (5 : Int32)), .val (.ref b76), .unset, .unset] [(.int (5 : Int32))]))
    refine own_Fin.step (fun _ => XS.iconst X92.here hx rfl (hb hby at_111)) ?_
    show own_Fin p e below s _ _ _ (T92.setTop (mkF m 112 #[.val (.int p1), .val (.int p2), .val (.int p3), .val (.int p4), .val (.int p5), .val (.int (5 : Int32)), .val (.ref b76), .unset, .unset] [(.int (5 : Int32)), (.int (5 : Int32))]))
    refine own_Fin.step (fun _ => XS.icmpYes X92.here hx rfl (pc0 := 112) (pc' := 128) rfl (hb hby at_112) rfl (XT.ii_le_t (by decide : ¬ ((5 : Int32) < (5 : Int32)))) (by decide) (by decide)) ?_
    show own_Fin p e below s _ _ _ (T92.setTop (mkF m 128 #[.val (.int p1), .val (.int p2), .val (.int p3), .val (.int p4), .val (.int p5), .val (.int (5 : Int32)), .val (.ref b76), .unset, .unset] []))
    obtain ⟨f, hf⟩ : ∃ z : Nat → Int32, z = (own_upd (own_upd (own_upd (own_upd (own_upd (fun _ => (0 : Int32)) ((0 : Int32)).toNatClampNeg (nar .byte z79)) ((1 : Int32)).toNatClampNeg (nar .byte z82)) ((2 : Int32)).toNatClampNeg (nar .byte z85)) ((3 : Int32)).toNatClampNeg (nar .byte z88)) ((4 : Int32)).toNatClampNeg (nar .byte z91)) := ⟨_, rfl⟩
    rw [← hf] at V92
    refine own_Fin.step (fun _ => XS.aload X92.here hx rfl (hb hby at_128) rfl rfl) ?_
    show own_Fin p e below s _ _ _ (T92.setTop (mkF m 130 #[.val (.int p1), .val (.int p2), .val (.int p3), .val (.int p4), .val (.int p5), .val (.int (5 : Int32)), .val (.ref b76), .unset, .unset] [(.ref b76)]))
    obtain ⟨_, T94, L94, X94, ⟨r94, kt94, gt94, rfl, N94q, K94, sz94, V94, hT94⟩, st94⟩ := own_callS X92 hx hZ hown (own_w hw 2 rfl) (own_w hw 3 rfl) (own_w hw 4 rfl) (own_w hw 5 rfl) (by decide) (rm5 l Z a0 hw b76 k76 (5 : Int32) f h92 n0 Z92 V92 (by decide)) (by decide) (by decide) e92 (W := 0) (g := (mkF m 130 #[.val (.int p1), .val (.int p2), .val (.int p3), .val (.int p4), .val (.int p5), .val (.int (5 : Int32)), .val (.ref b76), .unset, .unset] [(.ref b76)])) rfl (by rw [hml]; rfl) (argsL := [(.ref b76)]) (rest := []) (lenOf pd_2 rfl) rfl rfl (by show 2 * 0 + _ ≤ _; exact Nat.le_of_eq rfl) (hb hby at_130) (by decide) (by decide)
    have N94 := Fr.app N92 N94q
    have ne95 : b76 ≠ r94 := Nat.ne_of_lt (Nat.lt_of_lt_of_le V92.lt sz94)
    have ge96 : n0 ≤ r94 := Nat.le_trans Z92 sz94
    have f97 := V92.keep K94 nin0
    have Z94 : n0 ≤ T94.heap.size := Nat.le_trans Z92 K94.1
    refine own_Fin.step st94 ?_
    show own_Fin p e below s _ _ _ (T94.setTop (mkF m 133 #[.val (.int p1), .val (.int p2), .val (.int p3), .val (.int p4), .val (.int p5), .val (.int (5 : Int32)), .val (.ref b76), .unset, .unset] [(.ref r94)]))
    refine own_Fin.step (fun _ => XS.astore X94.here hx rfl (hb hby at_133) rfl rfl (l' := #[.val (.int p1), .val (.int p2), .val (.int p3), .val (.int p4), .val (.int p5), .val (.int (5 : Int32)), .val (.ref b76), .val (.ref r94), .unset]) rfl) ?_
    show own_Fin p e below s _ _ _ (T94.setTop (mkF m 135 #[.val (.int p1), .val (.int p2), .val (.int p3), .val (.int p4), .val (.int p5), .val (.int (5 : Int32)), .val (.ref b76), .val (.ref r94), .unset] []))
    refine own_Fin.step (fun _ => XS.aload X94.here hx rfl (hb hby at_135) rfl rfl) ?_
    show own_Fin p e below s _ _ _ (T94.setTop (mkF m 137 #[.val (.int p1), .val (.int p2), .val (.int p3), .val (.int p4), .val (.int p5), .val (.int (5 : Int32)), .val (.ref b76), .val (.ref r94), .unset] [(.ref r94)]))
    refine own_Fin.step (fun _ => XS.ifnullNo X94.here hx rfl (hb hby at_137) rfl) ?_
    show own_Fin p e below s _ _ _ (T94.setTop (mkF m 140 #[.val (.int p1), .val (.int p2), .val (.int p3), .val (.int p4), .val (.int p5), .val (.int (5 : Int32)), .val (.ref b76), .val (.ref r94), .unset] []))
    refine own_Fin.step (fun _ => XS.aload X94.here hx rfl (hb hby at_140) rfl rfl) ?_
    show own_Fin p e below s _ _ _ (T94.setTop (mkF m 142 #[.val (.int p1), .val (.int p2), .val (.int p3), .val (.int p4), .val (.int p5), .val (.int (5 : Int32)), .val (.ref b76), .val (.ref r94), .unset] [(.ref r94)]))
    refine own_Fin.step (own_lenF X94 hx hZ rfl V94 (g := (mkF m 142 #[.val (.int p1), .val (.int p2), .val (.int p3), .val (.int p4), .val (.int p5), .val (.int (5 : Int32)), .val (.ref b76), .val (.ref r94), .unset] [(.ref r94)])) rfl rfl (hb hby at_142)) ?_
    show own_Fin p e below s _ _ _ (T94.setTop (mkF m 143 #[.val (.int p1), .val (.int p2), .val (.int p3), .val (.int p4), .val (.int p5), .val (.int (5 : Int32)), .val (.ref b76), .val (.ref r94), .unset] [(.int (5 : Int32))]))
    refine own_Fin.step (fun _ => XS.iload X94.here hx rfl (hb hby at_143) rfl) ?_
    show own_Fin p e below s _ _ _ (T94.setTop (mkF m 145 #[.val (.int p1), .val (.int p2), .val (.int p3), .val (.int p4), .val (.int p5), .val (.int (5 : Int32)), .val (.ref b76), .val (.ref r94), .unset] [(.int (5 : Int32)), (.int (5 : Int32))]))
    refine own_Fin.step (fun _ => XS.icmpYes X94.here hx rfl (pc0 := 145) (pc' := 150) rfl (hb hby at_145) rfl (XT.ii_eq_t (by decide : (5 : Int32) = (5 : Int32))) (by decide) (by decide)) ?_
    show own_Fin p e below s _ _ _ (T94.setTop (mkF m 150 #[.val (.int p1), .val (.int p2), .val (.int p3), .val (.int p4), .val (.int p5), .val (.int (5 : Int32)), .val (.ref b76), .val (.ref r94), .unset] []))
    refine own_Fin.step (fun _ => XS.iconst X94.here hx rfl (hb hby at_150)) ?_
    show own_Fin p e below s _ _ _ (T94.setTop (mkF m 151 #[.val (.int p1), .val (.int p2), .val (.int p3), .val (.int p4), .val (.int p5), .val (.int (5 : Int32)), .val (.ref b76), .val (.ref r94), .unset] [(.int (1 : Int32))]))
    refine own_Fin.step (fun _ => XS.istore X94.here hx rfl (hb hby at_151) rfl (l' := #[.val (.int p1), .val (.int p2), .val (.int p3), .val (.int p4), .val (.int p5), .val (.int (5 : Int32)), .val (.ref b76), .val (.ref r94), .val (.int (1 : Int32))]) rfl) ?_
    show own_Fin p e below s _ _ _ (T94.setTop (mkF m 153 #[.val (.int p1), .val (.int p2), .val (.int p3), .val (.int p4), .val (.int p5), .val (.int (5 : Int32)), .val (.ref b76), .val (.ref r94), .val (.int (1 : Int32))] []))
    refine own_Fin.step (fun _ => XS.iload X94.here hx rfl (hb hby at_153) rfl) ?_
    show own_Fin p e below s _ _ _ (T94.setTop (mkF m 155 #[.val (.int p1), .val (.int p2), .val (.int p3), .val (.int p4), .val (.int p5), .val (.int (5 : Int32)), .val (.ref b76), .val (.ref r94), .val (.int (1 : Int32))] [(.int (1 : Int32))]))
    refine own_Fin.step (fun _ => XS.ifNo X94.here hx rfl (hb hby at_155) rfl (XT.i0_eq_f (by decide : ¬ ((1 : Int32) = (0 : Int32))))) ?_
    show own_Fin p e below s _ _ _ (T94.setTop (mkF m 158 #[.val (.int p1), .val (.int p2), .val (.int p3), .val (.int p4), .val (.int p5), .val (.int (5 : Int32)), .val (.ref b76), .val (.ref r94), .val (.int (1 : Int32))] []))
    refine own_Fin.step (fun _ => XS.iload X94.here hx rfl (hb hby at_158) rfl) ?_
    show own_Fin p e below s _ _ _ (T94.setTop (mkF m 160 #[.val (.int p1), .val (.int p2), .val (.int p3), .val (.int p4), .val (.int p5), .val (.int (5 : Int32)), .val (.ref b76), .val (.ref r94), .val (.int (1 : Int32))] [(.int (5 : Int32))]))
    refine own_Fin.step (fun _ => XS.ifNo X94.here hx rfl (hb hby at_160) rfl (XT.i0_le_f (by decide : (0 : Int32) < (5 : Int32)))) ?_
    show own_Fin p e below s _ _ _ (T94.setTop (mkF m 163 #[.val (.int p1), .val (.int p2), .val (.int p3), .val (.int p4), .val (.int p5), .val (.int (5 : Int32)), .val (.ref b76), .val (.ref r94), .val (.int (1 : Int32))] []))
    refine own_Fin.step (fun _ => XS.aload X94.here hx rfl (hb hby at_163) rfl rfl) ?_
    show own_Fin p e below s _ _ _ (T94.setTop (mkF m 165 #[.val (.int p1), .val (.int p2), .val (.int p3), .val (.int p4), .val (.int p5), .val (.int (5 : Int32)), .val (.ref b76), .val (.ref r94), .val (.int (1 : Int32))] [(.ref r94)]))
    refine own_Fin.step (fun _ => XS.iconst X94.here hx rfl (hb hby at_165)) ?_
    show own_Fin p e below s _ _ _ (T94.setTop (mkF m 166 #[.val (.int p1), .val (.int p2), .val (.int p3), .val (.int p4), .val (.int p5), .val (.int (5 : Int32)), .val (.ref b76), .val (.ref r94), .val (.int (1 : Int32))] [(.int (0 : Int32)), (.ref r94)]))
    refine own_Fin.step (own_ldFI X94 hx hZ rfl V94 (j := (0 : Int32)) ⟨by decide, by decide⟩ (g := (mkF m 166 #[.val (.int p1), .val (.int p2), .val (.int p3), .val (.int p4), .val (.int p5), .val (.int (5 : Int32)), .val (.ref b76), .val (.ref r94), .val (.int (1 : Int32))] [(.int (0 : Int32)), (.ref r94)])) rfl rfl (hb hby at_166)) ?_
    show own_Fin p e below s _ _ _ (T94.setTop (mkF m 167 #[.val (.int p1), .val (.int p2), .val (.int p3), .val (.int p4), .val (.int p5), .val (.int (5 : Int32)), .val (.ref b76), .val (.ref r94), .val (.int (1 : Int32))] [(.int (gt94 ((0 : Int32)).toNatClampNeg))]))
    refine own_Fin.step (fun _ => XS.aload X94.here hx rfl (hb hby at_167) rfl rfl) ?_
    show own_Fin p e below s _ _ _ (T94.setTop (mkF m 169 #[.val (.int p1), .val (.int p2), .val (.int p3), .val (.int p4), .val (.int p5), .val (.int (5 : Int32)), .val (.ref b76), .val (.ref r94), .val (.int (1 : Int32))] [(.ref b76), (.int (gt94 ((0 : Int32)).toNatClampNeg))]))
    refine own_Fin.step (fun _ => XS.iconst X94.here hx rfl (hb hby at_169)) ?_
    show own_Fin p e below s _ _ _ (T94.setTop (mkF m 170 #[.val (.int p1), .val (.int p2), .val (.int p3), .val (.int p4), .val (.int p5), .val (.int (5 : Int32)), .val (.ref b76), .val (.ref r94), .val (.int (1 : Int32))] [(.int (0 : Int32)), (.ref b76), (.int (gt94 ((0 : Int32)).toNatClampNeg))]))
    obtain ⟨_, T98, L98, X98, ⟨z98, rfl, N98q, e98, hz98⟩, st98⟩ := own_callS X94 hx hZ hown (own_w hw 14 rfl) (own_w hw 15 rfl) (own_w hw 9 rfl) (own_w hw 16 rfl) (by decide) (rm3b0 l Z a0 hw b76 k76 (5 : Int32) f T94.heap n0 Z94 f97 (by decide)) (by decide) (by decide) rfl (W := 1) (g := (mkF m 170 #[.val (.int p1), .val (.int p2), .val (.int p3), .val (.int p4), .val (.int p5), .val (.int (5 : Int32)), .val (.ref b76), .val (.ref r94), .val (.int (1 : Int32))] [(.int (0 : Int32)), (.ref b76), (.int (gt94 ((0 : Int32)).toNatClampNeg))])) rfl (by rw [hml]; rfl) (argsL := [(.ref b76), (.int (0 : Int32))]) (rest := [(.int (gt94 ((0 : Int32)).toNatClampNeg))]) (lenOf pd_4 rfl) rfl rfl (by show 2 * 0 + _ ≤ _; exact Nat.le_of_eq rfl) (hb hby at_170) (by decide) (by decide)
    have N98 := Fr.app N94 N98q
    refine own_Fin.step st98 ?_
    show own_Fin p e below s _ _ _ (T98.setTop (mkF m 173 #[.val (.int p1), .val (.int p2), .val (.int p3), .val (.int p4), .val (.int p5), .val (.int (5 : Int32)), .val (.ref b76), .val (.ref r94), .val (.int (1 : Int32))] [(.int z98), (.int (gt94 ((0 : Int32)).toNatClampNeg))]))
    refine own_Fin.step (fun _ => XS.icmpNo X98.here hx rfl (hb hby at_173) rfl (XT.ii_ne_f (own_uniq (hT94 0 (by decide)) hz98))) ?_
    show own_Fin p e below s _ _ _ (T98.setTop (mkF m 176 #[.val (.int p1), .val (.int p2), .val (.int p3), .val (.int p4), .val (.int p5), .val (.int (5 : Int32)), .val (.ref b76), .val (.ref r94), .val (.int (1 : Int32))] []))
    refine own_Fin.step (fun _ => XS.iconst X98.here hx rfl (hb hby at_176)) ?_
    show own_Fin p e below s _ _ _ (T98.setTop (mkF m 177 #[.val (.int p1), .val (.int p2), .val (.int p3), .val (.int p4), .val (.int p5), .val (.int (5 : Int32)), .val (.ref b76), .val (.ref r94), .val (.int (1 : Int32))] [(.int (1 : Int32))]))
    refine own_Fin.step (fun _ => XS.goto X98.here hx rfl (pc0 := 177) (pc' := 181) rfl (hb hby at_177) (by decide) (by decide)) ?_
    show own_Fin p e below s _ _ _ (T98.setTop (mkF m 181 #[.val (.int p1), .val (.int p2), .val (.int p3), .val (.int p4), .val (.int p5), .val (.int (5 : Int32)), .val (.ref b76), .val (.ref r94), .val (.int (1 : Int32))] [(.int (1 : Int32))]))
    refine own_Fin.step (fun _ => XS.istore X98.here hx rfl (hb hby at_181) rfl (l' := #[.val (.int p1), .val (.int p2), .val (.int p3), .val (.int p4), .val (.int p5), .val (.int (5 : Int32)), .val (.ref b76), .val (.ref r94), .val (.int (1 : Int32))]) rfl) ?_
    show own_Fin p e below s _ _ _ (T98.setTop (mkF m 183 #[.val (.int p1), .val (.int p2), .val (.int p3), .val (.int p4), .val (.int p5), .val (.int (5 : Int32)), .val (.ref b76), .val (.ref r94), .val (.int (1 : Int32))] []))
    refine own_Fin.step (fun _ => XS.iload X98.here hx rfl (hb hby at_183) rfl) ?_
    show own_Fin p e below s _ _ _ (T98.setTop (mkF m 185 #[.val (.int p1), .val (.int p2), .val (.int p3), .val (.int p4), .val (.int p5), .val (.int (5 : Int32)), .val (.ref b76), .val (.ref r94), .val (.int (1 : Int32))] [(.int (1 : Int32))]))
    refine own_Fin.step (fun _ => XS.ifNo X98.here hx rfl (hb hby at_185) rfl (XT.i0_eq_f (by decide : ¬ ((1 : Int32) = (0 : Int32))))) ?_
    show own_Fin p e below s _ _ _ (T98.setTop (mkF m 188 #[.val (.int p1), .val (.int p2), .val (.int p3), .val (.int p4), .val (.int p5), .val (.int (5 : Int32)), .val (.ref b76), .val (.ref r94), .val (.int (1 : Int32))] []))
    refine own_Fin.step (fun _ => XS.iload X98.here hx rfl (hb hby at_188) rfl) ?_
    show own_Fin p e below s _ _ _ (T98.setTop (mkF m 190 #[.val (.int p1), .val (.int p2), .val (.int p3), .val (.int p4), .val (.int p5), .val (.int (5 : Int32)), .val (.ref b76), .val (.ref r94), .val (.int (1 : Int32))] [(.int (5 : Int32))]))
    refine own_Fin.step (fun _ => XS.iconst X98.here hx rfl (hb hby at_190)) ?_
    show own_Fin p e below s _ _ _ (T98.setTop (mkF m 191 #[.val (.int p1), .val (.int p2), .val (.int p3), .val (.int p4), .val (.int p5), .val (.int (5 : Int32)), .val (.ref b76), .val (.ref r94), .val (.int (1 : Int32))] [(.int (1 : Int32)), (.int (5 : Int32))]))
    refine own_Fin.step (fun _ => XS.icmpNo X98.here hx rfl (hb hby at_191) rfl (XT.ii_le_f (by decide : (1 : Int32) < (5 : Int32)))) ?_
    show own_Fin p e below s _ _ _ (T98.setTop (mkF m 194 #[.val (.int p1), .val (.int p2), .val (.int p3), .val (.int p4), .val (.int p5), .val (.int (5 : Int32)), .val (.ref b76), .val (.ref r94), .val (.int (1 : Int32))] []))
    refine own_Fin.step (fun _ => XS.aload X98.here hx rfl (hb hby at_194) rfl rfl) ?_
    show own_Fin p e below s _ _ _ (T98.setTop (mkF m 196 #[.val (.int p1), .val (.int p2), .val (.int p3), .val (.int p4), .val (.int p5), .val (.int (5 : Int32)), .val (.ref b76), .val (.ref r94), .val (.int (1 : Int32))] [(.ref r94)]))
    refine own_Fin.step (fun _ => XS.iconst X98.here hx rfl (hb hby at_196)) ?_
    show own_Fin p e below s _ _ _ (T98.setTop (mkF m 197 #[.val (.int p1), .val (.int p2), .val (.int p3), .val (.int p4), .val (.int p5), .val (.int (5 : Int32)), .val (.ref b76), .val (.ref r94), .val (.int (1 : Int32))] [(.int (1 : Int32)), (.ref r94)]))
    refine own_Fin.step (own_ldFI X98 hx hZ e98 V94 (j := (1 : Int32)) ⟨by decide, by decide⟩ (g := (mkF m 197 #[.val (.int p1), .val (.int p2), .val (.int p3), .val (.int p4), .val (.int p5), .val (.int (5 : Int32)), .val (.ref b76), .val (.ref r94), .val (.int (1 : Int32))] [(.int (1 : Int32)), (.ref r94)])) rfl rfl (hb hby at_197)) ?_
    show own_Fin p e below s _ _ _ (T98.setTop (mkF m 198 #[.val (.int p1), .val (.int p2), .val (.int p3), .val (.int p4), .val (.int p5), .val (.int (5 : Int32)), .val (.ref b76), .val (.ref r94), .val (.int (1 : Int32))] [(.int (gt94 ((1 : Int32)).toNatClampNeg))]))
    refine own_Fin.step (fun _ => XS.aload X98.here hx rfl (hb hby at_198) rfl rfl) ?_
    show own_Fin p e below s _ _ _ (T98.setTop (mkF m 200 #[.val (.int p1), .val (.int p2), .val (.int p3), .val (.int p4), .val (.int p5), .val (.int (5 : Int32)), .val (.ref b76), .val (.ref r94), .val (.int (1 : Int32))] [(.ref b76), (.int (gt94 ((1 : Int32)).toNatClampNeg))]))
    refine own_Fin.step (fun _ => XS.iconst X98.here hx rfl (hb hby at_200)) ?_
    show own_Fin p e below s _ _ _ (T98.setTop (mkF m 201 #[.val (.int p1), .val (.int p2), .val (.int p3), .val (.int p4), .val (.int p5), .val (.int (5 : Int32)), .val (.ref b76), .val (.ref r94), .val (.int (1 : Int32))] [(.int (1 : Int32)), (.ref b76), (.int (gt94 ((1 : Int32)).toNatClampNeg))]))
    obtain ⟨_, T99, L99, X99, ⟨z99, rfl, N99q, e99, hz99⟩, st99⟩ := own_callS X98 hx hZ hown (own_w hw 14 rfl) (own_w hw 15 rfl) (own_w hw 9 rfl) (own_w hw 16 rfl) (by decide) (rm3b1 l Z a0 hw b76 k76 (5 : Int32) f T94.heap n0 Z94 f97 (by decide)) (by decide) (by decide) e98 (W := 1) (g := (mkF m 201 #[.val (.int p1), .val (.int p2), .val (.int p3), .val (.int p4), .val (.int p5), .val (.int (5 : Int32)), .val (.ref b76), .val (.ref r94), .val (.int (1 : Int32))] [(.int (1 : Int32)), (.ref b76), (.int (gt94 ((1 : Int32)).toNatClampNeg))])) rfl (by rw [hml]; rfl) (argsL := [(.ref b76), (.int (1 : Int32))]) (rest := [(.int (gt94 ((1 : Int32)).toNatClampNeg))]) (lenOf pd_4 rfl) rfl rfl (by show 2 * 0 + _ ≤ _; exact Nat.le_of_eq rfl) (hb hby at_201) (by decide) (by decide)
    have N99 := Fr.app N98 N99q
    refine own_Fin.step st99 ?_
    show own_Fin p e below s _ _ _ (T99.setTop (mkF m 204 #[.val (.int p1), .val (.int p2), .val (.int p3), .val (.int p4), .val (.int p5), .val (.int (5 : Int32)), .val (.ref b76), .val (.ref r94), .val (.int (1 : Int32))] [(.int z99), (.int (gt94 ((1 : Int32)).toNatClampNeg))]))
    refine own_Fin.step (fun _ => XS.icmpNo X99.here hx rfl (hb hby at_204) rfl (XT.ii_ne_f (own_uniq (hT94 1 (by decide)) hz99))) ?_
    show own_Fin p e below s _ _ _ (T99.setTop (mkF m 207 #[.val (.int p1), .val (.int p2), .val (.int p3), .val (.int p4), .val (.int p5), .val (.int (5 : Int32)), .val (.ref b76), .val (.ref r94), .val (.int (1 : Int32))] []))
    refine own_Fin.step (fun _ => XS.iconst X99.here hx rfl (hb hby at_207)) ?_
    show own_Fin p e below s _ _ _ (T99.setTop (mkF m 208 #[.val (.int p1), .val (.int p2), .val (.int p3), .val (.int p4), .val (.int p5), .val (.int (5 : Int32)), .val (.ref b76), .val (.ref r94), .val (.int (1 : Int32))] [(.int (1 : Int32))]))
    refine own_Fin.step (fun _ => XS.goto X99.here hx rfl (pc0 := 208) (pc' := 212) rfl (hb hby at_208) (by decide) (by decide)) ?_
    show own_Fin p e below s _ _ _ (T99.setTop (mkF m 212 #[.val (.int p1), .val (.int p2), .val (.int p3), .val (.int p4), .val (.int p5), .val (.int (5 : Int32)), .val (.ref b76), .val (.ref r94), .val (.int (1 : Int32))] [(.int (1 : Int32))]))
    refine own_Fin.step (fun _ => XS.istore X99.here hx rfl (hb hby at_212) rfl (l' := #[.val (.int p1), .val (.int p2), .val (.int p3), .val (.int p4), .val (.int p5), .val (.int (5 : Int32)), .val (.ref b76), .val (.ref r94), .val (.int (1 : Int32))]) rfl) ?_
    show own_Fin p e below s _ _ _ (T99.setTop (mkF m 214 #[.val (.int p1), .val (.int p2), .val (.int p3), .val (.int p4), .val (.int p5), .val (.int (5 : Int32)), .val (.ref b76), .val (.ref r94), .val (.int (1 : Int32))] []))
    refine own_Fin.step (fun _ => XS.iload X99.here hx rfl (hb hby at_214) rfl) ?_
    show own_Fin p e below s _ _ _ (T99.setTop (mkF m 216 #[.val (.int p1), .val (.int p2), .val (.int p3), .val (.int p4), .val (.int p5), .val (.int (5 : Int32)), .val (.ref b76), .val (.ref r94), .val (.int (1 : Int32))] [(.int (1 : Int32))]))
    refine own_Fin.step (fun _ => XS.ifNo X99.here hx rfl (hb hby at_216) rfl (XT.i0_eq_f (by decide : ¬ ((1 : Int32) = (0 : Int32))))) ?_
    show own_Fin p e below s _ _ _ (T99.setTop (mkF m 219 #[.val (.int p1), .val (.int p2), .val (.int p3), .val (.int p4), .val (.int p5), .val (.int (5 : Int32)), .val (.ref b76), .val (.ref r94), .val (.int (1 : Int32))] []))
    refine own_Fin.step (fun _ => XS.iload X99.here hx rfl (hb hby at_219) rfl) ?_
    show own_Fin p e below s _ _ _ (T99.setTop (mkF m 221 #[.val (.int p1), .val (.int p2), .val (.int p3), .val (.int p4), .val (.int p5), .val (.int (5 : Int32)), .val (.ref b76), .val (.ref r94), .val (.int (1 : Int32))] [(.int (5 : Int32))]))
    refine own_Fin.step (fun _ => XS.iconst X99.here hx rfl (hb hby at_221)) ?_
    show own_Fin p e below s _ _ _ (T99.setTop (mkF m 222 #[.val (.int p1), .val (.int p2), .val (.int p3), .val (.int p4), .val (.int p5), .val (.int (5 : Int32)), .val (.ref b76), .val (.ref r94), .val (.int (1 : Int32))] [(.int (2 : Int32)), (.int (5 : Int32))]))
    refine own_Fin.step (fun _ => XS.icmpNo X99.here hx rfl (hb hby at_222) rfl (XT.ii_le_f (by decide : (2 : Int32) < (5 : Int32)))) ?_
    show own_Fin p e below s _ _ _ (T99.setTop (mkF m 225 #[.val (.int p1), .val (.int p2), .val (.int p3), .val (.int p4), .val (.int p5), .val (.int (5 : Int32)), .val (.ref b76), .val (.ref r94), .val (.int (1 : Int32))] []))
    refine own_Fin.step (fun _ => XS.aload X99.here hx rfl (hb hby at_225) rfl rfl) ?_
    show own_Fin p e below s _ _ _ (T99.setTop (mkF m 227 #[.val (.int p1), .val (.int p2), .val (.int p3), .val (.int p4), .val (.int p5), .val (.int (5 : Int32)), .val (.ref b76), .val (.ref r94), .val (.int (1 : Int32))] [(.ref r94)]))
    refine own_Fin.step (fun _ => XS.iconst X99.here hx rfl (hb hby at_227)) ?_
    show own_Fin p e below s _ _ _ (T99.setTop (mkF m 228 #[.val (.int p1), .val (.int p2), .val (.int p3), .val (.int p4), .val (.int p5), .val (.int (5 : Int32)), .val (.ref b76), .val (.ref r94), .val (.int (1 : Int32))] [(.int (2 : Int32)), (.ref r94)]))
    refine own_Fin.step (own_ldFI X99 hx hZ e99 V94 (j := (2 : Int32)) ⟨by decide, by decide⟩ (g := (mkF m 228 #[.val (.int p1), .val (.int p2), .val (.int p3), .val (.int p4), .val (.int p5), .val (.int (5 : Int32)), .val (.ref b76), .val (.ref r94), .val (.int (1 : Int32))] [(.int (2 : Int32)), (.ref r94)])) rfl rfl (hb hby at_228)) ?_
    show own_Fin p e below s _ _ _ (T99.setTop (mkF m 229 #[.val (.int p1), .val (.int p2), .val (.int p3), .val (.int p4), .val (.int p5), .val (.int (5 : Int32)), .val (.ref b76), .val (.ref r94), .val (.int (1 : Int32))] [(.int (gt94 ((2 : Int32)).toNatClampNeg))]))
    refine own_Fin.step (fun _ => XS.aload X99.here hx rfl (hb hby at_229) rfl rfl) ?_
    show own_Fin p e below s _ _ _ (T99.setTop (mkF m 231 #[.val (.int p1), .val (.int p2), .val (.int p3), .val (.int p4), .val (.int p5), .val (.int (5 : Int32)), .val (.ref b76), .val (.ref r94), .val (.int (1 : Int32))] [(.ref b76), (.int (gt94 ((2 : Int32)).toNatClampNeg))]))
    refine own_Fin.step (fun _ => XS.iconst X99.here hx rfl (hb hby at_231)) ?_
    show own_Fin p e below s _ _ _ (T99.setTop (mkF m 232 #[.val (.int p1), .val (.int p2), .val (.int p3), .val (.int p4), .val (.int p5), .val (.int (5 : Int32)), .val (.ref b76), .val (.ref r94), .val (.int (1 : Int32))] [(.int (2 : Int32)), (.ref b76), (.int (gt94 ((2 : Int32)).toNatClampNeg))]))
    obtain ⟨_, T100, L100, X100, ⟨z100, rfl, N100q, e100, hz100⟩, st100⟩ := own_callS X99 hx hZ hown (own_w hw 14 rfl) (own_w hw 15 rfl) (own_w hw 9 rfl) (own_w hw 16 rfl) (by decide) (rm3b2 l Z a0 hw b76 k76 (5 : Int32) f T94.heap n0 Z94 f97 (by decide)) (by decide) (by decide) e99 (W := 1) (g := (mkF m 232 #[.val (.int p1), .val (.int p2), .val (.int p3), .val (.int p4), .val (.int p5), .val (.int (5 : Int32)), .val (.ref b76), .val (.ref r94), .val (.int (1 : Int32))] [(.int (2 : Int32)), (.ref b76), (.int (gt94 ((2 : Int32)).toNatClampNeg))])) rfl (by rw [hml]; rfl) (argsL := [(.ref b76), (.int (2 : Int32))]) (rest := [(.int (gt94 ((2 : Int32)).toNatClampNeg))]) (lenOf pd_4 rfl) rfl rfl (by show 2 * 0 + _ ≤ _; exact Nat.le_of_eq rfl) (hb hby at_232) (by decide) (by decide)
    have N100 := Fr.app N99 N100q
    refine own_Fin.step st100 ?_
    show own_Fin p e below s _ _ _ (T100.setTop (mkF m 235 #[.val (.int p1), .val (.int p2), .val (.int p3), .val (.int p4), .val (.int p5), .val (.int (5 : Int32)), .val (.ref b76), .val (.ref r94), .val (.int (1 : Int32))] [(.int z100), (.int (gt94 ((2 : Int32)).toNatClampNeg))]))
    refine own_Fin.step (fun _ => XS.icmpNo X100.here hx rfl (hb hby at_235) rfl (XT.ii_ne_f (own_uniq (hT94 2 (by decide)) hz100))) ?_
    show own_Fin p e below s _ _ _ (T100.setTop (mkF m 238 #[.val (.int p1), .val (.int p2), .val (.int p3), .val (.int p4), .val (.int p5), .val (.int (5 : Int32)), .val (.ref b76), .val (.ref r94), .val (.int (1 : Int32))] []))
    refine own_Fin.step (fun _ => XS.iconst X100.here hx rfl (hb hby at_238)) ?_
    show own_Fin p e below s _ _ _ (T100.setTop (mkF m 239 #[.val (.int p1), .val (.int p2), .val (.int p3), .val (.int p4), .val (.int p5), .val (.int (5 : Int32)), .val (.ref b76), .val (.ref r94), .val (.int (1 : Int32))] [(.int (1 : Int32))]))
    refine own_Fin.step (fun _ => XS.goto X100.here hx rfl (pc0 := 239) (pc' := 243) rfl (hb hby at_239) (by decide) (by decide)) ?_
    show own_Fin p e below s _ _ _ (T100.setTop (mkF m 243 #[.val (.int p1), .val (.int p2), .val (.int p3), .val (.int p4), .val (.int p5), .val (.int (5 : Int32)), .val (.ref b76), .val (.ref r94), .val (.int (1 : Int32))] [(.int (1 : Int32))]))
    refine own_Fin.step (fun _ => XS.istore X100.here hx rfl (hb hby at_243) rfl (l' := #[.val (.int p1), .val (.int p2), .val (.int p3), .val (.int p4), .val (.int p5), .val (.int (5 : Int32)), .val (.ref b76), .val (.ref r94), .val (.int (1 : Int32))]) rfl) ?_
    show own_Fin p e below s _ _ _ (T100.setTop (mkF m 245 #[.val (.int p1), .val (.int p2), .val (.int p3), .val (.int p4), .val (.int p5), .val (.int (5 : Int32)), .val (.ref b76), .val (.ref r94), .val (.int (1 : Int32))] []))
    refine own_Fin.step (fun _ => XS.iload X100.here hx rfl (hb hby at_245) rfl) ?_
    show own_Fin p e below s _ _ _ (T100.setTop (mkF m 247 #[.val (.int p1), .val (.int p2), .val (.int p3), .val (.int p4), .val (.int p5), .val (.int (5 : Int32)), .val (.ref b76), .val (.ref r94), .val (.int (1 : Int32))] [(.int (1 : Int32))]))
    refine own_Fin.step (fun _ => XS.ifNo X100.here hx rfl (hb hby at_247) rfl (XT.i0_eq_f (by decide : ¬ ((1 : Int32) = (0 : Int32))))) ?_
    show own_Fin p e below s _ _ _ (T100.setTop (mkF m 250 #[.val (.int p1), .val (.int p2), .val (.int p3), .val (.int p4), .val (.int p5), .val (.int (5 : Int32)), .val (.ref b76), .val (.ref r94), .val (.int (1 : Int32))] []))
    refine own_Fin.step (fun _ => XS.iload X100.here hx rfl (hb hby at_250) rfl) ?_
    show own_Fin p e below s _ _ _ (T100.setTop (mkF m 252 #[.val (.int p1), .val (.int p2), .val (.int p3), .val (.int p4), .val (.int p5), .val (.int (5 : Int32)), .val (.ref b76), .val (.ref r94), .val (.int (1 : Int32))] [(.int (5 : Int32))]))
    refine own_Fin.step (fun _ => XS.iconst X100.here hx rfl (hb hby at_252)) ?_
    show own_Fin p e below s _ _ _ (T100.setTop (mkF m 253 #[.val (.int p1), .val (.int p2), .val (.int p3), .val (.int p4), .val (.int p5), .val (.int (5 : Int32)), .val (.ref b76), .val (.ref r94), .val (.int (1 : Int32))] [(.int (3 : Int32)), (.int (5 : Int32))]))
    refine own_Fin.step (fun _ => XS.icmpNo X100.here hx rfl (hb hby at_253) rfl (XT.ii_le_f (by decide : (3 : Int32) < (5 : Int32)))) ?_
    show own_Fin p e below s _ _ _ (T100.setTop (mkF m 256 #[.val (.int p1), .val (.int p2), .val (.int p3), .val (.int p4), .val (.int p5), .val (.int (5 : Int32)), .val (.ref b76), .val (.ref r94), .val (.int (1 : Int32))] []))
    refine own_Fin.step (fun _ => XS.aload X100.here hx rfl (hb hby at_256) rfl rfl) ?_
    show own_Fin p e below s _ _ _ (T100.setTop (mkF m 258 #[.val (.int p1), .val (.int p2), .val (.int p3), .val (.int p4), .val (.int p5), .val (.int (5 : Int32)), .val (.ref b76), .val (.ref r94), .val (.int (1 : Int32))] [(.ref r94)]))
    refine own_Fin.step (fun _ => XS.iconst X100.here hx rfl (hb hby at_258)) ?_
    show own_Fin p e below s _ _ _ (T100.setTop (mkF m 259 #[.val (.int p1), .val (.int p2), .val (.int p3), .val (.int p4), .val (.int p5), .val (.int (5 : Int32)), .val (.ref b76), .val (.ref r94), .val (.int (1 : Int32))] [(.int (3 : Int32)), (.ref r94)]))
    refine own_Fin.step (own_ldFI X100 hx hZ e100 V94 (j := (3 : Int32)) ⟨by decide, by decide⟩ (g := (mkF m 259 #[.val (.int p1), .val (.int p2), .val (.int p3), .val (.int p4), .val (.int p5), .val (.int (5 : Int32)), .val (.ref b76), .val (.ref r94), .val (.int (1 : Int32))] [(.int (3 : Int32)), (.ref r94)])) rfl rfl (hb hby at_259)) ?_
    show own_Fin p e below s _ _ _ (T100.setTop (mkF m 260 #[.val (.int p1), .val (.int p2), .val (.int p3), .val (.int p4), .val (.int p5), .val (.int (5 : Int32)), .val (.ref b76), .val (.ref r94), .val (.int (1 : Int32))] [(.int (gt94 ((3 : Int32)).toNatClampNeg))]))
    refine own_Fin.step (fun _ => XS.aload X100.here hx rfl (hb hby at_260) rfl rfl) ?_
    show own_Fin p e below s _ _ _ (T100.setTop (mkF m 262 #[.val (.int p1), .val (.int p2), .val (.int p3), .val (.int p4), .val (.int p5), .val (.int (5 : Int32)), .val (.ref b76), .val (.ref r94), .val (.int (1 : Int32))] [(.ref b76), (.int (gt94 ((3 : Int32)).toNatClampNeg))]))
    refine own_Fin.step (fun _ => XS.iconst X100.here hx rfl (hb hby at_262)) ?_
    show own_Fin p e below s _ _ _ (T100.setTop (mkF m 263 #[.val (.int p1), .val (.int p2), .val (.int p3), .val (.int p4), .val (.int p5), .val (.int (5 : Int32)), .val (.ref b76), .val (.ref r94), .val (.int (1 : Int32))] [(.int (3 : Int32)), (.ref b76), (.int (gt94 ((3 : Int32)).toNatClampNeg))]))
    obtain ⟨_, T101, L101, X101, ⟨z101, rfl, N101q, e101, hz101⟩, st101⟩ := own_callS X100 hx hZ hown (own_w hw 14 rfl) (own_w hw 15 rfl) (own_w hw 9 rfl) (own_w hw 16 rfl) (by decide) (rm3b3 l Z a0 hw b76 k76 (5 : Int32) f T94.heap n0 Z94 f97 (by decide)) (by decide) (by decide) e100 (W := 1) (g := (mkF m 263 #[.val (.int p1), .val (.int p2), .val (.int p3), .val (.int p4), .val (.int p5), .val (.int (5 : Int32)), .val (.ref b76), .val (.ref r94), .val (.int (1 : Int32))] [(.int (3 : Int32)), (.ref b76), (.int (gt94 ((3 : Int32)).toNatClampNeg))])) rfl (by rw [hml]; rfl) (argsL := [(.ref b76), (.int (3 : Int32))]) (rest := [(.int (gt94 ((3 : Int32)).toNatClampNeg))]) (lenOf pd_4 rfl) rfl rfl (by show 2 * 0 + _ ≤ _; exact Nat.le_of_eq rfl) (hb hby at_263) (by decide) (by decide)
    have N101 := Fr.app N100 N101q
    refine own_Fin.step st101 ?_
    show own_Fin p e below s _ _ _ (T101.setTop (mkF m 266 #[.val (.int p1), .val (.int p2), .val (.int p3), .val (.int p4), .val (.int p5), .val (.int (5 : Int32)), .val (.ref b76), .val (.ref r94), .val (.int (1 : Int32))] [(.int z101), (.int (gt94 ((3 : Int32)).toNatClampNeg))]))
    refine own_Fin.step (fun _ => XS.icmpNo X101.here hx rfl (hb hby at_266) rfl (XT.ii_ne_f (own_uniq (hT94 3 (by decide)) hz101))) ?_
    show own_Fin p e below s _ _ _ (T101.setTop (mkF m 269 #[.val (.int p1), .val (.int p2), .val (.int p3), .val (.int p4), .val (.int p5), .val (.int (5 : Int32)), .val (.ref b76), .val (.ref r94), .val (.int (1 : Int32))] []))
    refine own_Fin.step (fun _ => XS.iconst X101.here hx rfl (hb hby at_269)) ?_
    show own_Fin p e below s _ _ _ (T101.setTop (mkF m 270 #[.val (.int p1), .val (.int p2), .val (.int p3), .val (.int p4), .val (.int p5), .val (.int (5 : Int32)), .val (.ref b76), .val (.ref r94), .val (.int (1 : Int32))] [(.int (1 : Int32))]))
    refine own_Fin.step (fun _ => XS.goto X101.here hx rfl (pc0 := 270) (pc' := 274) rfl (hb hby at_270) (by decide) (by decide)) ?_
    show own_Fin p e below s _ _ _ (T101.setTop (mkF m 274 #[.val (.int p1), .val (.int p2), .val (.int p3), .val (.int p4), .val (.int p5), .val (.int (5 : Int32)), .val (.ref b76), .val (.ref r94), .val (.int (1 : Int32))] [(.int (1 : Int32))]))
    refine own_Fin.step (fun _ => XS.istore X101.here hx rfl (hb hby at_274) rfl (l' := #[.val (.int p1), .val (.int p2), .val (.int p3), .val (.int p4), .val (.int p5), .val (.int (5 : Int32)), .val (.ref b76), .val (.ref r94), .val (.int (1 : Int32))]) rfl) ?_
    show own_Fin p e below s _ _ _ (T101.setTop (mkF m 276 #[.val (.int p1), .val (.int p2), .val (.int p3), .val (.int p4), .val (.int p5), .val (.int (5 : Int32)), .val (.ref b76), .val (.ref r94), .val (.int (1 : Int32))] []))
    refine own_Fin.step (fun _ => XS.iload X101.here hx rfl (hb hby at_276) rfl) ?_
    show own_Fin p e below s _ _ _ (T101.setTop (mkF m 278 #[.val (.int p1), .val (.int p2), .val (.int p3), .val (.int p4), .val (.int p5), .val (.int (5 : Int32)), .val (.ref b76), .val (.ref r94), .val (.int (1 : Int32))] [(.int (1 : Int32))]))
    refine own_Fin.step (fun _ => XS.ifNo X101.here hx rfl (hb hby at_278) rfl (XT.i0_eq_f (by decide : ¬ ((1 : Int32) = (0 : Int32))))) ?_
    show own_Fin p e below s _ _ _ (T101.setTop (mkF m 281 #[.val (.int p1), .val (.int p2), .val (.int p3), .val (.int p4), .val (.int p5), .val (.int (5 : Int32)), .val (.ref b76), .val (.ref r94), .val (.int (1 : Int32))] []))
    refine own_Fin.step (fun _ => XS.iload X101.here hx rfl (hb hby at_281) rfl) ?_
    show own_Fin p e below s _ _ _ (T101.setTop (mkF m 283 #[.val (.int p1), .val (.int p2), .val (.int p3), .val (.int p4), .val (.int p5), .val (.int (5 : Int32)), .val (.ref b76), .val (.ref r94), .val (.int (1 : Int32))] [(.int (5 : Int32))]))
    refine own_Fin.step (fun _ => XS.iconst X101.here hx rfl (hb hby at_283)) ?_
    show own_Fin p e below s _ _ _ (T101.setTop (mkF m 284 #[.val (.int p1), .val (.int p2), .val (.int p3), .val (.int p4), .val (.int p5), .val (.int (5 : Int32)), .val (.ref b76), .val (.ref r94), .val (.int (1 : Int32))] [(.int (4 : Int32)), (.int (5 : Int32))]))
    refine own_Fin.step (fun _ => XS.icmpNo X101.here hx rfl (hb hby at_284) rfl (XT.ii_le_f (by decide : (4 : Int32) < (5 : Int32)))) ?_
    show own_Fin p e below s _ _ _ (T101.setTop (mkF m 287 #[.val (.int p1), .val (.int p2), .val (.int p3), .val (.int p4), .val (.int p5), .val (.int (5 : Int32)), .val (.ref b76), .val (.ref r94), .val (.int (1 : Int32))] []))
    refine own_Fin.step (fun _ => XS.aload X101.here hx rfl (hb hby at_287) rfl rfl) ?_
    show own_Fin p e below s _ _ _ (T101.setTop (mkF m 289 #[.val (.int p1), .val (.int p2), .val (.int p3), .val (.int p4), .val (.int p5), .val (.int (5 : Int32)), .val (.ref b76), .val (.ref r94), .val (.int (1 : Int32))] [(.ref r94)]))
    refine own_Fin.step (fun _ => XS.iconst X101.here hx rfl (hb hby at_289)) ?_
    show own_Fin p e below s _ _ _ (T101.setTop (mkF m 290 #[.val (.int p1), .val (.int p2), .val (.int p3), .val (.int p4), .val (.int p5), .val (.int (5 : Int32)), .val (.ref b76), .val (.ref r94), .val (.int (1 : Int32))] [(.int (4 : Int32)), (.ref r94)]))
    refine own_Fin.step (own_ldFI X101 hx hZ e101 V94 (j := (4 : Int32)) ⟨by decide, by decide⟩ (g := (mkF m 290 #[.val (.int p1), .val (.int p2), .val (.int p3), .val (.int p4), .val (.int p5), .val (.int (5 : Int32)), .val (.ref b76), .val (.ref r94), .val (.int (1 : Int32))] [(.int (4 : Int32)), (.ref r94)])) rfl rfl (hb hby at_290)) ?_
    show own_Fin p e below s _ _ _ (T101.setTop (mkF m 291 #[.val (.int p1), .val (.int p2), .val (.int p3), .val (.int p4), .val (.int p5), .val (.int (5 : Int32)), .val (.ref b76), .val (.ref r94), .val (.int (1 : Int32))] [(.int (gt94 ((4 : Int32)).toNatClampNeg))]))
    refine own_Fin.step (fun _ => XS.aload X101.here hx rfl (hb hby at_291) rfl rfl) ?_
    show own_Fin p e below s _ _ _ (T101.setTop (mkF m 293 #[.val (.int p1), .val (.int p2), .val (.int p3), .val (.int p4), .val (.int p5), .val (.int (5 : Int32)), .val (.ref b76), .val (.ref r94), .val (.int (1 : Int32))] [(.ref b76), (.int (gt94 ((4 : Int32)).toNatClampNeg))]))
    refine own_Fin.step (fun _ => XS.iconst X101.here hx rfl (hb hby at_293)) ?_
    show own_Fin p e below s _ _ _ (T101.setTop (mkF m 294 #[.val (.int p1), .val (.int p2), .val (.int p3), .val (.int p4), .val (.int p5), .val (.int (5 : Int32)), .val (.ref b76), .val (.ref r94), .val (.int (1 : Int32))] [(.int (4 : Int32)), (.ref b76), (.int (gt94 ((4 : Int32)).toNatClampNeg))]))
    obtain ⟨_, T102, L102, X102, ⟨z102, rfl, N102q, e102, hz102⟩, st102⟩ := own_callS X101 hx hZ hown (own_w hw 14 rfl) (own_w hw 15 rfl) (own_w hw 9 rfl) (own_w hw 16 rfl) (by decide) (rm3b4 l Z a0 hw b76 k76 (5 : Int32) f T94.heap n0 Z94 f97 (by decide)) (by decide) (by decide) e101 (W := 1) (g := (mkF m 294 #[.val (.int p1), .val (.int p2), .val (.int p3), .val (.int p4), .val (.int p5), .val (.int (5 : Int32)), .val (.ref b76), .val (.ref r94), .val (.int (1 : Int32))] [(.int (4 : Int32)), (.ref b76), (.int (gt94 ((4 : Int32)).toNatClampNeg))])) rfl (by rw [hml]; rfl) (argsL := [(.ref b76), (.int (4 : Int32))]) (rest := [(.int (gt94 ((4 : Int32)).toNatClampNeg))]) (lenOf pd_4 rfl) rfl rfl (by show 2 * 0 + _ ≤ _; exact Nat.le_of_eq rfl) (hb hby at_294) (by decide) (by decide)
    have N102 := Fr.app N101 N102q
    refine own_Fin.step st102 ?_
    show own_Fin p e below s _ _ _ (T102.setTop (mkF m 297 #[.val (.int p1), .val (.int p2), .val (.int p3), .val (.int p4), .val (.int p5), .val (.int (5 : Int32)), .val (.ref b76), .val (.ref r94), .val (.int (1 : Int32))] [(.int z102), (.int (gt94 ((4 : Int32)).toNatClampNeg))]))
    refine own_Fin.step (fun _ => XS.icmpNo X102.here hx rfl (hb hby at_297) rfl (XT.ii_ne_f (own_uniq (hT94 4 (by decide)) hz102))) ?_
    show own_Fin p e below s _ _ _ (T102.setTop (mkF m 300 #[.val (.int p1), .val (.int p2), .val (.int p3), .val (.int p4), .val (.int p5), .val (.int (5 : Int32)), .val (.ref b76), .val (.ref r94), .val (.int (1 : Int32))] []))
    refine own_Fin.step (fun _ => XS.iconst X102.here hx rfl (hb hby at_300)) ?_
    show own_Fin p e below s _ _ _ (T102.setTop (mkF m 301 #[.val (.int p1), .val (.int p2), .val (.int p3), .val (.int p4), .val (.int p5), .val (.int (5 : Int32)), .val (.ref b76), .val (.ref r94), .val (.int (1 : Int32))] [(.int (1 : Int32))]))
    refine own_Fin.step (fun _ => XS.goto X102.here hx rfl (pc0 := 301) (pc' := 305) rfl (hb hby at_301) (by decide) (by decide)) ?_
    show own_Fin p e below s _ _ _ (T102.setTop (mkF m 305 #[.val (.int p1), .val (.int p2), .val (.int p3), .val (.int p4), .val (.int p5), .val (.int (5 : Int32)), .val (.ref b76), .val (.ref r94), .val (.int (1 : Int32))] [(.int (1 : Int32))]))
    refine own_Fin.step (fun _ => XS.istore X102.here hx rfl (hb hby at_305) rfl (l' := #[.val (.int p1), .val (.int p2), .val (.int p3), .val (.int p4), .val (.int p5), .val (.int (5 : Int32)), .val (.ref b76), .val (.ref r94), .val (.int (1 : Int32))]) rfl) ?_
    show own_Fin p e below s _ _ _ (T102.setTop (mkF m 307 #[.val (.int p1), .val (.int p2), .val (.int p3), .val (.int p4), .val (.int p5), .val (.int (5 : Int32)), .val (.ref b76), .val (.ref r94), .val (.int (1 : Int32))] []))
    refine own_Fin.step (fun _ => XS.iload X102.here hx rfl (hb hby at_307) rfl) ?_
    show own_Fin p e below s _ _ _ (T102.setTop (mkF m 309 #[.val (.int p1), .val (.int p2), .val (.int p3), .val (.int p4), .val (.int p5), .val (.int (5 : Int32)), .val (.ref b76), .val (.ref r94), .val (.int (1 : Int32))] [(.int (1 : Int32))]))
    refine own_Fin.step (fun _ => XS.ifNo X102.here hx rfl (hb hby at_309) rfl (XT.i0_eq_f (by decide : ¬ ((1 : Int32) = (0 : Int32))))) ?_
    show own_Fin p e below s _ _ _ (T102.setTop (mkF m 312 #[.val (.int p1), .val (.int p2), .val (.int p3), .val (.int p4), .val (.int p5), .val (.int (5 : Int32)), .val (.ref b76), .val (.ref r94), .val (.int (1 : Int32))] []))
    refine own_Fin.step (fun _ => XS.iload X102.here hx rfl (hb hby at_312) rfl) ?_
    show own_Fin p e below s _ _ _ (T102.setTop (mkF m 314 #[.val (.int p1), .val (.int p2), .val (.int p3), .val (.int p4), .val (.int p5), .val (.int (5 : Int32)), .val (.ref b76), .val (.ref r94), .val (.int (1 : Int32))] [(.int (5 : Int32))]))
    refine own_Fin.step (fun _ => XS.iconst X102.here hx rfl (hb hby at_314)) ?_
    show own_Fin p e below s _ _ _ (T102.setTop (mkF m 315 #[.val (.int p1), .val (.int p2), .val (.int p3), .val (.int p4), .val (.int p5), .val (.int (5 : Int32)), .val (.ref b76), .val (.ref r94), .val (.int (1 : Int32))] [(.int (5 : Int32)), (.int (5 : Int32))]))
    refine own_Fin.step (fun _ => XS.icmpYes X102.here hx rfl (pc0 := 315) (pc' := 331) rfl (hb hby at_315) rfl (XT.ii_le_t (by decide : ¬ ((5 : Int32) < (5 : Int32)))) (by decide) (by decide)) ?_
    show own_Fin p e below s _ _ _ (T102.setTop (mkF m 331 #[.val (.int p1), .val (.int p2), .val (.int p3), .val (.int p4), .val (.int p5), .val (.int (5 : Int32)), .val (.ref b76), .val (.ref r94), .val (.int (1 : Int32))] []))
    refine own_Fin.step (fun _ => XS.iconst X102.here hx rfl (hb hby at_331)) ?_
    show own_Fin p e below s _ _ _ (T102.setTop (mkF m 332 #[.val (.int p1), .val (.int p2), .val (.int p3), .val (.int p4), .val (.int p5), .val (.int (5 : Int32)), .val (.ref b76), .val (.ref r94), .val (.int (1 : Int32))] [(.int (1 : Int32))]))
    refine own_Fin.step (fun _ => XS.goto X102.here hx rfl (pc0 := 332) (pc' := 336) rfl (hb hby at_332) (by decide) (by decide)) ?_
    show own_Fin p e below s _ _ _ (T102.setTop (mkF m 336 #[.val (.int p1), .val (.int p2), .val (.int p3), .val (.int p4), .val (.int p5), .val (.int (5 : Int32)), .val (.ref b76), .val (.ref r94), .val (.int (1 : Int32))] [(.int (1 : Int32))]))
    refine own_Fin.step (fun _ => XS.istore X102.here hx rfl (hb hby at_336) rfl (l' := #[.val (.int p1), .val (.int p2), .val (.int p3), .val (.int p4), .val (.int p5), .val (.int (5 : Int32)), .val (.ref b76), .val (.ref r94), .val (.int (1 : Int32))]) rfl) ?_
    show own_Fin p e below s _ _ _ (T102.setTop (mkF m 338 #[.val (.int p1), .val (.int p2), .val (.int p3), .val (.int p4), .val (.int p5), .val (.int (5 : Int32)), .val (.ref b76), .val (.ref r94), .val (.int (1 : Int32))] []))
    refine own_Fin.step (fun _ => XS.iload X102.here hx rfl (hb hby at_338) rfl) ?_
    show own_Fin p e below s _ _ _ (T102.setTop (mkF m 340 #[.val (.int p1), .val (.int p2), .val (.int p3), .val (.int p4), .val (.int p5), .val (.int (5 : Int32)), .val (.ref b76), .val (.ref r94), .val (.int (1 : Int32))] [(.int (1 : Int32))]))
    exact own_retN X102 hx hlk (t := .boolean) hret (by simp) (hb hby at_340) ⟨rfl, N102⟩ (by decide) (by decide)
  ·
    show own_Fin p e below s _ _ _ (s₁.setTop (mkF m 7 #[.val (.int p1), .val (.int p2), .val (.int p3), .val (.int p4), .val (.int p5), .unset, .unset, .unset, .unset] [(.int (6 : Int32))]))
    refine own_Fin.step (fun _ => XS.istore X0.here hx rfl (hb hby at_7) rfl (l' := #[.val (.int p1), .val (.int p2), .val (.int p3), .val (.int p4), .val (.int p5), .val (.int (6 : Int32)), .unset, .unset, .unset]) rfl) ?_
    show own_Fin p e below s _ _ _ (s₁.setTop (mkF m 9 #[.val (.int p1), .val (.int p2), .val (.int p3), .val (.int p4), .val (.int p5), .val (.int (6 : Int32)), .unset, .unset, .unset] []))
    refine own_Fin.step (fun _ => XS.iload X0.here hx rfl (hb hby at_9) rfl) ?_
    show own_Fin p e below s _ _ _ (s₁.setTop (mkF m 11 #[.val (.int p1), .val (.int p2), .val (.int p3), .val (.int p4), .val (.int p5), .val (.int (6 : Int32)), .unset, .unset, .unset] [(.int (6 : Int32))]))
    obtain ⟨T103, h103, k103, b103, X103, e103, E103, g103, V103, st103⟩ := own_newA X0 hx hZ (own_w hw 1 rfl) e0 (ty := .byte) (dv := (.int (0 : Int32))) rfl rfl (g := (mkF m 11 #[.val (.int p1), .val (.int p2), .val (.int p3), .val (.int p4), .val (.int p5), .val (.int (6 : Int32)), .unset, .unset, .unset] [(.int (6 : Int32))])) rfl (hb hby at_11) rfl (by decide) (cap := 6) (by decide) (by decide) (by decide) (by decide) (6)
    have ge104 : n0 ≤ b103 := Nat.le_trans Z0 (Nat.le_of_eq g103.symm)
    have Z103 : n0 ≤ h103.size := Nat.le_trans Z0 E103.1
    have V103' : Arv Z h103 b103 k103 .byte (6 : Int32) [(.int (0 : Int32)), (.int (0 : Int32)), (.int (0 : Int32)), (.int (0 : Int32)), (.int (0 : Int32)), (.int (0 : Int32))] (.int (0 : Int32)) := V103
    refine own_Fin.step st103 ?_
    show own_Fin p e below s _ _ _ (T103.setTop (mkF m 13 #[.val (.int p1), .val (.int p2), .val (.int p3), .val (.int p4), .val (.int p5), .val (.int (6 : Int32)), .unset, .unset, .unset] [(.ref b103)]))
    have Vf105 := own_Arf.of (N := 6) V103'
    refine own_Fin.step (fun _ => XS.astore X103.here hx rfl (hb hby at_13) rfl rfl (l' := #[.val (.int p1), .val (.int p2), .val (.int p3), .val (.int p4), .val (.int p5), .val (.int (6 : Int32)), .val (.ref b103), .unset, .unset]) rfl) ?_
    show own_Fin p e below s _ _ _ (T103.setTop (mkF m 15 #[.val (.int p1), .val (.int p2), .val (.int p3), .val (.int p4), .val (.int p5), .val (.int (6 : Int32)), .val (.ref b103), .unset, .unset] []))
    refine own_Fin.step (fun _ => XS.iload X103.here hx rfl (hb hby at_15) rfl) ?_
    show own_Fin p e below s _ _ _ (T103.setTop (mkF m 17 #[.val (.int p1), .val (.int p2), .val (.int p3), .val (.int p4), .val (.int p5), .val (.int (6 : Int32)), .val (.ref b103), .unset, .unset] [(.int (6 : Int32))]))
    refine own_Fin.step (fun _ => XS.ifNo X103.here hx rfl (hb hby at_17) rfl (XT.i0_le_f (by decide : (0 : Int32) < (6 : Int32)))) ?_
    show own_Fin p e below s _ _ _ (T103.setTop (mkF m 20 #[.val (.int p1), .val (.int p2), .val (.int p3), .val (.int p4), .val (.int p5), .val (.int (6 : Int32)), .val (.ref b103), .unset, .unset] []))
    refine own_Fin.step (fun _ => XS.aload X103.here hx rfl (hb hby at_20) rfl rfl) ?_
    show own_Fin p e below s _ _ _ (T103.setTop (mkF m 22 #[.val (.int p1), .val (.int p2), .val (.int p3), .val (.int p4), .val (.int p5), .val (.int (6 : Int32)), .val (.ref b103), .unset, .unset] [(.ref b103)]))
    refine own_Fin.step (fun _ => XS.iconst X103.here hx rfl (hb hby at_22)) ?_
    show own_Fin p e below s _ _ _ (T103.setTop (mkF m 23 #[.val (.int p1), .val (.int p2), .val (.int p3), .val (.int p4), .val (.int p5), .val (.int (6 : Int32)), .val (.ref b103), .unset, .unset] [(.int (0 : Int32)), (.ref b103)]))
    refine own_Fin.step (fun _ => XS.iload X103.here hx rfl (hb hby at_23) rfl) ?_
    show own_Fin p e below s _ _ _ (T103.setTop (mkF m 25 #[.val (.int p1), .val (.int p2), .val (.int p3), .val (.int p4), .val (.int p5), .val (.int (6 : Int32)), .val (.ref b103), .unset, .unset] [(.int p5), (.int (0 : Int32)), (.ref b103)]))
    refine own_Fin.step (fun _ => XS.iconst X103.here hx rfl (hb hby at_25)) ?_
    show own_Fin p e below s _ _ _ (T103.setTop (mkF m 26 #[.val (.int p1), .val (.int p2), .val (.int p3), .val (.int p4), .val (.int p5), .val (.int (6 : Int32)), .val (.ref b103), .unset, .unset] [(.int (0 : Int32)), (.int p5), (.int (0 : Int32)), (.ref b103)]))
    refine own_Fin.step (fun _ => XS.iloadN X103.here hx rfl (hb hby at_26) rfl) ?_
    show own_Fin p e below s _ _ _ (T103.setTop (mkF m 27 #[.val (.int p1), .val (.int p2), .val (.int p3), .val (.int p4), .val (.int p5), .val (.int (6 : Int32)), .val (.ref b103), .unset, .unset] [(.int p2), (.int (0 : Int32)), (.int p5), (.int (0 : Int32)), (.ref b103)]))
    refine own_Fin.step (fun _ => XS.iloadN X103.here hx rfl (hb hby at_27) rfl) ?_
    show own_Fin p e below s _ _ _ (T103.setTop (mkF m 28 #[.val (.int p1), .val (.int p2), .val (.int p3), .val (.int p4), .val (.int p5), .val (.int (6 : Int32)), .val (.ref b103), .unset, .unset] [(.int p3), (.int p2), (.int (0 : Int32)), (.int p5), (.int (0 : Int32)), (.ref b103)]))
    refine own_Fin.step (fun _ => XS.iloadN X103.here hx rfl (hb hby at_28) rfl) ?_
    show own_Fin p e below s _ _ _ (T103.setTop (mkF m 29 #[.val (.int p1), .val (.int p2), .val (.int p3), .val (.int p4), .val (.int p5), .val (.int (6 : Int32)), .val (.ref b103), .unset, .unset] [(.int p4), (.int p3), (.int p2), (.int (0 : Int32)), (.int p5), (.int (0 : Int32)), (.ref b103)]))
    obtain ⟨_, T106, L106, X106, ⟨z106, rfl, N106q, e106⟩, st106⟩ := own_callS X103 hx hZ hown (own_w hw 7 rfl) (own_w hw 8 rfl) (own_w hw 9 rfl) (own_w hw 10 rfl) (by decide) (rm1 l Z a0 hw p5 (0 : Int32) p2 p3 p4 h103 n0 Z103) (by decide) (by decide) e103 (W := 2) (g := (mkF m 29 #[.val (.int p1), .val (.int p2), .val (.int p3), .val (.int p4), .val (.int p5), .val (.int (6 : Int32)), .val (.ref b103), .unset, .unset] [(.int p4), (.int p3), (.int p2), (.int (0 : Int32)), (.int p5), (.int (0 : Int32)), (.ref b103)])) rfl (by rw [hml]; rfl) (argsL := [(.int p5), (.int (0 : Int32)), (.int p2), (.int p3), (.int p4)]) (rest := [(.int (0 : Int32)), (.ref b103)]) (lenOf pd_3 rfl) rfl rfl (by show 2 * 0 + _ ≤ _; exact Nat.le_of_eq rfl) (hb hby at_29) (by decide) (by decide)
    have N106 := Fr.app N0 N106q
    refine own_Fin.step st106 ?_
    show own_Fin p e below s _ _ _ (T106.setTop (mkF m 32 #[.val (.int p1), .val (.int p2), .val (.int p3), .val (.int p4), .val (.int p5), .val (.int (6 : Int32)), .val (.ref b103), .unset, .unset] [(.int z106), (.int (0 : Int32)), (.ref b103)]))
    obtain ⟨T107, h107, X107, e107, V107, W107, st107⟩ := own_stFB X106 hx hZ e106 Vf105 (j := (0 : Int32)) ⟨by decide, by decide⟩ (g := (mkF m 32 #[.val (.int p1), .val (.int p2), .val (.int p3), .val (.int p4), .val (.int p5), .val (.int (6 : Int32)), .val (.ref b103), .unset, .unset] [(.int z106), (.int (0 : Int32)), (.ref b103)])) rfl rfl (hb hby at_32)
    have N107 := Fr.snoc X107 N106 ge104
    have Z107 : n0 ≤ h107.size := Nat.le_trans Z103 (Nat.le_of_eq W107.size.symm)
    refine own_Fin.step st107 ?_
    show own_Fin p e below s _ _ _ (T107.setTop (mkF m 33 #[.val (.int p1), .val (.int p2), .val (.int p3), .val (.int p4), .val (.int p5), .val (.int (6 : Int32)), .val (.ref b103), .unset, .unset] []))
    refine own_Fin.step (fun _ => XS.iload X107.here hx rfl (hb hby at_33) rfl) ?_
    show own_Fin p e below s _ _ _ (T107.setTop (mkF m 35 #[.val (.int p1), .val (.int p2), .val (.int p3), .val (.int p4), .val (.int p5), .val (.int (6 : Int32)), .val (.ref b103), .unset, .unset] [(.int (6 : Int32))]))
    refine own_Fin.step (fun _ => XS.iconst X107.here hx rfl (hb hby at_35)) ?_
    show own_Fin p e below s _ _ _ (T107.setTop (mkF m 36 #[.val (.int p1), .val (.int p2), .val (.int p3), .val (.int p4), .val (.int p5), .val (.int (6 : Int32)), .val (.ref b103), .unset, .unset] [(.int (1 : Int32)), (.int (6 : Int32))]))
    refine own_Fin.step (fun _ => XS.icmpNo X107.here hx rfl (hb hby at_36) rfl (XT.ii_le_f (by decide : (1 : Int32) < (6 : Int32)))) ?_
    show own_Fin p e below s _ _ _ (T107.setTop (mkF m 39 #[.val (.int p1), .val (.int p2), .val (.int p3), .val (.int p4), .val (.int p5), .val (.int (6 : Int32)), .val (.ref b103), .unset, .unset] []))
    refine own_Fin.step (fun _ => XS.aload X107.here hx rfl (hb hby at_39) rfl rfl) ?_
    show own_Fin p e below s _ _ _ (T107.setTop (mkF m 41 #[.val (.int p1), .val (.int p2), .val (.int p3), .val (.int p4), .val (.int p5), .val (.int (6 : Int32)), .val (.ref b103), .unset, .unset] [(.ref b103)]))
    refine own_Fin.step (fun _ => XS.iconst X107.here hx rfl (hb hby at_41)) ?_
    show own_Fin p e below s _ _ _ (T107.setTop (mkF m 42 #[.val (.int p1), .val (.int p2), .val (.int p3), .val (.int p4), .val (.int p5), .val (.int (6 : Int32)), .val (.ref b103), .unset, .unset] [(.int (1 : Int32)), (.ref b103)]))
    refine own_Fin.step (fun _ => XS.iload X107.here hx rfl (hb hby at_42) rfl) ?_
    show own_Fin p e below s _ _ _ (T107.setTop (mkF m 44 #[.val (.int p1), .val (.int p2), .val (.int p3), .val (.int p4), .val (.int p5), .val (.int (6 : Int32)), .val (.ref b103), .unset, .unset] [(.int p5), (.int (1 : Int32)), (.ref b103)]))
    refine own_Fin.step (fun _ => XS.iconst X107.here hx rfl (hb hby at_44)) ?_
    show own_Fin p e below s _ _ _ (T107.setTop (mkF m 45 #[.val (.int p1), .val (.int p2), .val (.int p3), .val (.int p4), .val (.int p5), .val (.int (6 : Int32)), .val (.ref b103), .unset, .unset] [(.int (1 : Int32)), (.int p5), (.int (1 : Int32)), (.ref b103)]))
    refine own_Fin.step (fun _ => XS.iloadN X107.here hx rfl (hb hby at_45) rfl) ?_
    show own_Fin p e below s _ _ _ (T107.setTop (mkF m 46 #[.val (.int p1), .val (.int p2), .val (.int p3), .val (.int p4), .val (.int p5), .val (.int (6 : Int32)), .val (.ref b103), .unset, .unset] [(.int p2), (.int (1 : Int32)), (.int p5), (.int (1 : Int32)), (.ref b103)]))
    refine own_Fin.step (fun _ => XS.iloadN X107.here hx rfl (hb hby at_46) rfl) ?_
    show own_Fin p e below s _ _ _ (T107.setTop (mkF m 47 #[.val (.int p1), .val (.int p2), .val (.int p3), .val (.int p4), .val (.int p5), .val (.int (6 : Int32)), .val (.ref b103), .unset, .unset] [(.int p3), (.int p2), (.int (1 : Int32)), (.int p5), (.int (1 : Int32)), (.ref b103)]))
    refine own_Fin.step (fun _ => XS.iloadN X107.here hx rfl (hb hby at_47) rfl) ?_
    show own_Fin p e below s _ _ _ (T107.setTop (mkF m 48 #[.val (.int p1), .val (.int p2), .val (.int p3), .val (.int p4), .val (.int p5), .val (.int (6 : Int32)), .val (.ref b103), .unset, .unset] [(.int p4), (.int p3), (.int p2), (.int (1 : Int32)), (.int p5), (.int (1 : Int32)), (.ref b103)]))
    obtain ⟨_, T109, L109, X109, ⟨z109, rfl, N109q, e109⟩, st109⟩ := own_callS X107 hx hZ hown (own_w hw 7 rfl) (own_w hw 8 rfl) (own_w hw 9 rfl) (own_w hw 10 rfl) (by decide) (rm1 l Z a0 hw p5 (1 : Int32) p2 p3 p4 h107 n0 Z107) (by decide) (by decide) e107 (W := 2) (g := (mkF m 48 #[.val (.int p1), .val (.int p2), .val (.int p3), .val (.int p4), .val (.int p5), .val (.int (6 : Int32)), .val (.ref b103), .unset, .unset] [(.int p4), (.int p3), (.int p2), (.int (1 : Int32)), (.int p5), (.int (1 : Int32)), (.ref b103)])) rfl (by rw [hml]; rfl) (argsL := [(.int p5), (.int (1 : Int32)), (.int p2), (.int p3), (.int p4)]) (rest := [(.int (1 : Int32)), (.ref b103)]) (lenOf pd_3 rfl) rfl rfl (by show 2 * 0 + _ ≤ _; exact Nat.le_of_eq rfl) (hb hby at_48) (by decide) (by decide)
    have N109 := Fr.app N107 N109q
    refine own_Fin.step st109 ?_
    show own_Fin p e below s _ _ _ (T109.setTop (mkF m 51 #[.val (.int p1), .val (.int p2), .val (.int p3), .val (.int p4), .val (.int p5), .val (.int (6 : Int32)), .val (.ref b103), .unset, .unset] [(.int z109), (.int (1 : Int32)), (.ref b103)]))
    obtain ⟨T110, h110, X110, e110, V110, W110, st110⟩ := own_stFB X109 hx hZ e109 V107 (j := (1 : Int32)) ⟨by decide, by decide⟩ (g := (mkF m 51 #[.val (.int p1), .val (.int p2), .val (.int p3), .val (.int p4), .val (.int p5), .val (.int (6 : Int32)), .val (.ref b103), .unset, .unset] [(.int z109), (.int (1 : Int32)), (.ref b103)])) rfl rfl (hb hby at_51)
    have N110 := Fr.snoc X110 N109 ge104
    have Z110 : n0 ≤ h110.size := Nat.le_trans Z107 (Nat.le_of_eq W110.size.symm)
    refine own_Fin.step st110 ?_
    show own_Fin p e below s _ _ _ (T110.setTop (mkF m 52 #[.val (.int p1), .val (.int p2), .val (.int p3), .val (.int p4), .val (.int p5), .val (.int (6 : Int32)), .val (.ref b103), .unset, .unset] []))
    refine own_Fin.step (fun _ => XS.iload X110.here hx rfl (hb hby at_52) rfl) ?_
    show own_Fin p e below s _ _ _ (T110.setTop (mkF m 54 #[.val (.int p1), .val (.int p2), .val (.int p3), .val (.int p4), .val (.int p5), .val (.int (6 : Int32)), .val (.ref b103), .unset, .unset] [(.int (6 : Int32))]))
    refine own_Fin.step (fun _ => XS.iconst X110.here hx rfl (hb hby at_54)) ?_
    show own_Fin p e below s _ _ _ (T110.setTop (mkF m 55 #[.val (.int p1), .val (.int p2), .val (.int p3), .val (.int p4), .val (.int p5), .val (.int (6 : Int32)), .val (.ref b103), .unset, .unset] [(.int (2 : Int32)), (.int (6 : Int32))]))
    refine own_Fin.step (fun _ => XS.icmpNo X110.here hx rfl (hb hby at_55) rfl (XT.ii_le_f (by decide : (2 : Int32) < (6 : Int32)))) ?_
    show own_Fin p e below s _ _ _ (T110.setTop (mkF m 58 #[.val (.int p1), .val (.int p2), .val (.int p3), .val (.int p4), .val (.int p5), .val (.int (6 : Int32)), .val (.ref b103), .unset, .unset] []))
    refine own_Fin.step (fun _ => XS.aload X110.here hx rfl (hb hby at_58) rfl rfl) ?_
    show own_Fin p e below s _ _ _ (T110.setTop (mkF m 60 #[.val (.int p1), .val (.int p2), .val (.int p3), .val (.int p4), .val (.int p5), .val (.int (6 : Int32)), .val (.ref b103), .unset, .unset] [(.ref b103)]))
    refine own_Fin.step (fun _ => XS.iconst X110.here hx rfl (hb hby at_60)) ?_
    show own_Fin p e below s _ _ _ (T110.setTop (mkF m 61 #[.val (.int p1), .val (.int p2), .val (.int p3), .val (.int p4), .val (.int p5), .val (.int (6 : Int32)), .val (.ref b103), .unset, .unset] [(.int (2 : Int32)), (.ref b103)]))
    refine own_Fin.step (fun _ => XS.iload X110.here hx rfl (hb hby at_61) rfl) ?_
    show own_Fin p e below s _ _ _ (T110.setTop (mkF m 63 #[.val (.int p1), .val (.int p2), .val (.int p3), .val (.int p4), .val (.int p5), .val (.int (6 : Int32)), .val (.ref b103), .unset, .unset] [(.int p5), (.int (2 : Int32)), (.ref b103)]))
    refine own_Fin.step (fun _ => XS.iconst X110.here hx rfl (hb hby at_63)) ?_
    show own_Fin p e below s _ _ _ (T110.setTop (mkF m 64 #[.val (.int p1), .val (.int p2), .val (.int p3), .val (.int p4), .val (.int p5), .val (.int (6 : Int32)), .val (.ref b103), .unset, .unset] [(.int (2 : Int32)), (.int p5), (.int (2 : Int32)), (.ref b103)]))
    refine own_Fin.step (fun _ => XS.iloadN X110.here hx rfl (hb hby at_64) rfl) ?_
    show own_Fin p e below s _ _ _ (T110.setTop (mkF m 65 #[.val (.int p1), .val (.int p2), .val (.int p3), .val (.int p4), .val (.int p5), .val (.int (6 : Int32)), .val (.ref b103), .unset, .unset] [(.int p2), (.int (2 : Int32)), (.int p5), (.int (2 : Int32)), (.ref b103)]))
    refine own_Fin.step (fun _ => XS.iloadN X110.here hx rfl (hb hby at_65) rfl) ?_
    show own_Fin p e below s _ _ _ (T110.setTop (mkF m 66 #[.val (.int p1), .val (.int p2), .val (.int p3), .val (.int p4), .val (.int p5), .val (.int (6 : Int32)), .val (.ref b103), .unset, .unset] [(.int p3), (.int p2), (.int (2 : Int32)), (.int p5), (.int (2 : Int32)), (.ref b103)]))
    refine own_Fin.step (fun _ => XS.iloadN X110.here hx rfl (hb hby at_66) rfl) ?_
    show own_Fin p e below s _ _ _ (T110.setTop (mkF m 67 #[.val (.int p1), .val (.int p2), .val (.int p3), .val (.int p4), .val (.int p5), .val (.int (6 : Int32)), .val (.ref b103), .unset, .unset] [(.int p4), (.int p3), (.int p2), (.int (2 : Int32)), (.int p5), (.int (2 : Int32)), (.ref b103)]))
    obtain ⟨_, T112, L112, X112, ⟨z112, rfl, N112q, e112⟩, st112⟩ := own_callS X110 hx hZ hown (own_w hw 7 rfl) (own_w hw 8 rfl) (own_w hw 9 rfl) (own_w hw 10 rfl) (by decide) (rm1 l Z a0 hw p5 (2 : Int32) p2 p3 p4 h110 n0 Z110) (by decide) (by decide) e110 (W := 2) (g := (mkF m 67 #[.val (.int p1), .val (.int p2), .val (.int p3), .val (.int p4), .val (.int p5), .val (.int (6 : Int32)), .val (.ref b103), .unset, .unset] [(.int p4), (.int p3), (.int p2), (.int (2 : Int32)), (.int p5), (.int (2 : Int32)), (.ref b103)])) rfl (by rw [hml]; rfl) (argsL := [(.int p5), (.int (2 : Int32)), (.int p2), (.int p3), (.int p4)]) (rest := [(.int (2 : Int32)), (.ref b103)]) (lenOf pd_3 rfl) rfl rfl (by show 2 * 0 + _ ≤ _; exact Nat.le_of_eq rfl) (hb hby at_67) (by decide) (by decide)
    have N112 := Fr.app N110 N112q
    refine own_Fin.step st112 ?_
    show own_Fin p e below s _ _ _ (T112.setTop (mkF m 70 #[.val (.int p1), .val (.int p2), .val (.int p3), .val (.int p4), .val (.int p5), .val (.int (6 : Int32)), .val (.ref b103), .unset, .unset] [(.int z112), (.int (2 : Int32)), (.ref b103)]))
    obtain ⟨T113, h113, X113, e113, V113, W113, st113⟩ := own_stFB X112 hx hZ e112 V110 (j := (2 : Int32)) ⟨by decide, by decide⟩ (g := (mkF m 70 #[.val (.int p1), .val (.int p2), .val (.int p3), .val (.int p4), .val (.int p5), .val (.int (6 : Int32)), .val (.ref b103), .unset, .unset] [(.int z112), (.int (2 : Int32)), (.ref b103)])) rfl rfl (hb hby at_70)
    have N113 := Fr.snoc X113 N112 ge104
    have Z113 : n0 ≤ h113.size := Nat.le_trans Z110 (Nat.le_of_eq W113.size.symm)
    refine own_Fin.step st113 ?_
    show own_Fin p e below s _ _ _ (T113.setTop (mkF m 71 #[.val (.int p1), .val (.int p2), .val (.int p3), .val (.int p4), .val (.int p5), .val (.int (6 : Int32)), .val (.ref b103), .unset, .unset] []))
    refine own_Fin.step (fun _ => XS.iload X113.here hx rfl (hb hby at_71) rfl) ?_
    show own_Fin p e below s _ _ _ (T113.setTop (mkF m 73 #[.val (.int p1), .val (.int p2), .val (.int p3), .val (.int p4), .val (.int p5), .val (.int (6 : Int32)), .val (.ref b103), .unset, .unset] [(.int (6 : Int32))]))
    refine own_Fin.step (fun _ => XS.iconst X113.here hx rfl (hb hby at_73)) ?_
    show own_Fin p e below s _ _ _ (T113.setTop (mkF m 74 #[.val (.int p1), .val (.int p2), .val (.int p3), .val (.int p4), .val (.int p5), .val (.int (6 : Int32)), .val (.ref b103), .unset, .unset] [(.int (3 : Int32)), (.int (6 : Int32))]))
    refine own_Fin.step (fun _ => XS.icmpNo X113.here hx rfl (hb hby at_74) rfl (XT.ii_le_f (by decide : (3 : Int32) < (6 : Int32)))) ?_
    show own_Fin p e below s _ _ _ (T113.setTop (mkF m 77 #[.val (.int p1), .val (.int p2), .val (.int p3), .val (.int p4), .val (.int p5), .val (.int (6 : Int32)), .val (.ref b103), .unset, .unset] []))
    refine own_Fin.step (fun _ => XS.aload X113.here hx rfl (hb hby at_77) rfl rfl) ?_
    show own_Fin p e below s _ _ _ (T113.setTop (mkF m 79 #[.val (.int p1), .val (.int p2), .val (.int p3), .val (.int p4), .val (.int p5), .val (.int (6 : Int32)), .val (.ref b103), .unset, .unset] [(.ref b103)]))
    refine own_Fin.step (fun _ => XS.iconst X113.here hx rfl (hb hby at_79)) ?_
    show own_Fin p e below s _ _ _ (T113.setTop (mkF m 80 #[.val (.int p1), .val (.int p2), .val (.int p3), .val (.int p4), .val (.int p5), .val (.int (6 : Int32)), .val (.ref b103), .unset, .unset] [(.int (3 : Int32)), (.ref b103)]))
    refine own_Fin.step (fun _ => XS.iload X113.here hx rfl (hb hby at_80) rfl) ?_
    show own_Fin p e below s _ _ _ (T113.setTop (mkF m 82 #[.val (.int p1), .val (.int p2), .val (.int p3), .val (.int p4), .val (.int p5), .val (.int (6 : Int32)), .val (.ref b103), .unset, .unset] [(.int p5), (.int (3 : Int32)), (.ref b103)]))
    refine own_Fin.step (fun _ => XS.iconst X113.here hx rfl (hb hby at_82)) ?_
    show own_Fin p e below s _ _ _ (T113.setTop (mkF m 83 #[.val (.int p1), .val (.int p2), .val (.int p3), .val (.int p4), .val (.int p5), .val (.int (6 : Int32)), .val (.ref b103), .unset, .unset] [(.int (3 : Int32)), (.int p5), (.int (3 : Int32)), (.ref b103)]))
    refine own_Fin.step (fun _ => XS.iloadN X113.here hx rfl (hb hby at_83) rfl) ?_
    show own_Fin p e below s _ _ _ (T113.setTop (mkF m 84 #[.val (.int p1), .val (.int p2), .val (.int p3), .val (.int p4), .val (.int p5), .val (.int (6 : Int32)), .val (.ref b103), .unset, .unset] [(.int p2), (.int (3 : Int32)), (.int p5), (.int (3 : Int32)), (.ref b103)]))
    refine own_Fin.step (fun _ => XS.iloadN X113.here hx rfl (hb hby at_84) rfl) ?_
    show own_Fin p e below s _ _ _ (T113.setTop (mkF m 85 #[.val (.int p1), .val (.int p2), .val (.int p3), .val (.int p4), .val (.int p5), .val (.int (6 : Int32)), .val (.ref b103), .unset, .unset] [(.int p3), (.int p2), (.int (3 : Int32)), (.int p5), (.int (3 : Int32)), (.ref b103)]))
    refine own_Fin.step (fun _ => XS.iloadN X113.here hx rfl (hb hby at_85) rfl) ?_
    show own_Fin p e below s _ _ _ (T113.setTop (mkF m 86 #[.val (.int p1), .val (.int p2), .val (.int p3), .val (.int p4), .val (.int p5), .val (.int (6 : Int32)), .val (.ref b103), .unset, .unset] [(.int p4), (.int p3), (.int p2), (.int (3 : Int32)), (.int p5), (.int (3 : Int32)), (.ref b103)]))
    obtain ⟨_, T115, L115, X115, ⟨z115, rfl, N115q, e115⟩, st115⟩ := own_callS X113 hx hZ hown (own_w hw 7 rfl) (own_w hw 8 rfl) (own_w hw 9 rfl) (own_w hw 10 rfl) (by decide) (rm1 l Z a0 hw p5 (3 : Int32) p2 p3 p4 h113 n0 Z113) (by decide) (by decide) e113 (W := 2) (g := (mkF m 86 #[.val (.int p1), .val (.int p2), .val (.int p3), .val (.int p4), .val (.int p5), .val (.int (6 : Int32)), .val (.ref b103), .unset, .unset] [(.int p4), (.int p3), (.int p2), (.int (3 : Int32)), (.int p5), (.int (3 : Int32)), (.ref b103)])) rfl (by rw [hml]; rfl) (argsL := [(.int p5), (.int (3 : Int32)), (.int p2), (.int p3), (.int p4)]) (rest := [(.int (3 : Int32)), (.ref b103)]) (lenOf pd_3 rfl) rfl rfl (by show 2 * 0 + _ ≤ _; exact Nat.le_of_eq rfl) (hb hby at_86) (by decide) (by decide)
    have N115 := Fr.app N113 N115q
    refine own_Fin.step st115 ?_
    show own_Fin p e below s _ _ _ (T115.setTop (mkF m 89 #[.val (.int p1), .val (.int p2), .val (.int p3), .val (.int p4), .val (.int p5), .val (.int (6 : Int32)), .val (.ref b103), .unset, .unset] [(.int z115), (.int (3 : Int32)), (.ref b103)]))
    obtain ⟨T116, h116, X116, e116, V116, W116, st116⟩ := own_stFB X115 hx hZ e115 V113 (j := (3 : Int32)) ⟨by decide, by decide⟩ (g := (mkF m 89 #[.val (.int p1), .val (.int p2), .val (.int p3), .val (.int p4), .val (.int p5), .val (.int (6 : Int32)), .val (.ref b103), .unset, .unset] [(.int z115), (.int (3 : Int32)), (.ref b103)])) rfl rfl (hb hby at_89)
    have N116 := Fr.snoc X116 N115 ge104
    have Z116 : n0 ≤ h116.size := Nat.le_trans Z113 (Nat.le_of_eq W116.size.symm)
    refine own_Fin.step st116 ?_
    show own_Fin p e below s _ _ _ (T116.setTop (mkF m 90 #[.val (.int p1), .val (.int p2), .val (.int p3), .val (.int p4), .val (.int p5), .val (.int (6 : Int32)), .val (.ref b103), .unset, .unset] []))
    refine own_Fin.step (fun _ => XS.iload X116.here hx rfl (hb hby at_90) rfl) ?_
    show own_Fin p e below s _ _ _ (T116.setTop (mkF m 92 #[.val (.int p1), .val (.int p2), .val (.int p3), .val (.int p4), .val (.int p5), .val (.int (6 : Int32)), .val (.ref b103), .unset, .unset] [(.int (6 : Int32))]))
    refine own_Fin.step (fun _ => XS.iconst X116.here hx rfl (hb hby at_92)) ?_
    show own_Fin p e below s _ _ _ (T116.setTop (mkF m 93 #[.val (.int p1), .val (.int p2), .val (.int p3), .val (.int p4), .val (.int p5), .val (.int (6 : Int32)), .val (.ref b103), .unset, .unset] [(.int (4 : Int32)), (.int (6 : Int32))]))
    refine own_Fin.step (fun _ => XS.icmpNo X116.here hx rfl (hb hby at_93) rfl (XT.ii_le_f (by decide : (4 : Int32) < (6 : Int32)))) ?_
    show own_Fin p e below s _ _ _ (T116.setTop (mkF m 96 #[.val (.int p1), .val (.int p2), .val (.int p3), .val (.int p4), .val (.int p5), .val (.int (6 : Int32)), .val (.ref b103), .unset, .unset] []))
    refine own_Fin.step (fun _ => XS.aload X116.here hx rfl (hb hby at_96) rfl rfl) ?_
    show own_Fin p e below s _ _ _ (T116.setTop (mkF m 98 #[.val (.int p1), .val (.int p2), .val (.int p3), .val (.int p4), .val (.int p5), .val (.int (6 : Int32)), .val (.ref b103), .unset, .unset] [(.ref b103)]))
    refine own_Fin.step (fun _ => XS.iconst X116.here hx rfl (hb hby at_98)) ?_
    show own_Fin p e below s _ _ _ (T116.setTop (mkF m 99 #[.val (.int p1), .val (.int p2), .val (.int p3), .val (.int p4), .val (.int p5), .val (.int (6 : Int32)), .val (.ref b103), .unset, .unset] [(.int (4 : Int32)), (.ref b103)]))
    refine own_Fin.step (fun _ => XS.iload X116.here hx rfl (hb hby at_99) rfl) ?_
    show own_Fin p e below s _ _ _ (T116.setTop (mkF m 101 #[.val (.int p1), .val (.int p2), .val (.int p3), .val (.int p4), .val (.int p5), .val (.int (6 : Int32)), .val (.ref b103), .unset, .unset] [(.int p5), (.int (4 : Int32)), (.ref b103)]))
    refine own_Fin.step (fun _ => XS.iconst X116.here hx rfl (hb hby at_101)) ?_
    show own_Fin p e below s _ _ _ (T116.setTop (mkF m 102 #[.val (.int p1), .val (.int p2), .val (.int p3), .val (.int p4), .val (.int p5), .val (.int (6 : Int32)), .val (.ref b103), .unset, .unset] [(.int (4 : Int32)), (.int p5), (.int (4 : Int32)), (.ref b103)]))
    refine own_Fin.step (fun _ => XS.iloadN X116.here hx rfl (hb hby at_102) rfl) ?_
    show own_Fin p e below s _ _ _ (T116.setTop (mkF m 103 #[.val (.int p1), .val (.int p2), .val (.int p3), .val (.int p4), .val (.int p5), .val (.int (6 : Int32)), .val (.ref b103), .unset, .unset] [(.int p2), (.int (4 : Int32)), (.int p5), (.int (4 : Int32)), (.ref b103)]))
    refine own_Fin.step (fun _ => XS.iloadN X116.here hx rfl (hb hby at_103) rfl) ?_
    show own_Fin p e below s _ _ _ (T116.setTop (mkF m 104 #[.val (.int p1), .val (.int p2), .val (.int p3), .val (.int p4), .val (.int p5), .val (.int (6 : Int32)), .val (.ref b103), .unset, .unset] [(.int p3), (.int p2), (.int (4 : Int32)), (.int p5), (.int (4 : Int32)), (.ref b103)]))
    refine own_Fin.step (fun _ => XS.iloadN X116.here hx rfl (hb hby at_104) rfl) ?_
    show own_Fin p e below s _ _ _ (T116.setTop (mkF m 105 #[.val (.int p1), .val (.int p2), .val (.int p3), .val (.int p4), .val (.int p5), .val (.int (6 : Int32)), .val (.ref b103), .unset, .unset] [(.int p4), (.int p3), (.int p2), (.int (4 : Int32)), (.int p5), (.int (4 : Int32)), (.ref b103)]))
    obtain ⟨_, T118, L118, X118, ⟨z118, rfl, N118q, e118⟩, st118⟩ := own_callS X116 hx hZ hown (own_w hw 7 rfl) (own_w hw 8 rfl) (own_w hw 9 rfl) (own_w hw 10 rfl) (by decide) (rm1 l Z a0 hw p5 (4 : Int32) p2 p3 p4 h116 n0 Z116) (by decide) (by decide) e116 (W := 2) (g := (mkF m 105 #[.val (.int p1), .val (.int p2), .val (.int p3), .val (.int p4), .val (.int p5), .val (.int (6 : Int32)), .val (.ref b103), .unset, .unset] [(.int p4), (.int p3), (.int p2), (.int (4 : Int32)), (.int p5), (.int (4 : Int32)), (.ref b103)])) rfl (by rw [hml]; rfl) (argsL := [(.int p5), (.int (4 : Int32)), (.int p2), (.int p3), (.int p4)]) (rest := [(.int (4 : Int32)), (.ref b103)]) (lenOf pd_3 rfl) rfl rfl (by show 2 * 0 + _ ≤ _; exact Nat.le_of_eq rfl) (hb hby at_105) (by decide) (by decide)
    have N118 := Fr.app N116 N118q
    refine own_Fin.step st118 ?_
    show own_Fin p e below s _ _ _ (T118.setTop (mkF m 108 #[.val (.int p1), .val (.int p2), .val (.int p3), .val (.int p4), .val (.int p5), .val (.int (6 : Int32)), .val (.ref b103), .unset, .unset] [(.int z118), (.int (4 : Int32)), (.ref b103)]))
    obtain ⟨T119, h119, X119, e119, V119, W119, st119⟩ := own_stFB X118 hx hZ e118 V116 (j := (4 : Int32)) ⟨by decide, by decide⟩ (g := (mkF m 108 #[.val (.int p1), .val (.int p2), .val (.int p3), .val (.int p4), .val (.int p5), .val (.int (6 : Int32)), .val (.ref b103), .unset, .unset] [(.int z118), (.int (4 : Int32)), (.ref b103)])) rfl rfl (hb hby at_108)
    have N119 := Fr.snoc X119 N118 ge104
    have Z119 : n0 ≤ h119.size := Nat.le_trans Z116 (Nat.le_of_eq W119.size.symm)
    refine own_Fin.step st119 ?_
    show own_Fin p e below s _ _ _ (T119.setTop (mkF m 109 #[.val (.int p1), .val (.int p2), .val (.int p3), .val (.int p4), .val (.int p5), .val (.int (6 : Int32)), .val (.ref b103), .unset, .unset] []))
    refine own_Fin.step (fun _ => XS.iload X119.here hx rfl (hb hby at_109) rfl) ?_
    show own_Fin p e below s _ _ _ (T119.setTop (mkF m 111 #[.val (.int p1), .val (.int p2), .val (.int p3), .val (.int p4), .val (.int p5), .val (.int (6 : Int32)), .val (.ref b103), .unset, .unset] [(.int (6 : Int32))]))
    refine own_Fin.step (fun _ => XS.iconst X119.here hx rfl (hb hby at_111)) ?_
    show own_Fin p e below s _ _ _ (T119.setTop (mkF m 112 #[.val (.int p1), .val (.int p2), .val (.int p3), .val (.int p4), .val (.int p5), .val (.int (6 : Int32)), .val (.ref b103), .unset, .unset] [(.int (5 : Int32)), (.int (6 : Int32))]))
    refine own_Fin.step (fun _ => XS.icmpNo X119.here hx rfl (hb hby at_112) rfl (XT.ii_le_f (by decide : (5 : Int32) < (6 : Int32)))) ?_
    show own_Fin p e below s _ _ _ (T119.setTop (mkF m 115 #[.val (.int p1), .val (.int p2), .val (.int p3), .val (.int p4), .val (.int p5), .val (.int (6 : Int32)), .val (.ref b103), .unset, .unset] []))
    refine own_Fin.step (fun _ => XS.aload X119.here hx rfl (hb hby at_115) rfl rfl) ?_
    show own_Fin p e below s _ _ _ (T119.setTop (mkF m 117 #[.val (.int p1), .val (.int p2), .val (.int p3), .val (.int p4), .val (.int p5), .val (.int (6 : Int32)), .val (.ref b103), .unset, .unset] [(.ref b103)]))
    refine own_Fin.step (fun _ => XS.iconst X119.here hx rfl (hb hby at_117)) ?_
    show own_Fin p e below s _ _ _ (T119.setTop (mkF m 118 #[.val (.int p1), .val (.int p2), .val (.int p3), .val (.int p4), .val (.int p5), .val (.int (6 : Int32)), .val (.ref b103), .unset, .unset] [(.int (5 : Int32)), (.ref b103)]))
    refine own_Fin.step (fun _ => XS.iload X119.here hx rfl (hb hby at_118) rfl) ?_
    show own_Fin p e below s _ _ _ (T119.setTop (mkF m 120 #[.val (.int p1), .val (.int p2), .val (.int p3), .val (.int p4), .val (.int p5), .val (.int (6 : Int32)), .val (.ref b103), .unset, .unset] [(.int p5), (.int (5 : Int32)), (.ref b103)]))
    refine own_Fin.step (fun _ => XS.iconst X119.here hx rfl (hb hby at_120)) ?_
    show own_Fin p e below s _ _ _ (T119.setTop (mkF m 121 #[.val (.int p1), .val (.int p2), .val (.int p3), .val (.int p4), .val (.int p5), .val (.int (6 : Int32)), .val (.ref b103), .unset, .unset] [(.int (5 : Int32)), (.int p5), (.int (5 : Int32)), (.ref b103)]))
    refine own_Fin.step (fun _ => XS.iloadN X119.here hx rfl (hb hby at_121) rfl) ?_
    show own_Fin p e below s _ _ _ (T119.setTop (mkF m 122 #[.val (.int p1), .val (.int p2), .val (.int p3), .val (.int p4), .val (.int p5), .val (.int (6 : Int32)), .val (.ref b103), .unset, .unset] [(.int p2), (.int (5 : Int32)), (.int p5), (.int (5 : Int32)), (.ref b103)]))
    refine own_Fin.step (fun _ => XS.iloadN X119.here hx rfl (hb hby at_122) rfl) ?_
    show own_Fin p e below s _ _ _ (T119.setTop (mkF m 123 #[.val (.int p1), .val (.int p2), .val (.int p3), .val (.int p4), .val (.int p5), .val (.int (6 : Int32)), .val (.ref b103), .unset, .unset] [(.int p3), (.int p2), (.int (5 : Int32)), (.int p5), (.int (5 : Int32)), (.ref b103)]))
    refine own_Fin.step (fun _ => XS.iloadN X119.here hx rfl (hb hby at_123) rfl) ?_
    show own_Fin p e below s _ _ _ (T119.setTop (mkF m 124 #[.val (.int p1), .val (.int p2), .val (.int p3), .val (.int p4), .val (.int p5), .val (.int (6 : Int32)), .val (.ref b103), .unset, .unset] [(.int p4), (.int p3), (.int p2), (.int (5 : Int32)), (.int p5), (.int (5 : Int32)), (.ref b103)]))
    obtain ⟨_, T121, L121, X121, ⟨z121, rfl, N121q, e121⟩, st121⟩ := own_callS X119 hx hZ hown (own_w hw 7 rfl) (own_w hw 8 rfl) (own_w hw 9 rfl) (own_w hw 10 rfl) (by decide) (rm1 l Z a0 hw p5 (5 : Int32) p2 p3 p4 h119 n0 Z119) (by decide) (by decide) e119 (W := 2) (g := (mkF m 124 #[.val (.int p1), .val (.int p2), .val (.int p3), .val (.int p4), .val (.int p5), .val (.int (6 : Int32)), .val (.ref b103), .unset, .unset] [(.int p4), (.int p3), (.int p2), (.int (5 : Int32)), (.int p5), (.int (5 : Int32)), (.ref b103)])) rfl (by rw [hml]; rfl) (argsL := [(.int p5), (.int (5 : Int32)), (.int p2), (.int p3), (.int p4)]) (rest := [(.int (5 : Int32)), (.ref b103)]) (lenOf pd_3 rfl) rfl rfl (by show 2 * 0 + _ ≤ _; exact Nat.le_of_eq rfl) (hb hby at_124) (by decide) (by decide)
    have N121 := Fr.app N119 N121q
    refine own_Fin.step st121 ?_
    show own_Fin p e below s _ _ _ (T121.setTop (mkF m 127 #[.val (.int p1), .val (.int p2), .val (.int p3), .val (.int p4), .val (.int p5), .val (.int (6 : Int32)), .val (.ref b103), .unset, .unset] [(.int z121), (.int (5 : Int32)), (.ref b103)]))
    obtain ⟨T122, h122, X122, e122, V122, W122, st122⟩ := own_stFB X121 hx hZ e121 V119 (j := (5 : Int32)) ⟨by decide, by decide⟩ (g := (mkF m 127 #[.val (.int p1), .val (.int p2), .val (.int p3), .val (.int p4), .val (.int p5), .val (.int (6 : Int32)), .val (.ref b103), .unset, .unset] [(.int z121), (.int (5 : Int32)), (.ref b103)])) rfl rfl (hb hby at_127)
    have N122 := Fr.snoc X122 N121 ge104
    have Z122 : n0 ≤ h122.size := Nat.le_trans Z119 (Nat.le_of_eq W122.size.symm)
    refine own_Fin.step st122 ?_
    show own_Fin p e below s _ _ _ (T122.setTop (mkF m 128 #[.val (.int p1), .val (.int p2), .val (.int p3), .val (.int p4), .val (.int p5), .val (.int (6 : Int32)), .val (.ref b103), .unset, .unset] []))
    obtain ⟨f, hf⟩ : ∃ z : Nat → Int32, z = (own_upd (own_upd (own_upd (own_upd (own_upd (own_upd (fun _ => (0 : Int32)) ((0 : Int32)).toNatClampNeg (nar .byte z106)) ((1 : Int32)).toNatClampNeg (nar .byte z109)) ((2 : Int32)).toNatClampNeg (nar .byte z112)) ((3 : Int32)).toNatClampNeg (nar .byte z115)) ((4 : Int32)).toNatClampNeg (nar .byte z118)) ((5 : Int32)).toNatClampNeg (nar .byte z121)) := ⟨_, rfl⟩
    rw [← hf] at V122
    refine own_Fin.step (fun _ => XS.aload X122.here hx rfl (hb hby at_128) rfl rfl) ?_
    show own_Fin p e below s _ _ _ (T122.setTop (mkF m 130 #[.val (.int p1), .val (.int p2), .val (.int p3), .val (.int p4), .val (.int p5), .val (.int (6 : Int32)), .val (.ref b103), .unset, .unset] [(.ref b103)]))
    obtain ⟨_, T124, L124, X124, ⟨r124, kt124, gt124, rfl, N124q, K124, sz124, V124, hT124⟩, st124⟩ := own_callS X122 hx hZ hown (own_w hw 2 rfl) (own_w hw 3 rfl) (own_w hw 4 rfl) (own_w hw 5 rfl) (by decide) (rm5 l Z a0 hw b103 k103 (6 : Int32) f h122 n0 Z122 V122 (by decide)) (by decide) (by decide) e122 (W := 0) (g := (mkF m 130 #[.val (.int p1), .val (.int p2), .val (.int p3), .val (.int p4), .val (.int p5), .val (.int (6 : Int32)), .val (.ref b103), .unset, .unset] [(.ref b103)])) rfl (by rw [hml]; rfl) (argsL := [(.ref b103)]) (rest := []) (lenOf pd_2 rfl) rfl rfl (by show 2 * 0 + _ ≤ _; exact Nat.le_of_eq rfl) (hb hby at_130) (by decide) (by decide)
    have N124 := Fr.app N122 N124q
    have ne125 : b103 ≠ r124 := Nat.ne_of_lt (Nat.lt_of_lt_of_le V122.lt sz124)
    have ge126 : n0 ≤ r124 := Nat.le_trans Z122 sz124
    have f127 := V122.keep K124 nin0
    have Z124 : n0 ≤ T124.heap.size := Nat.le_trans Z122 K124.1
    refine own_Fin.step st124 ?_
    show own_Fin p e below s _ _ _ (T124.setTop (mkF m 133 #[.val (.int p1), .val (.int p2), .val (.int p3), .val (.int p4), .val (.int p5), .val (.int (6 : Int32)), .val (.ref b103), .unset, .unset] [(.ref r124)]))
    refine own_Fin.step (fun _ => XS.astore X124.here hx rfl (hb hby at_133) rfl rfl (l' := #[.val (.int p1), .val (.int p2), .val (.int p3), .val (.int p4), .val (.int p5), .val (.int (6 : Int32)), .val (.ref b103), .val (.ref r124), .unset]) rfl) ?_
    show own_Fin p e below s _ _ _ (T124.setTop (mkF m 135 #[.val (.int p1), .val (.int p2), .val (.int p3), .val (.int p4), .val (.int p5), .val (.int (6 : Int32)), .val (.ref b103), .val (.ref r124), .unset] []))
    refine own_Fin.step (fun _ => XS.aload X124.here hx rfl (hb hby at_135) rfl rfl) ?_
    show own_Fin p e below s _ _ _ (T124.setTop (mkF m 137 #[.val (.int p1), .val (.int p2), .val (.int p3), .val (.int p4), .val (.int p5), .val (.int (6 : Int32)), .val (.ref b103), .val (.ref r124), .unset] [(.ref r124)]))
    refine own_Fin.step (fun _ => XS.ifnullNo X124.here hx rfl (hb hby at_137) rfl) ?_
    show own_Fin p e below s _ _ _ (T124.setTop (mkF m 140 #[.val (.int p1), .val (.int p2), .val (.int p3), .val (.int p4), .val (.int p5), .val (.int (6 : Int32)), .val (.ref b103), .val (.ref r124), .unset] []))
    refine own_Fin.step (fun _ => XS.aload X124.here hx rfl (hb hby at_140) rfl rfl) ?_
    show own_Fin p e below s _ _ _ (T124.setTop (mkF m 142 #[.val (.int p1), .val (.int p2), .val (.int p3), .val (.int p4), .val (.int p5), .val (.int (6 : Int32)), .val (.ref b103), .val (.ref r124), .unset] [(.ref r124)]))
    refine own_Fin.step (own_lenF X124 hx hZ rfl V124 (g := (mkF m 142 #[.val (.int p1), .val (.int p2), .val (.int p3), .val (.int p4), .val (.int p5), .val (.int (6 : Int32)), .val (.ref b103), .val (.ref r124), .unset] [(.ref r124)])) rfl rfl (hb hby at_142)) ?_
    show own_Fin p e below s _ _ _ (T124.setTop (mkF m 143 #[.val (.int p1), .val (.int p2), .val (.int p3), .val (.int p4), .val (.int p5), .val (.int (6 : Int32)), .val (.ref b103), .val (.ref r124), .unset] [(.int (6 : Int32))]))
    refine own_Fin.step (fun _ => XS.iload X124.here hx rfl (hb hby at_143) rfl) ?_
    show own_Fin p e below s _ _ _ (T124.setTop (mkF m 145 #[.val (.int p1), .val (.int p2), .val (.int p3), .val (.int p4), .val (.int p5), .val (.int (6 : Int32)), .val (.ref b103), .val (.ref r124), .unset] [(.int (6 : Int32)), (.int (6 : Int32))]))
    refine own_Fin.step (fun _ => XS.icmpYes X124.here hx rfl (pc0 := 145) (pc' := 150) rfl (hb hby at_145) rfl (XT.ii_eq_t (by decide : (6 : Int32) = (6 : Int32))) (by decide) (by decide)) ?_
    show own_Fin p e below s _ _ _ (T124.setTop (mkF m 150 #[.val (.int p1), .val (.int p2), .val (.int p3), .val (.int p4), .val (.int p5), .val (.int (6 : Int32)), .val (.ref b103), .val (.ref r124), .unset] []))
    refine own_Fin.step (fun _ => XS.iconst X124.here hx rfl (hb hby at_150)) ?_
    show own_Fin p e below s _ _ _ (T124.setTop (mkF m 151 #[.val (.int p1), .val (.int p2), .val (.int p3), .val (.int p4), .val (.int p5), .val (.int (6 : Int32)), .val (.ref b103), .val (.ref r124), .unset] [(.int (1 : Int32))]))
    refine own_Fin.step (fun _ => XS.istore X124.here hx rfl (hb hby at_151) rfl (l' := #[.val (.int p1), .val (.int p2), .val (.int p3), .val (.int p4), .val (.int p5), .val (.int (6 : Int32)), .val (.ref b103), .val (.ref r124), .val (.int (1 : Int32))]) rfl) ?_
    show own_Fin p e below s _ _ _ (T124.setTop (mkF m 153 #[.val (.int p1), .val (.int p2), .val (.int p3), .val (.int p4), .val (.int p5), .val (.int (6 : Int32)), .val (.ref b103), .val (.ref r124), .val (.int (1 : Int32))] []))
    refine own_Fin.step (fun _ => XS.iload X124.here hx rfl (hb hby at_153) rfl) ?_
    show own_Fin p e below s _ _ _ (T124.setTop (mkF m 155 #[.val (.int p1), .val (.int p2), .val (.int p3), .val (.int p4), .val (.int p5), .val (.int (6 : Int32)), .val (.ref b103), .val (.ref r124), .val (.int (1 : Int32))] [(.int (1 : Int32))]))
    refine own_Fin.step (fun _ => XS.ifNo X124.here hx rfl (hb hby at_155) rfl (XT.i0_eq_f (by decide : ¬ ((1 : Int32) = (0 : Int32))))) ?_
    show own_Fin p e below s _ _ _ (T124.setTop (mkF m 158 #[.val (.int p1), .val (.int p2), .val (.int p3), .val (.int p4), .val (.int p5), .val (.int (6 : Int32)), .val (.ref b103), .val (.ref r124), .val (.int (1 : Int32))] []))
    refine own_Fin.step (fun _ => XS.iload X124.here hx rfl (hb hby at_158) rfl) ?_
    show own_Fin p e below s _ _ _ (T124.setTop (mkF m 160 #[.val (.int p1), .val (.int p2), .val (.int p3), .val (.int p4), .val (.int p5), .val (.int (6 : Int32)), .val (.ref b103), .val (.ref r124), .val (.int (1 : Int32))] [(.int (6 : Int32))]))
    refine own_Fin.step (fun _ => XS.ifNo X124.here hx rfl (hb hby at_160) rfl (XT.i0_le_f (by decide : (0 : Int32) < (6 : Int32)))) ?_
    show own_Fin p e below s _ _ _ (T124.setTop (mkF m 163 #[.val (.int p1), .val (.int p2), .val (.int p3), .val (.int p4), .val (.int p5), .val (.int (6 : Int32)), .val (.ref b103), .val (.ref r124), .val (.int (1 : Int32))] []))
    refine own_Fin.step (fun _ => XS.aload X124.here hx rfl (hb hby at_163) rfl rfl) ?_
    show own_Fin p e below s _ _ _ (T124.setTop (mkF m 165 #[.val (.int p1), .val (.int p2), .val (.int p3), .val (.int p4), .val (.int p5), .val (.int (6 : Int32)), .val (.ref b103), .val (.ref r124), .val (.int (1 : Int32))] [(.ref r124)]))
    refine own_Fin.step (fun _ => XS.iconst X124.here hx rfl (hb hby at_165)) ?_
    show own_Fin p e below s _ _ _ (T124.setTop (mkF m 166 #[.val (.int p1), .val (.int p2), .val (.int p3), .val (.int p4), .val (.int p5), .val (.int (6 : Int32)), .val (.ref b103), .val (.ref r124), .val (.int (1 : Int32))] [(.int (0 : Int32)), (.ref r124)]))
    refine own_Fin.step (own_ldFI X124 hx hZ rfl V124 (j := (0 : Int32)) ⟨by decide, by decide⟩ (g := (mkF m 166 #[.val (.int p1), .val (.int p2), .val (.int p3), .val (.int p4), .val (.int p5), .val (.int (6 : Int32)), .val (.ref b103), .val (.ref r124), .val (.int (1 : Int32))] [(.int (0 : Int32)), (.ref r124)])) rfl rfl (hb hby at_166)) ?_
    show own_Fin p e below s _ _ _ (T124.setTop (mkF m 167 #[.val (.int p1), .val (.int p2), .val (.int p3), .val (.int p4), .val (.int p5), .val (.int (6 : Int32)), .val (.ref b103), .val (.ref r124), .val (.int (1 : Int32))] [(.int (gt124 ((0 : Int32)).toNatClampNeg))]))
    refine own_Fin.step (fun _ => XS.aload X124.here hx rfl (hb hby at_167) rfl rfl) ?_
    show own_Fin p e below s _ _ _ (T124.setTop (mkF m 169 #[.val (.int p1), .val (.int p2), .val (.int p3), .val (.int p4), .val (.int p5), .val (.int (6 : Int32)), .val (.ref b103), .val (.ref r124), .val (.int (1 : Int32))] [(.ref b103), (.int (gt124 ((0 : Int32)).toNatClampNeg))]))
    refine own_Fin.step (fun _ => XS.iconst X124.here hx rfl (hb hby at_169)) ?_
    show own_Fin p e below s _ _ _ (T124.setTop (mkF m 170 #[.val (.int p1), .val (.int p2), .val (.int p3), .val (.int p4), .val (.int p5), .val (.int (6 : Int32)), .val (.ref b103), .val (.ref r124), .val (.int (1 : Int32))] [(.int (0 : Int32)), (.ref b103), (.int (gt124 ((0 : Int32)).toNatClampNeg))]))
    obtain ⟨_, T128, L128, X128, ⟨z128, rfl, N128q, e128, hz128⟩, st128⟩ := own_callS X124 hx hZ hown (own_w hw 14 rfl) (own_w hw 15 rfl) (own_w hw 9 rfl) (own_w hw 16 rfl) (by decide) (rm3b0 l Z a0 hw b103 k103 (6 : Int32) f T124.heap n0 Z124 f127 (by decide)) (by decide) (by decide) rfl (W := 1) (g := (mkF m 170 #[.val (.int p1), .val (.int p2), .val (.int p3), .val (.int p4), .val (.int p5), .val (.int (6 : Int32)), .val (.ref b103), .val (.ref r124), .val (.int (1 : Int32))] [(.int (0 : Int32)), (.ref b103), (.int (gt124 ((0 : Int32)).toNatClampNeg))])) rfl (by rw [hml]; rfl) (argsL := [(.ref b103), (.int (0 : Int32))]) (rest := [(.int (gt124 ((0 : Int32)).toNatClampNeg))]) (lenOf pd_4 rfl) rfl rfl (by show 2 * 0 + _ ≤ _; exact Nat.le_of_eq rfl) (hb hby at_170) (by decide) (by decide)
    have N128 := Fr.app N124 N128q
    refine own_Fin.step st128 ?_
    show own_Fin p e below s _ _ _ (T128.setTop (mkF m 173 #[.val (.int p1), .val (.int p2), .val (.int p3), .val (.int p4), .val (.int p5), .val (.int (6 : Int32)), .val (.ref b103), .val (.ref r124), .val (.int (1 : Int32))] [(.int z128), (.int (gt124 ((0 : Int32)).toNatClampNeg))]))
    refine own_Fin.step (fun _ => XS.icmpNo X128.here hx rfl (hb hby at_173) rfl (XT.ii_ne_f (own_uniq (hT124 0 (by decide)) hz128))) ?_
    show own_Fin p e below s _ _ _ (T128.setTop (mkF m 176 #[.val (.int p1), .val (.int p2), .val (.int p3), .val (.int p4), .val (.int p5), .val (.int (6 : Int32)), .val (.ref b103), .val (.ref r124), .val (.int (1 : Int32))] []))
    refine own_Fin.step (fun _ => XS.iconst X128.here hx rfl (hb hby at_176)) ?_
    show own_Fin p e below s _ _ _ (T128.setTop (mkF m 177 #[.val (.int p1), .val (.int p2), .val (.int p3), .val (.int p4), .val (.int p5), .val (.int (6 : Int32)), .val (.ref b103), .val (.ref r124), .val (.int (1 : Int32))] [(.int (1 : Int32))]))
    refine own_Fin.step (fun _ => XS.goto X128.here hx rfl (pc0 := 177) (pc' := 181) rfl (hb hby at_177) (by decide) (by decide)) ?_
    show own_Fin p e below s _ _ _ (T128.setTop (mkF m 181 #[.val (.int p1), .val (.int p2), .val (.int p3), .val (.int p4), .val (.int p5), .val (.int (6 : Int32)), .val (.ref b103), .val (.ref r124), .val (.int (1 : Int32))] [(.int (1 : Int32))]))
    refine own_Fin.step (fun _ => XS.istore X128.here hx rfl (hb hby at_181) rfl (l' := #[.val (.int p1), .val (.int p2), .val (.int p3), .val (.int p4), .val (.int p5), .val (.int (6 : Int32)), .val (.ref b103), .val (.ref r124), .val (.int (1 : Int32))]) rfl) ?_
    show own_Fin p e below s _ _ _ (T128.setTop (mkF m 183 #[.val (.int p1), .val (.int p2), .val (.int p3), .val (.int p4), .val (.int p5), .val (.int (6 : Int32)), .val (.ref b103), .val (.ref r124), .val (.int (1 : Int32))] []))
    refine own_Fin.step (fun _ => XS.iload X128.here hx rfl (hb hby at_183) rfl) ?_
    show own_Fin p e below s _ _ _ (T128.setTop (mkF m 185 #[.val (.int p1), .val (.int p2), .val (.int p3), .val (.int p4), .val (.int p5), .val (.int (6 : Int32)), .val (.ref b103), .val (.ref r124), .val (.int (1 : Int32))] [(.int (1 : Int32))]))
    refine own_Fin.step (fun _ => XS.ifNo X128.here hx rfl (hb hby at_185) rfl (XT.i0_eq_f (by decide : ¬ ((1 : Int32) = (0 : Int32))))) ?_
    show own_Fin p e below s _ _ _ (T128.setTop (mkF m 188 #[.val (.int p1), .val (.int p2), .val (.int p3), .val (.int p4), .val (.int p5), .val (.int (6 : Int32)), .val (.ref b103), .val (.ref r124), .val (.int (1 : Int32))] []))
    refine own_Fin.step (fun _ => XS.iload X128.here hx rfl (hb hby at_188) rfl) ?_
    show own_Fin p e below s _ _ _ (T128.setTop (mkF m 190 #[.val (.int p1), .val (.int p2), .val (.int p3), .val (.int p4), .val (.int p5), .val (.int (6 : Int32)), .val (.ref b103), .val (.ref r124), .val (.int (1 : Int32))] [(.int (6 : Int32))]))
    refine own_Fin.step (fun _ => XS.iconst X128.here hx rfl (hb hby at_190)) ?_
    show own_Fin p e below s _ _ _ (T128.setTop (mkF m 191 #[.val (.int p1), .val (.int p2), .val (.int p3), .val (.int p4), .val (.int p5), .val (.int (6 : Int32)), .val (.ref b103), .val (.ref r124), .val (.int (1 : Int32))] [(.int (1 : Int32)), (.int (6 : Int32))]))
    refine own_Fin.step (fun _ => XS.icmpNo X128.here hx rfl (hb hby at_191) rfl (XT.ii_le_f (by decide : (1 : Int32) < (6 : Int32)))) ?_
    show own_Fin p e below s _ _ _ (T128.setTop (mkF m 194 #[.val (.int p1), .val (.int p2), .val (.int p3), .val (.int p4), .val (.int p5), .val (.int (6 : Int32)), .val (.ref b103), .val (.ref r124), .val (.int (1 : Int32))] []))
    refine own_Fin.step (fun _ => XS.aload X128.here hx rfl (hb hby at_194) rfl rfl) ?_
    show own_Fin p e below s _ _ _ (T128.setTop (mkF m 196 #[.val (.int p1), .val (.int p2), .val (.int p3), .val (.int p4), .val (.int p5), .val (.int (6 : Int32)), .val (.ref b103), .val (.ref r124), .val (.int (1 : Int32))] [(.ref r124)]))
    refine own_Fin.step (fun _ => XS.iconst X128.here hx rfl (hb hby at_196)) ?_
    show own_Fin p e below s _ _ _ (T128.setTop (mkF m 197 #[.val (.int p1), .val (.int p2), .val (.int p3), .val (.int p4), .val (.int p5), .val (.int (6 : Int32)), .val (.ref b103), .val (.ref r124), .val (.int (1 : Int32))] [(.int (1 : Int32)), (.ref r124)]))
    refine own_Fin.step (own_ldFI X128 hx hZ e128 V124 (j := (1 : Int32)) ⟨by decide, by decide⟩ (g := (mkF m 197 #[.val (.int p1), .val (.int p2), .val (.int p3), .val (.int p4), .val (.int p5), .val (.int (6 : Int32)), .val (.ref b103), .val (.ref r124), .val (.int (1 : Int32))] [(.int (1 : Int32)), (.ref r124)])) rfl rfl (hb hby at_197)) ?_
    show own_Fin p e below s _ _ _ (T128.setTop (mkF m 198 #[.val (.int p1), .val (.int p2), .val (.int p3), .val (.int p4), .val (.int p5), .val (.int (6 : Int32)), .val (.ref b103), .val (.ref r124), .val (.int (1 : Int32))] [(.int (gt124 ((1 : Int32)).toNatClampNeg))]))
    refine own_Fin.step (fun _ => XS.aload X128.here hx rfl (hb hby at_198) rfl rfl) ?_
    show own_Fin p e below s _ _ _ (T128.setTop (mkF m 200 #[.val (.int p1), .val (.int p2), .val (.int p3), .val (.int p4), .val (.int p5), .val (.int (6 : Int32)), .val (.ref b103), .val (.ref r124), .val (.int (1 : Int32))] [(.ref b103), (.int (gt124 ((1 : Int32)).toNatClampNeg))]))
    refine own_Fin.step (fun _ => XS.iconst X128.here hx rfl (hb hby at_200)) ?_
    show own_Fin p e below s _ _ _ (T128.setTop (mkF m 201 #[.val (.int p1), .val (.int p2), .val (.int p3), .val (.int p4), .val (.int p5), .val (.int (6 : Int32)), .val (.ref b103), .val (.ref r124), .val (.int (1 : Int32))] [(.int (1 : Int32)), (.ref b103), (.int (gt124 ((1 : Int32)).toNatClampNeg))]))
    obtain ⟨_, T129, L129, X129, ⟨z129, rfl, N129q, e129, hz129⟩, st129⟩ := own_callS X128 hx hZ hown (own_w hw 14 rfl) (own_w hw 15 rfl) (own_w hw 9 rfl) (own_w hw 16 rfl) (by decide) (rm3b1 l Z a0 hw b103 k103 (6 : Int32) f T124.heap n0 Z124 f127 (by decide)) (by decide) (by decide) e128 (W := 1) (g := (mkF m 201 #[.val (.int p1), .val (.int p2), .val (.int p3), .val (.int p4), .val (.int p5), .val (.int (6 : Int32)), .val (.ref b103), .val (.ref r124), .val (.int (1 : Int32))] [(.int (1 : Int32)), (.ref b103), (.int (gt124 ((1 : Int32)).toNatClampNeg))])) rfl (by rw [hml]; rfl) (argsL := [(.ref b103), (.int (1 : Int32))]) (rest := [(.int (gt124 ((1 : Int32)).toNatClampNeg))]) (lenOf pd_4 rfl) rfl rfl (by show 2 * 0 + _ ≤ _; exact Nat.le_of_eq rfl) (hb hby at_201) (by decide) (by decide)
    have N129 := Fr.app N128 N129q
    refine own_Fin.step st129 ?_
    show own_Fin p e below s _ _ _ (T129.setTop (mkF m 204 #[.val (.int p1), .val (.int p2), .val (.int p3), .val (.int p4), .val (.int p5), .val (.int (6 : Int32)), .val (.ref b103), .val (.ref r124), .val (.int (1 : Int32))] [(.int z129), (.int (gt124 ((1 : Int32)).toNatClampNeg))]))
    refine own_Fin.step (fun _ => XS.icmpNo X129.here hx rfl (hb hby at_204) rfl (XT.ii_ne_f (own_uniq (hT124 1 (by decide)) hz129))) ?_
    show own_Fin p e below s _ _ _ (T129.setTop (mkF m 207 #[.val (.int p1), .val (.int p2), .val (.int p3), .val (.int p4), .val (.int p5), .val (.int (6 : Int32)), .val (.ref b103), .val (.ref r124), .val (.int (1 : Int32))] []))
    refine own_Fin.step (fun _ => XS.iconst X129.here hx rfl (hb hby at_207)) ?_
    show own_Fin p e below s _ _ _ (T129.setTop (mkF m 208 #[.val (.int p1), .val (.int p2), .val (.int p3), .val (.int p4), .val (.int p5), .val (.int (6 : Int32)), .val (.ref b103), .val (.ref r124), .val (.int (1 : Int32))] [(.int (1 : Int32))]))
    refine own_Fin.step (fun _ => XS.goto X129.here hx rfl (pc0 := 208) (pc' := 212) rfl (hb hby at_208) (by decide) (by decide)) ?_
    show own_Fin p e below s _ _ _ (T129.setTop (mkF m 212 #[.val (.int p1), .val (.int p2), .val (.int p3), .val (.int p4), .val (.int p5), .val (.int (6 : Int32)), .val (.ref b103), .val (.ref r124), .val (.int (1 : Int32))] [(.int (1 : Int32))]))
    refine own_Fin.step (fun _ => XS.istore X129.here hx rfl (hb hby at_212) rfl (l' := #[.val (.int p1), .val (.int p2), .val (.int p3), .val (.int p4), .val (.int p5), .val (.int (6 : Int32)), .val (.ref b103), .val (.ref r124), .val (.int (1 : Int32))]) rfl) ?_
    show own_Fin p e below s _ _ _ (T129.setTop (mkF m 214 #[.val (.int p1), .val (.int p2), .val (.int p3), .val (.int p4), .val (.int p5), .val (.int (6 : Int32)), .val (.ref b103), .val (.ref r124), .val (.int (1 : Int32))] []))
    refine own_Fin.step (fun _ => XS.iload X129.here hx rfl (hb hby at_214) rfl) ?_
    show own_Fin p e below s _ _ _ (T129.setTop (mkF m 216 #[.val (.int p1), .val (.int p2), .val (.int p3), .val (.int p4), .val (.int p5), .val (.int (6 : Int32)), .val (.ref b103), .val (.ref r124), .val (.int (1 : Int32))] [(.int (1 : Int32))]))
    refine own_Fin.step (fun _ => XS.ifNo X129.here hx rfl (hb hby at_216) rfl (XT.i0_eq_f (by decide : ¬ ((1 : Int32) = (0 : Int32))))) ?_
    show own_Fin p e below s _ _ _ (T129.setTop (mkF m 219 #[.val (.int p1), .val (.int p2), .val (.int p3), .val (.int p4), .val (.int p5), .val (.int (6 : Int32)), .val (.ref b103), .val (.ref r124), .val (.int (1 : Int32))] []))
    refine own_Fin.step (fun _ => XS.iload X129.here hx rfl (hb hby at_219) rfl) ?_
    show own_Fin p e below s _ _ _ (T129.setTop (mkF m 221 #[.val (.int p1), .val (.int p2), .val (.int p3), .val (.int p4), .val (.int p5), .val (.int (6 : Int32)), .val (.ref b103), .val (.ref r124), .val (.int (1 : Int32))] [(.int (6 : Int32))]))
    refine own_Fin.step (fun _ => XS.iconst X129.here hx rfl (hb hby at_221)) ?_
    show own_Fin p e below s _ _ _ (T129.setTop (mkF m 222 #[.val (.int p1), .val (.int p2), .val (.int p3), .val (.int p4), .val (.int p5), .val (.int (6 : Int32)), .val (.ref b103), .val (.ref r124), .val (.int (1 : Int32))] [(.int (2 : Int32)), (.int (6 : Int32))]))
    refine own_Fin.step (fun _ => XS.icmpNo X129.here hx rfl (hb hby at_222) rfl (XT.ii_le_f (by decide : (2 : Int32) < (6 : Int32)))) ?_
    show own_Fin p e below s _ _ _ (T129.setTop (mkF m 225 #[.val (.int p1), .val (.int p2), .val (.int p3), .val (.int p4), .val (.int p5), .val (.int (6 : Int32)), .val (.ref b103), .val (.ref r124), .val (.int (1 : Int32))] []))
    refine own_Fin.step (fun _ => XS.aload X129.here hx rfl (hb hby at_225) rfl rfl) ?_
    show own_Fin p e below s _ _ _ (T129.setTop (mkF m 227 #[.val (.int p1), .val (.int p2), .val (.int p3), .val (.int p4), .val (.int p5), .val (.int (6 : Int32)), .val (.ref b103), .val (.ref r124), .val (.int (1 : Int32))] [(.ref r124)]))
    refine own_Fin.step (fun _ => XS.iconst X129.here hx rfl (hb hby at_227)) ?_
    show own_Fin p e below s _ _ _ (T129.setTop (mkF m 228 #[.val (.int p1), .val (.int p2), .val (.int p3), .val (.int p4), .val (.int p5), .val (.int (6 : Int32)), .val (.ref b103), .val (.ref r124), .val (.int (1 : Int32))] [(.int (2 : Int32)), (.ref r124)]))
    refine own_Fin.step (own_ldFI X129 hx hZ e129 V124 (j := (2 : Int32)) ⟨by decide, by decide⟩ (g := (mkF m 228 #[.val (.int p1), .val (.int p2), .val (.int p3), .val (.int p4), .val (.int p5), .val (.int (6 : Int32)), .val (.ref b103), .val (.ref r124), .val (.int (1 : Int32))] [(.int (2 : Int32)), (.ref r124)])) rfl rfl (hb hby at_228)) ?_
    show own_Fin p e below s _ _ _ (T129.setTop (mkF m 229 #[.val (.int p1), .val (.int p2), .val (.int p3), .val (.int p4), .val (.int p5), .val (.int (6 : Int32)), .val (.ref b103), .val (.ref r124), .val (.int (1 : Int32))] [(.int (gt124 ((2 : Int32)).toNatClampNeg))]))
    refine own_Fin.step (fun _ => XS.aload X129.here hx rfl (hb hby at_229) rfl rfl) ?_
    show own_Fin p e below s _ _ _ (T129.setTop (mkF m 231 #[.val (.int p1), .val (.int p2), .val (.int p3), .val (.int p4), .val (.int p5), .val (.int (6 : Int32)), .val (.ref b103), .val (.ref r124), .val (.int (1 : Int32))] [(.ref b103), (.int (gt124 ((2 : Int32)).toNatClampNeg))]))
    refine own_Fin.step (fun _ => XS.iconst X129.here hx rfl (hb hby at_231)) ?_
    show own_Fin p e below s _ _ _ (T129.setTop (mkF m 232 #[.val (.int p1), .val (.int p2), .val (.int p3), .val (.int p4), .val (.int p5), .val (.int (6 : Int32)), .val (.ref b103), .val (.ref r124), .val (.int (1 : Int32))] [(.int (2 : Int32)), (.ref b103), (.int (gt124 ((2 : Int32)).toNatClampNeg))]))
    obtain ⟨_, T130, L130, X130, ⟨z130, rfl, N130q, e130, hz130⟩, st130⟩ := own_callS X129 hx hZ hown (own_w hw 14 rfl) (own_w hw 15 rfl) (own_w hw 9 rfl) (own_w hw 16 rfl) (by decide) (rm3b2 l Z a0 hw b103 k103 (6 : Int32) f T124.heap n0 Z124 f127 (by decide)) (by decide) (by decide) e129 (W := 1) (g := (mkF m 232 #[.val (.int p1), .val (.int p2), .val (.int p3), .val (.int p4), .val (.int p5), .val (.int (6 : Int32)), .val (.ref b103), .val (.ref r124), .val (.int (1 : Int32))] [(.int (2 : Int32)), (.ref b103), (.int (gt124 ((2 : Int32)).toNatClampNeg))])) rfl (by rw [hml]; rfl) (argsL := [(.ref b103), (.int (2 : Int32))]) (rest := [(.int (gt124 ((2 : Int32)).toNatClampNeg))]) (lenOf pd_4 rfl) rfl rfl (by show 2 * 0 + _ ≤ _; exact Nat.le_of_eq rfl) (hb hby at_232) (by decide) (by decide)
    have N130 := Fr.app N129 N130q
    refine own_Fin.step st130 ?_
    show own_Fin p e below s _ _ _ (T130.setTop (mkF m 235 #[.val (.int p1), .val (.int p2), .val (.int p3), .val (.int p4), .val (.int p5), .val (.int (6 : Int32)), .val (.ref b103), .val (.ref r124), .val (.int (1 : Int32))] [(.int z130), (.int (gt124 ((2 : Int32)).toNatClampNeg))]))
    refine own_Fin.step (fun _ => XS.icmpNo X130.here hx rfl (hb hby at_235) rfl (XT.ii_ne_f (own_uniq (hT124 2 (by decide)) hz130))) ?_
    show own_Fin p e below s _ _ _ (T130.setTop (mkF m 238 #[.val (.int p1), .val (.int p2), .val (.int p3), .val (.int p4), .val (.int p5), .val (.int (6 : Int32)), .val (.ref b103), .val (.ref r124), .val (.int (1 : Int32))] []))
    refine own_Fin.step (fun _ => XS.iconst X130.here hx rfl (hb hby at_238)) ?_
    show own_Fin p e below s _ _ _ (T130.setTop (mkF m 239 #[.val (.int p1), .val (.int p2), .val (.int p3), .val (.int p4), .val (.int p5), .val (.int (6 : Int32)), .val (.ref b103), .val (.ref r124), .val (.int (1 : Int32))] [(.int (1 : Int32))]))
    refine own_Fin.step (fun _ => XS.goto X130.here hx rfl (pc0 := 239) (pc' := 243) rfl (hb hby at_239) (by decide) (by decide)) ?_
    show own_Fin p e below s _ _ _ (T130.setTop (mkF m 243 #[.val (.int p1), .val (.int p2), .val (.int p3), .val (.int p4), .val (.int p5), .val (.int (6 : Int32)), .val (.ref b103), .val (.ref r124), .val (.int (1 : Int32))] [(.int (1 : Int32))]))
    refine own_Fin.step (fun _ => XS.istore X130.here hx rfl (hb hby at_243) rfl (l' := #[.val (.int p1), .val (.int p2), .val (.int p3), .val (.int p4), .val (.int p5), .val (.int (6 : Int32)), .val (.ref b103), .val (.ref r124), .val (.int (1 : Int32))]) rfl) ?_
    show own_Fin p e below s _ _ _ (T130.setTop (mkF m 245 #[.val (.int p1), .val (.int p2), .val (.int p3), .val (.int p4), .val (.int p5), .val (.int (6 : Int32)), .val (.ref b103), .val (.ref r124), .val (.int (1 : Int32))] []))
    refine own_Fin.step (fun _ => XS.iload X130.here hx rfl (hb hby at_245) rfl) ?_
    show own_Fin p e below s _ _ _ (T130.setTop (mkF m 247 #[.val (.int p1), .val (.int p2), .val (.int p3), .val (.int p4), .val (.int p5), .val (.int (6 : Int32)), .val (.ref b103), .val (.ref r124), .val (.int (1 : Int32))] [(.int (1 : Int32))]))
    refine own_Fin.step (fun _ => XS.ifNo X130.here hx rfl (hb hby at_247) rfl (XT.i0_eq_f (by decide : ¬ ((1 : Int32) = (0 : Int32))))) ?_
    show own_Fin p e below s _ _ _ (T130.setTop (mkF m 250 #[.val (.int p1), .val (.int p2), .val (.int p3), .val (.int p4), .val (.int p5), .val (.int (6 : Int32)), .val (.ref b103), .val (.ref r124), .val (.int (1 : Int32))] []))
    refine own_Fin.step (fun _ => XS.iload X130.here hx rfl (hb hby at_250) rfl) ?_
    show own_Fin p e below s _ _ _ (T130.setTop (mkF m 252 #[.val (.int p1), .val (.int p2), .val (.int p3), .val (.int p4), .val (.int p5), .val (.int (6 : Int32)), .val (.ref b103), .val (.ref r124), .val (.int (1 : Int32))] [(.int (6 : Int32))]))
    refine own_Fin.step (fun _ => XS.iconst X130.here hx rfl (hb hby at_252)) ?_
    show own_Fin p e below s _ _ _ (T130.setTop (mkF m 253 #[.val (.int p1), .val (.int p2), .val (.int p3), .val (.int p4), .val (.int p5), .val (.int (6 : Int32)), .val (.ref b103), .val (.ref r124), .val (.int (1 : Int32))] [(.int (3 : Int32)), (.int (6 : Int32))]))
    refine own_Fin.step (fun _ => XS.icmpNo X130.here hx rfl (hb hby at_253) rfl (XT.ii_le_f (by decide : (3 : Int32) < (6 : Int32)))) ?_
    show own_Fin p e below s _ _ _ (T130.setTop (mkF m 256 #[.val (.int p1), .val (.int p2), .val (.int p3), .val (.int p4), .val (.int p5), .val (.int (6 : Int32)), .val (.ref b103), .val (.ref r124), .val (.int (1 : Int32))] []))
    refine own_Fin.step (fun _ => XS.aload X130.here hx rfl (hb hby at_256) rfl rfl) ?_
    show own_Fin p e below s _ _ _ (T130.setTop (mkF m 258 #[.val (.int p1), .val (.int p2), .val (.int p3), .val (.int p4), .val (.int p5), .val (.int (6 : Int32)), .val (.ref b103), .val (.ref r124), .val (.int (1 : Int32))] [(.ref r124)]))
    refine own_Fin.step (fun _ => XS.iconst X130.here hx rfl (hb hby at_258)) ?_
    show own_Fin p e below s _ _ _ (T130.setTop (mkF m 259 #[.val (.int p1), .val (.int p2), .val (.int p3), .val (.int p4), .val (.int p5), .val (.int (6 : Int32)), .val (.ref b103), .val (.ref r124), .val (.int (1 : Int32))] [(.int (3 : Int32)), (.ref r124)]))
    refine own_Fin.step (own_ldFI X130 hx hZ e130 V124 (j := (3 : Int32)) ⟨by decide, by decide⟩ (g := (mkF m 259 #[.val (.int p1), .val (.int p2), .val (.int p3), .val (.int p4), .val (.int p5), .val (.int (6 : Int32)), .val (.ref b103), .val (.ref r124), .val (.int (1 : Int32))] [(.int (3 : Int32)), (.ref r124)])) rfl rfl (hb hby at_259)) ?_
    show own_Fin p e below s _ _ _ (T130.setTop (mkF m 260 #[.val (.int p1), .val (.int p2), .val (.int p3), .val (.int p4), .val (.int p5), .val (.int (6 : Int32)), .val (.ref b103), .val (.ref r124), .val (.int (1 : Int32))] [(.int (gt124 ((3 : Int32)).toNatClampNeg))]))
    refine own_Fin.step (fun _ => XS.aload X130.here hx rfl (hb hby at_260) rfl rfl) ?_
    show own_Fin p e below s _ _ _ (T130.setTop (mkF m 262 #[.val (.int p1), .val (.int p2), .val (.int p3), .val (.int p4), .val (.int p5), .val (.int (6 : Int32)), .val (.ref b103), .val (.ref r124), .val (.int (1 : Int32))] [(.ref b103), (.int (gt124 ((3 : Int32)).toNatClampNeg))]))
    refine own_Fin.step (fun _ => XS.iconst X130.here hx rfl (hb hby at_262)) ?_
    show own_Fin p e below s _ _ _ (T130.setTop (mkF m 263 #[.val (.int p1), .val (.int p2), .val (.int p3), .val (.int p4), .val (.int p5), .val (.int (6 : Int32)), .val (.ref b103), .val (.ref r124), .val (.int (1 : Int32))] [(.int (3 : Int32)), (.ref b103), (.int (gt124 ((3 : Int32)).toNatClampNeg))]))
    obtain ⟨_, T131, L131, X131, ⟨z131, rfl, N131q, e131, hz131⟩, st131⟩ := own_callS X130 hx hZ hown (own_w hw 14 rfl) (own_w hw 15 rfl) (own_w hw 9 rfl) (own_w hw 16 rfl) (by decide) (rm3b3 l Z a0 hw b103 k103 (6 : Int32) f T124.heap n0 Z124 f127 (by decide)) (by decide) (by decide) e130 (W := 1) (g := (mkF m 263 #[.val (.int p1), .val (.int p2), .val (.int p3), .val (.int p4), .val (.int p5), .val (.int (6 : Int32)), .val (.ref b103), .val (.ref r124), .val (.int (1 : Int32))] [(.int (3 : Int32)), (.ref b103), (.int (gt124 ((3 : Int32)).toNatClampNeg))])) rfl (by rw [hml]; rfl) (argsL := [(.ref b103), (.int (3 : Int32))]) (rest := [(.int (gt124 ((3 : Int32)).toNatClampNeg))]) (lenOf pd_4 rfl) rfl rfl (by show 2 * 0 + _ ≤ _; exact Nat.le_of_eq rfl) (hb hby at_263) (by decide) (by decide)
    have N131 := Fr.app N130 N131q
    refine own_Fin.step st131 ?_
    show own_Fin p e below s _ _ _ (T131.setTop (mkF m 266 #[.val (.int p1), .val (.int p2), .val (.int p3), .val (.int p4), .val (.int p5), .val (.int (6 : Int32)), .val (.ref b103), .val (.ref r124), .val (.int (1 : Int32))] [(.int z131), (.int (gt124 ((3 : Int32)).toNatClampNeg))]))
    refine own_Fin.step (fun _ => XS.icmpNo X131.here hx rfl (hb hby at_266) rfl (XT.ii_ne_f (own_uniq (hT124 3 (by decide)) hz131))) ?_
    show own_Fin p e below s _ _ _ (T131.setTop (mkF m 269 #[.val (.int p1), .val (.int p2), .val (.int p3), .val (.int p4), .val (.int p5), .val (.int (6 : Int32)), .val (.ref b103), .val (.ref r124), .val (.int (1 : Int32))] []))
    refine own_Fin.step (fun _ => XS.iconst X131.here hx rfl (hb hby at_269)) ?_
    show own_Fin p e below s _ _ _ (T131.setTop (mkF m 270 #[.val (.int p1), .val (.int p2), .val (.int p3), .val (.int p4), .val (.int p5), .val (.int (6 : Int32)), .val (.ref b103), .val (.ref r124), .val (.int (1 : Int32))] [(.int (1 : Int32))]))
    refine own_Fin.step (fun _ => XS.goto X131.here hx rfl (pc0 := 270) (pc' := 274) rfl (hb hby at_270) (by decide) (by decide)) ?_
    show own_Fin p e below s _ _ _ (T131.setTop (mkF m 274 #[.val (.int p1), .val (.int p2), .val (.int p3), .val (.int p4), .val (.int p5), .val (.int (6 : Int32)), .val (.ref b103), .val (.ref r124), .val (.int (1 : Int32))] [(.int (1 : Int32))]))
    refine own_Fin.step (fun _ => XS.istore X131.here hx rfl (hb hby at_274) rfl (l' := #[.val (.int p1), .val (.int p2), .val (.int p3), .val (.int p4), .val (.int p5), .val (.int (6 : Int32)), .val (.ref b103), .val (.ref r124), .val (.int (1 : Int32))]) rfl) ?_
    show own_Fin p e below s _ _ _ (T131.setTop (mkF m 276 #[.val (.int p1), .val (.int p2), .val (.int p3), .val (.int p4), .val (.int p5), .val (.int (6 : Int32)), .val (.ref b103), .val (.ref r124), .val (.int (1 : Int32))] []))
    refine own_Fin.step (fun _ => XS.iload X131.here hx rfl (hb hby at_276) rfl) ?_
    show own_Fin p e below s _ _ _ (T131.setTop (mkF m 278 #[.val (.int p1), .val (.int p2), .val (.int p3), .val (.int p4), .val (.int p5), .val (.int (6 : Int32)), .val (.ref b103), .val (.ref r124), .val (.int (1 : Int32))] [(.int (1 : Int32))]))
    refine own_Fin.step (fun _ => XS.ifNo X131.here hx rfl (hb hby at_278) rfl (XT.i0_eq_f (by decide : ¬ ((1 : Int32) = (0 : Int32))))) ?_
    show own_Fin p e below s _ _ _ (T131.setTop (mkF m 281 #[.val (.int p1), .val (.int p2), .val (.int p3), .val (.int p4), .val (.int p5), .val (.int (6 : Int32)), .val (.ref b103), .val (.ref r124), .val (.int (1 : Int32))] []))
    refine own_Fin.step (fun _ => XS.iload X131.here hx rfl (hb hby at_281) rfl) ?_
    show own_Fin p e below s _ _ _ (T131.setTop (mkF m 283 #[.val (.int p1), .val (.int p2), .val (.int p3), .val (.int p4), .val (.int p5), .val (.int (6 : Int32)), .val (.ref b103), .val (.ref r124), .val (.int (1 : Int32))] [(.int (6 : Int32))]))
    refine own_Fin.step (fun _ => XS.iconst X131.here hx rfl (hb hby at_283)) ?_
    show own_Fin p e below s _ _ _ (T131.setTop (mkF m 284 #[.val (.int p1), .val (.int p2), .val (.int p3), .val (.int p4), .val (.int p5), .val (.int (6 : Int32)), .val (.ref b103), .val (.ref r124), .val (.int (1 : Int32))] [(.int (4 : Int32)), (.int (6 : Int32))]))
    refine own_Fin.step (fun _ => XS.icmpNo X131.here hx rfl (hb hby at_284) rfl (XT.ii_le_f (by decide : (4 : Int32) < (6 : Int32)))) ?_
    show own_Fin p e below s _ _ _ (T131.setTop (mkF m 287 #[.val (.int p1), .val (.int p2), .val (.int p3), .val (.int p4), .val (.int p5), .val (.int (6 : Int32)), .val (.ref b103), .val (.ref r124), .val (.int (1 : Int32))] []))
    refine own_Fin.step (fun _ => XS.aload X131.here hx rfl (hb hby at_287) rfl rfl) ?_
    show own_Fin p e below s _ _ _ (T131.setTop (mkF m 289 #[.val (.int p1), .val (.int p2), .val (.int p3), .val (.int p4), .val (.int p5), .val (.int (6 : Int32)), .val (.ref b103), .val (.ref r124), .val (.int (1 : Int32))] [(.ref r124)]))
    refine own_Fin.step (fun _ => XS.iconst X131.here hx rfl (hb hby at_289)) ?_
    show own_Fin p e below s _ _ _ (T131.setTop (mkF m 290 #[.val (.int p1), .val (.int p2), .val (.int p3), .val (.int p4), .val (.int p5), .val (.int (6 : Int32)), .val (.ref b103), .val (.ref r124), .val (.int (1 : Int32))] [(.int (4 : Int32)), (.ref r124)]))
    refine own_Fin.step (own_ldFI X131 hx hZ e131 V124 (j := (4 : Int32)) ⟨by decide, by decide⟩ (g := (mkF m 290 #[.val (.int p1), .val (.int p2), .val (.int p3), .val (.int p4), .val (.int p5), .val (.int (6 : Int32)), .val (.ref b103), .val (.ref r124), .val (.int (1 : Int32))] [(.int (4 : Int32)), (.ref r124)])) rfl rfl (hb hby at_290)) ?_
    show own_Fin p e below s _ _ _ (T131.setTop (mkF m 291 #[.val (.int p1), .val (.int p2), .val (.int p3), .val (.int p4), .val (.int p5), .val (.int (6 : Int32)), .val (.ref b103), .val (.ref r124), .val (.int (1 : Int32))] [(.int (gt124 ((4 : Int32)).toNatClampNeg))]))
    refine own_Fin.step (fun _ => XS.aload X131.here hx rfl (hb hby at_291) rfl rfl) ?_
    show own_Fin p e below s _ _ _ (T131.setTop (mkF m 293 #[.val (.int p1), .val (.int p2), .val (.int p3), .val (.int p4), .val (.int p5), .val (.int (6 : Int32)), .val (.ref b103), .val (.ref r124), .val (.int (1 : Int32))] [(.ref b103), (.int (gt124 ((4 : Int32)).toNatClampNeg))]))
    refine own_Fin.step (fun _ => XS.iconst X131.here hx rfl (hb hby at_293)) ?_
    show own_Fin p e below s _ _ _ (T131.setTop (mkF m 294 #[.val (.int p1), .val (.int p2), .val (.int p3), .val (.int p4), .val (.int p5), .val (.int (6 : Int32)), .val (.ref b103), .val (.ref r124), .val (.int (1 : Int32))] [(.int (4 : Int32)), (.ref b103), (.int (gt124 ((4 : Int32)).toNatClampNeg))]))
    obtain ⟨_, T132, L132, X132, ⟨z132, rfl, N132q, e132, hz132⟩, st132⟩ := own_callS X131 hx hZ hown (own_w hw 14 rfl) (own_w hw 15 rfl) (own_w hw 9 rfl) (own_w hw 16 rfl) (by decide) (rm3b4 l Z a0 hw b103 k103 (6 : Int32) f T124.heap n0 Z124 f127 (by decide)) (by decide) (by decide) e131 (W := 1) (g := (mkF m 294 #[.val (.int p1), .val (.int p2), .val (.int p3), .val (.int p4), .val (.int p5), .val (.int (6 : Int32)), .val (.ref b103), .val (.ref r124), .val (.int (1 : Int32))] [(.int (4 : Int32)), (.ref b103), (.int (gt124 ((4 : Int32)).toNatClampNeg))])) rfl (by rw [hml]; rfl) (argsL := [(.ref b103), (.int (4 : Int32))]) (rest := [(.int (gt124 ((4 : Int32)).toNatClampNeg))]) (lenOf pd_4 rfl) rfl rfl (by show 2 * 0 + _ ≤ _; exact Nat.le_of_eq rfl) (hb hby at_294) (by decide) (by decide)
    have N132 := Fr.app N131 N132q
    refine own_Fin.step st132 ?_
    show own_Fin p e below s _ _ _ (T132.setTop (mkF m 297 #[.val (.int p1), .val (.int p2), .val (.int p3), .val (.int p4), .val (.int p5), .val (.int (6 : Int32)), .val (.ref b103), .val (.ref r124), .val (.int (1 : Int32))] [(.int z132), (.int (gt124 ((4 : Int32)).toNatClampNeg))]))
    refine own_Fin.step (fun _ => XS.icmpNo X132.here hx rfl (hb hby at_297) rfl (XT.ii_ne_f (own_uniq (hT124 4 (by decide)) hz132))) ?_
    show own_Fin p e below s _ _ _ (T132.setTop (mkF m 300 #[.val (.int p1), .val (.int p2), .val (.int p3), .val (.int p4), .val (.int p5), .val (.int (6 : Int32)), .val (.ref b103), .val (.ref r124), .val (.int (1 : Int32))] []))
    refine own_Fin.step (fun _ => XS.iconst X132.here hx rfl (hb hby at_300)) ?_
    show own_Fin p e below s _ _ _ (T132.setTop (mkF m 301 #[.val (.int p1), .val (.int p2), .val (.int p3), .val (.int p4), .val (.int p5), .val (.int (6 : Int32)), .val (.ref b103), .val (.ref r124), .val (.int (1 : Int32))] [(.int (1 : Int32))]))
    refine own_Fin.step (fun _ => XS.goto X132.here hx rfl (pc0 := 301) (pc' := 305) rfl (hb hby at_301) (by decide) (by decide)) ?_
    show own_Fin p e below s _ _ _ (T132.setTop (mkF m 305 #[.val (.int p1), .val (.int p2), .val (.int p3), .val (.int p4), .val (.int p5), .val (.int (6 : Int32)), .val (.ref b103), .val (.ref r124), .val (.int (1 : Int32))] [(.int (1 : Int32))]))
    refine own_Fin.step (fun _ => XS.istore X132.here hx rfl (hb hby at_305) rfl (l' := #[.val (.int p1), .val (.int p2), .val (.int p3), .val (.int p4), .val (.int p5), .val (.int (6 : Int32)), .val (.ref b103), .val (.ref r124), .val (.int (1 : Int32))]) rfl) ?_
    show own_Fin p e below s _ _ _ (T132.setTop (mkF m 307 #[.val (.int p1), .val (.int p2), .val (.int p3), .val (.int p4), .val (.int p5), .val (.int (6 : Int32)), .val (.ref b103), .val (.ref r124), .val (.int (1 : Int32))] []))
    refine own_Fin.step (fun _ => XS.iload X132.here hx rfl (hb hby at_307) rfl) ?_
    show own_Fin p e below s _ _ _ (T132.setTop (mkF m 309 #[.val (.int p1), .val (.int p2), .val (.int p3), .val (.int p4), .val (.int p5), .val (.int (6 : Int32)), .val (.ref b103), .val (.ref r124), .val (.int (1 : Int32))] [(.int (1 : Int32))]))
    refine own_Fin.step (fun _ => XS.ifNo X132.here hx rfl (hb hby at_309) rfl (XT.i0_eq_f (by decide : ¬ ((1 : Int32) = (0 : Int32))))) ?_
    show own_Fin p e below s _ _ _ (T132.setTop (mkF m 312 #[.val (.int p1), .val (.int p2), .val (.int p3), .val (.int p4), .val (.int p5), .val (.int (6 : Int32)), .val (.ref b103), .val (.ref r124), .val (.int (1 : Int32))] []))
    refine own_Fin.step (fun _ => XS.iload X132.here hx rfl (hb hby at_312) rfl) ?_
    show own_Fin p e below s _ _ _ (T132.setTop (mkF m 314 #[.val (.int p1), .val (.int p2), .val (.int p3), .val (.int p4), .val (.int p5), .val (.int (6 : Int32)), .val (.ref b103), .val (.ref r124), .val (.int (1 : Int32))] [(.int (6 : Int32))]))
    refine own_Fin.step (fun _ => XS.iconst X132.here hx rfl (hb hby at_314)) ?_
    show own_Fin p e below s _ _ _ (T132.setTop (mkF m 315 #[.val (.int p1), .val (.int p2), .val (.int p3), .val (.int p4), .val (.int p5), .val (.int (6 : Int32)), .val (.ref b103), .val (.ref r124), .val (.int (1 : Int32))] [(.int (5 : Int32)), (.int (6 : Int32))]))
    refine own_Fin.step (fun _ => XS.icmpNo X132.here hx rfl (hb hby at_315) rfl (XT.ii_le_f (by decide : (5 : Int32) < (6 : Int32)))) ?_
    show own_Fin p e below s _ _ _ (T132.setTop (mkF m 318 #[.val (.int p1), .val (.int p2), .val (.int p3), .val (.int p4), .val (.int p5), .val (.int (6 : Int32)), .val (.ref b103), .val (.ref r124), .val (.int (1 : Int32))] []))
    refine own_Fin.step (fun _ => XS.aload X132.here hx rfl (hb hby at_318) rfl rfl) ?_
    show own_Fin p e below s _ _ _ (T132.setTop (mkF m 320 #[.val (.int p1), .val (.int p2), .val (.int p3), .val (.int p4), .val (.int p5), .val (.int (6 : Int32)), .val (.ref b103), .val (.ref r124), .val (.int (1 : Int32))] [(.ref r124)]))
    refine own_Fin.step (fun _ => XS.iconst X132.here hx rfl (hb hby at_320)) ?_
    show own_Fin p e below s _ _ _ (T132.setTop (mkF m 321 #[.val (.int p1), .val (.int p2), .val (.int p3), .val (.int p4), .val (.int p5), .val (.int (6 : Int32)), .val (.ref b103), .val (.ref r124), .val (.int (1 : Int32))] [(.int (5 : Int32)), (.ref r124)]))
    refine own_Fin.step (own_ldFI X132 hx hZ e132 V124 (j := (5 : Int32)) ⟨by decide, by decide⟩ (g := (mkF m 321 #[.val (.int p1), .val (.int p2), .val (.int p3), .val (.int p4), .val (.int p5), .val (.int (6 : Int32)), .val (.ref b103), .val (.ref r124), .val (.int (1 : Int32))] [(.int (5 : Int32)), (.ref r124)])) rfl rfl (hb hby at_321)) ?_
    show own_Fin p e below s _ _ _ (T132.setTop (mkF m 322 #[.val (.int p1), .val (.int p2), .val (.int p3), .val (.int p4), .val (.int p5), .val (.int (6 : Int32)), .val (.ref b103), .val (.ref r124), .val (.int (1 : Int32))] [(.int (gt124 ((5 : Int32)).toNatClampNeg))]))
    refine own_Fin.step (fun _ => XS.aload X132.here hx rfl (hb hby at_322) rfl rfl) ?_
    show own_Fin p e below s _ _ _ (T132.setTop (mkF m 324 #[.val (.int p1), .val (.int p2), .val (.int p3), .val (.int p4), .val (.int p5), .val (.int (6 : Int32)), .val (.ref b103), .val (.ref r124), .val (.int (1 : Int32))] [(.ref b103), (.int (gt124 ((5 : Int32)).toNatClampNeg))]))
    refine own_Fin.step (fun _ => XS.iconst X132.here hx rfl (hb hby at_324)) ?_
    show own_Fin p e below s _ _ _ (T132.setTop (mkF m 325 #[.val (.int p1), .val (.int p2), .val (.int p3), .val (.int p4), .val (.int p5), .val (.int (6 : Int32)), .val (.ref b103), .val (.ref r124), .val (.int (1 : Int32))] [(.int (5 : Int32)), (.ref b103), (.int (gt124 ((5 : Int32)).toNatClampNeg))]))
    obtain ⟨_, T133, L133, X133, ⟨z133, rfl, N133q, e133, hz133⟩, st133⟩ := own_callS X132 hx hZ hown (own_w hw 14 rfl) (own_w hw 15 rfl) (own_w hw 9 rfl) (own_w hw 16 rfl) (by decide) (rm3b5 l Z a0 hw b103 k103 (6 : Int32) f T124.heap n0 Z124 f127 (by decide)) (by decide) (by decide) e132 (W := 1) (g := (mkF m 325 #[.val (.int p1), .val (.int p2), .val (.int p3), .val (.int p4), .val (.int p5), .val (.int (6 : Int32)), .val (.ref b103), .val (.ref r124), .val (.int (1 : Int32))] [(.int (5 : Int32)), (.ref b103), (.int (gt124 ((5 : Int32)).toNatClampNeg))])) rfl (by rw [hml]; rfl) (argsL := [(.ref b103), (.int (5 : Int32))]) (rest := [(.int (gt124 ((5 : Int32)).toNatClampNeg))]) (lenOf pd_4 rfl) rfl rfl (by show 2 * 0 + _ ≤ _; exact Nat.le_of_eq rfl) (hb hby at_325) (by decide) (by decide)
    have N133 := Fr.app N132 N133q
    refine own_Fin.step st133 ?_
    show own_Fin p e below s _ _ _ (T133.setTop (mkF m 328 #[.val (.int p1), .val (.int p2), .val (.int p3), .val (.int p4), .val (.int p5), .val (.int (6 : Int32)), .val (.ref b103), .val (.ref r124), .val (.int (1 : Int32))] [(.int z133), (.int (gt124 ((5 : Int32)).toNatClampNeg))]))
    refine own_Fin.step (fun _ => XS.icmpNo X133.here hx rfl (hb hby at_328) rfl (XT.ii_ne_f (own_uniq (hT124 5 (by decide)) hz133))) ?_
    show own_Fin p e below s _ _ _ (T133.setTop (mkF m 331 #[.val (.int p1), .val (.int p2), .val (.int p3), .val (.int p4), .val (.int p5), .val (.int (6 : Int32)), .val (.ref b103), .val (.ref r124), .val (.int (1 : Int32))] []))
    refine own_Fin.step (fun _ => XS.iconst X133.here hx rfl (hb hby at_331)) ?_
    show own_Fin p e below s _ _ _ (T133.setTop (mkF m 332 #[.val (.int p1), .val (.int p2), .val (.int p3), .val (.int p4), .val (.int p5), .val (.int (6 : Int32)), .val (.ref b103), .val (.ref r124), .val (.int (1 : Int32))] [(.int (1 : Int32))]))
    refine own_Fin.step (fun _ => XS.goto X133.here hx rfl (pc0 := 332) (pc' := 336) rfl (hb hby at_332) (by decide) (by decide)) ?_
    show own_Fin p e below s _ _ _ (T133.setTop (mkF m 336 #[.val (.int p1), .val (.int p2), .val (.int p3), .val (.int p4), .val (.int p5), .val (.int (6 : Int32)), .val (.ref b103), .val (.ref r124), .val (.int (1 : Int32))] [(.int (1 : Int32))]))
    refine own_Fin.step (fun _ => XS.istore X133.here hx rfl (hb hby at_336) rfl (l' := #[.val (.int p1), .val (.int p2), .val (.int p3), .val (.int p4), .val (.int p5), .val (.int (6 : Int32)), .val (.ref b103), .val (.ref r124), .val (.int (1 : Int32))]) rfl) ?_
    show own_Fin p e below s _ _ _ (T133.setTop (mkF m 338 #[.val (.int p1), .val (.int p2), .val (.int p3), .val (.int p4), .val (.int p5), .val (.int (6 : Int32)), .val (.ref b103), .val (.ref r124), .val (.int (1 : Int32))] []))
    refine own_Fin.step (fun _ => XS.iload X133.here hx rfl (hb hby at_338) rfl) ?_
    show own_Fin p e below s _ _ _ (T133.setTop (mkF m 340 #[.val (.int p1), .val (.int p2), .val (.int p3), .val (.int p4), .val (.int p5), .val (.int (6 : Int32)), .val (.ref b103), .val (.ref r124), .val (.int (1 : Int32))] [(.int (1 : Int32))]))
    exact own_retN X133 hx hlk (t := .boolean) hret (by simp) (hb hby at_340) ⟨rfl, N133⟩ (by decide) (by decide)
set_option maxRecDepth 65536 in
set_option maxHeartbeats 40000000 in
theorem comes_1 {Post : Tables → Env → Array Value → State → Outcome → State → Prop} (hpost : ∀ tb e args s v u, (limb_1_1.after args s (.returned v) u = true ∧ limb_1_2.after args s (.returned v) u = true ∧ True) → FrameEnd s (.returned v) u (Jvm.fieldLocs frame_1_writes args s ++ Jvm.arrayLocs frame_1_arrays args s ++ Jvm.staticLocs frame_1_statics s) 16 128 → Post tb e args s (.returned v) u) :
    ArmFor flags0 classFile x code maxLocals ret World_1 tables_1 room_1 Calls_1 rest_1 Pre_1 Post := by
  intro l hfl _ _ p e ha hc hk s m args below hf hA hF happ hP
  obtain ⟨hcalls, hrest, hpre⟩ := hP
  obtain ⟨-, -, -, hnamed, -, -, -, hat⟩ := (Spec.applies_iff hf).mp happ
  obtain ⟨hg, hn⟩ := and_e (Cond.before_iff.mp (show (Jvm.Cond.and given_1 narrow_1).before args s = true from hpre))
  obtain ⟨hcount, g0⟩ := and_e hg
  obtain ⟨a0, g1⟩ := and_e g0
  obtain ⟨a1, g2⟩ := and_e g1
  obtain ⟨a2, g3⟩ := and_e g2
  obtain ⟨a3, g4⟩ := and_e g3
  have a4 := g4
  obtain ⟨w0, w1, w2, w3, w4, rfl⟩ : ∃ w0 w1 w2 w3 w4 : Value, args = #[w0, w1, w2, w3, w4] := by
    have hs : args.size = 5 := by simpa [Cond.value, given_1] using hcount
    obtain ⟨L⟩ := args
    match L, hs with
    | [w0, w1, w2, w3, w4], _ => exact ⟨w0, w1, w2, w3, w4, rfl⟩
  have hw := fun d (hd : d ∈ tables_1) => atoms_spec (ws := Jvm.Cond.code x code maxLocals ret :: tables_1) hat d (List.mem_cons_of_mem _ hd)
  obtain ⟨i0, ei0⟩ := is_v a0
  obtain rfl : w0 = (.int i0) := Option.some.inj ei0
  obtain ⟨i1, ei1⟩ := is_v a1
  obtain rfl : w1 = (.int i1) := Option.some.inj ei1
  obtain ⟨i2, ei2⟩ := is_v a2
  obtain rfl : w2 = (.int i2) := Option.some.inj ei2
  obtain ⟨i3, ei3⟩ := is_v a3
  obtain rfl : w3 = (.int i3) := Option.some.inj ei3
  obtain ⟨i4, ei4⟩ := is_v a4
  obtain rfl : w4 = (.int i4) := Option.some.inj ei4
  obtain ⟨n, o, h1, h2, h3, _, L, rfl, ⟨rfl, N⟩, hq⟩ := rm0 l s _ hw i0 i1 i2 i3 i4 s.heap s.heap.size (Nat.le_refl _)  p e ha hc hk s m _ below hf ((Spec.applies_iff_loose hf).mp happ).1 ⟨rfl, State.Warmed39.refl s, rfl⟩ trivial
  refine ⟨n, _, h1, h2, h3, hpost _ _ _ _ _ _ ⟨Cond.after_iff.mpr rfl, Cond.after_iff.mpr (eq_i res_at (Term.int_eval (1)) rfl), trivial⟩ ⟨hq.1, hq.2.1, (hq.2.2.sift fun y hy => Or.inr (N y hy)).mono (by decide) (by decide)⟩⟩
theorem main_1_1 : Claimed_1_1 := comes_1 fun _ _ _ _ _ _ h hF => ⟨h.1, hF⟩
theorem main_1_2 : Claimed_1_2 := comes_1 fun _ _ _ _ _ _ h hF => ⟨h.2.1, hF⟩
end Jvm.Pilot.@@N@@
namespace Jvm.Pilot.@@N@@
open Jvm Jvm.ClassFile Sem Op Lib Jvm.Free Jvm.Stand Jvm.Pilot.@@N@@.Jvm.D
/-! MADE BY PROGRAM (witnessworld.py) out of the Statement's table words and the real class files: 10 classes; the members and pool entries that the words name. The judged class is class 1, her method 4. -/
namespace start1
open Jvm.ClassFile
def u (s : String) : CpInfo := .utf8 (stringToUtf16 s)
/-- a pool by its gaps: so many unusable entries, then the entry; so many at the end -/
def gap : Nat → List CpInfo → List CpInfo
  | 0, r => r
  | n + 1, r => .unusable :: gap n r
def poolList (es : List (Nat × CpInfo)) (last : Nat) : List CpInfo := es.foldr (fun e r => gap e.1 (e.2 :: r)) (gap last [])
def pool (es : List (Nat × CpInfo)) (last : Nat) : Array CpInfo := ⟨poolList es last⟩
def fileOf (pool : Array CpInfo) (this : Nat) (attrs : Array Attribute := #[]) (ms : Array MethodInfo := #[]) (fl : Nat := 33) (sup : Nat := 0) (ifs : Array Nat := #[]) (fds : Array FieldInfo := #[]) : ClassFile where
  minorVersion := 0
  majorVersion := 65
  constantPool := pool
  accessFlags := fl
  thisClass := this
  superClass := sup
  interfaces := ifs
  fields := fds
  methods := ms
  attributes := attrs
def plain (name : String) (sup : Option ClassId) : Class where
  name := name
  kind := .ordinary
  loader := none
  accessFlags := 33
  super := sup
  interfaces := #[]
  cf := none
  fields := #[]
  methods := #[]
  instanceTypes := #[]
  staticTypes := #[]
  resolved := #[]
  callSites := []
  init := .initialized
  statics := none
  mirror := none

def pool0 : Array CpInfo := pool [(5, u "<init>"), (0, u "()V"), (1, .class_ 10), (1, u "java/lang/Object")] 113

def k0m0 : Method := { name := "<init>", desc := "()V", sig := { parameters := [], returnType := none }, accessFlags := 1, code := none }
/-- java/lang/Object -/
def k0 : Class := { plain "java/lang/Object" none with
  accessFlags := 33
  interfaces := #[]
  cf := some (fileOf pool0 8 #[] #[{ accessFlags := 1, nameIndex := 5, descriptorIndex := 6, attributes := #[] }] 33 0 #[] #[])
  fields := #[]
  methods := #[k0m0]
  instanceTypes := #[]
  staticTypes := #[]
  resolved := Array.replicate 124 none
  statics := none }

def pool1 : Array CpInfo := pool [(2, .class_ 4), (1, u "java/lang/Object"), (0, u "<init>"), (0, u "()V"), (0, .methodref 8 9), (0, .class_ 10), (0, .nameAndType 11 12), (0, u "com/example/needlewise/needlewise/KnuthMorrisPrattPartialMatchPinLaw"), (0, u "eq"), (0, u "([BII)Z"), (0, .integer 2147483647), (0, .methodref 8 15), (0, .nameAndType 16 17), (0, u "pick"), (0, u "(IIIII)B"), (0, .methodref 19 20), (0, .class_ 21), (0, .nameAndType 22 23), (0, u "com/example/needlewise/needlewise/KnuthMorrisPratt"), (0, u "partialMatch"), (0, u "([B)[I"), (0, .methodref 8 25), (0, .nameAndType 26 27), (0, u "border"), (0, u "([BI)I"), (3, u "law"), (0, u "(IIIII)Z")] 6

def k1m0 : Method := { name := "<init>", desc := "()V", sig := { parameters := [], returnType := none }, accessFlags := 2, code := none }
def k1c1 : Code := { maxStack := 3, maxLocals := 6, code := method_2_code, exceptionTable := #[], attributes := #[] }
def k1m1 : Method := { name := "pick", desc := "(IIIII)B", sig := { parameters := [.int, .int, .int, .int, .int], returnType := some .byte }, accessFlags := 10, code := some k1c1 }
def k1c2 : Code := { maxStack := 4, maxLocals := 3, code := method_3_code, exceptionTable := #[], attributes := #[] }
def k1m2 : Method := { name := "eq", desc := "([BII)Z", sig := { parameters := [(.array .byte), .int, .int], returnType := some .boolean }, accessFlags := 10, code := some k1c2 }
def k1c3 : Code := { maxStack := 3, maxLocals := 2, code := method_4_code, exceptionTable := #[], attributes := #[] }
def k1m3 : Method := { name := "border", desc := "([BI)I", sig := { parameters := [(.array .byte), .int], returnType := some .int }, accessFlags := 10, code := some k1c3 }
def k1c4 : Code := { maxStack := 7, maxLocals := 9, code := code, exceptionTable := #[], attributes := #[] }
def k1m4 : Method := { name := "law", desc := "(IIIII)Z", sig := { parameters := [.int, .int, .int, .int, .int], returnType := some .boolean }, accessFlags := 9, code := some k1c4 }
/-- com/example/needlewise/needlewise/KnuthMorrisPrattPartialMatchPinLaw -/
def k1 : Class := { plain "com/example/needlewise/needlewise/KnuthMorrisPrattPartialMatchPinLaw" (some 0) with
  accessFlags := 49
  interfaces := #[]
  cf := some (fileOf pool1 8 #[] #[{ accessFlags := 2, nameIndex := 5, descriptorIndex := 6, attributes := #[] }, { accessFlags := 10, nameIndex := 16, descriptorIndex := 17, attributes := #[] }, { accessFlags := 10, nameIndex := 11, descriptorIndex := 12, attributes := #[] }, { accessFlags := 10, nameIndex := 26, descriptorIndex := 27, attributes := #[] }, { accessFlags := 9, nameIndex := 31, descriptorIndex := 32, attributes := #[] }] 49 2 #[] #[])
  fields := #[]
  methods := #[k1m0, k1m1, k1m2, k1m3, k1m4]
  instanceTypes := #[]
  staticTypes := #[]
  resolved := Array.replicate 39 none
  statics := none }

def pool2 : Array CpInfo := pool [(2, .class_ 4), (1, u "java/lang/Object"), (5, u "[B"), (3, .class_ 16), (1, u "com/example/needlewise/needlewise/Searcher"), (0, u "needle"), (14, u "head"), (0, u "J"), (6, u "headBits"), (2, u "ALGORITHMS"), (0, u "Ljava/util/Map;"), (59, .class_ 106), (1, u "com/example/needlewise/needlewise/Searcher$Walk"), (90, u "WORDS"), (0, u "Ljava/lang/invoke/VarHandle;"), (126, .class_ 326), (0, u "com/example/needlewise/needlewise/Searcher$Hits")] 65

/-- com/example/needlewise/needlewise/Searcher -/
def k2 : Class := { plain "com/example/needlewise/needlewise/Searcher" (some 0) with
  accessFlags := 1057
  interfaces := #[]
  cf := some (fileOf pool2 14 #[.nestMembers #[325, 104]] #[] 1057 2 #[] #[{ accessFlags := 26, nameIndex := 43, descriptorIndex := 44, attributes := #[] }, { accessFlags := 26, nameIndex := 197, descriptorIndex := 198, attributes := #[] }, { accessFlags := 16, nameIndex := 17, descriptorIndex := 10, attributes := #[] }, { accessFlags := 18, nameIndex := 32, descriptorIndex := 33, attributes := #[] }, { accessFlags := 18, nameIndex := 40, descriptorIndex := 33, attributes := #[] }])
  fields := #[{ name := "ALGORITHMS", type := (.object "java/util/Map"), accessFlags := 26, slot := 0, constantValue := 0 }, { name := "WORDS", type := (.object "java/lang/invoke/VarHandle"), accessFlags := 26, slot := 1, constantValue := 0 }, { name := "needle", type := (.array .byte), accessFlags := 16, slot := 0, constantValue := 0 }, { name := "head", type := .long, accessFlags := 18, slot := 1, constantValue := 0 }, { name := "headBits", type := .long, accessFlags := 18, slot := 2, constantValue := 0 }]
  methods := #[]
  instanceTypes := #[(.array .byte), .long, .long]
  staticTypes := #[(.object "java/util/Map"), (.object "java/lang/invoke/VarHandle")]
  resolved := Array.replicate 392 none
  statics := none }

def pool3 : Array CpInfo := pool [(2, .class_ 4), (1, u "com/example/needlewise/needlewise/Searcher"), (3, .class_ 10), (1, u "com/example/needlewise/needlewise/KnuthMorrisPratt"), (4, u "partialMatch"), (0, u "([B)[I"), (2, u "[I"), (2, u "breaks"), (0, u "[Z"), (0, .methodref 8 25), (0, .nameAndType 26 27), (0, u "advance"), (0, u "([B[IIB)I")] 54

def k3c0 : Code := { maxStack := 5, maxLocals := 4, code := prog_13_method_2_code, exceptionTable := #[], attributes := #[] }
def k3m0 : Method := { name := "partialMatch", desc := "([B)[I", sig := { parameters := [(.array .byte)], returnType := some (.array .int) }, accessFlags := 9, code := some k3c0 }
def k3c1 : Code := { maxStack := 3, maxLocals := 5, code := prog_13_method_3_code, exceptionTable := #[], attributes := #[] }
def k3m1 : Method := { name := "advance", desc := "([B[IIB)I", sig := { parameters := [(.array .byte), (.array .int), .int, .byte], returnType := some .int }, accessFlags := 10, code := some k3c1 }
/-- com/example/needlewise/needlewise/KnuthMorrisPratt -/
def k3 : Class := { plain "com/example/needlewise/needlewise/KnuthMorrisPratt" (some 2) with
  accessFlags := 49
  interfaces := #[]
  cf := some (fileOf pool3 8 #[] #[{ accessFlags := 9, nameIndex := 15, descriptorIndex := 16, attributes := #[] }, { accessFlags := 10, nameIndex := 26, descriptorIndex := 27, attributes := #[] }] 49 2 #[] #[{ accessFlags := 18, nameIndex := 15, descriptorIndex := 19, attributes := #[] }, { accessFlags := 18, nameIndex := 22, descriptorIndex := 23, attributes := #[] }])
  fields := #[{ name := "partialMatch", type := (.array .int), accessFlags := 18, slot := 3, constantValue := 0 }, { name := "breaks", type := (.array .boolean), accessFlags := 18, slot := 4, constantValue := 0 }]
  methods := #[k3m0, k3m1]
  instanceTypes := #[(.array .byte), .long, .long, (.array .int), (.array .boolean)]
  staticTypes := #[]
  resolved := Array.replicate 82 none
  statics := none }

def pool4 : Array CpInfo := pool [(1, u "java/lang/Cloneable"), (0, .class_ 1), (0, u "java/lang/Object"), (0, .class_ 3)] 3

/-- java/lang/Cloneable -/
def k4 : Class := { plain "java/lang/Cloneable" (some 0) with
  accessFlags := 1537
  interfaces := #[]
  cf := some (fileOf pool4 2 #[] #[] 1537 4 #[] #[])
  fields := #[]
  methods := #[]
  instanceTypes := #[]
  staticTypes := #[]
  resolved := Array.replicate 8 none
  statics := none }

def pool5 : Array CpInfo := pool [(1, u "java/io/Serializable"), (0, .class_ 1), (0, u "java/lang/Object"), (0, .class_ 3)] 3

/-- java/io/Serializable -/
def k5 : Class := { plain "java/io/Serializable" (some 0) with
  accessFlags := 1537
  interfaces := #[]
  cf := some (fileOf pool5 2 #[] #[] 1537 4 #[] #[])
  fields := #[]
  methods := #[]
  instanceTypes := #[]
  staticTypes := #[]
  resolved := Array.replicate 8 none
  statics := none }

/-- the primitive byte -/
def k6 : Class := { plain "byte" none with kind := .primitive 'B', accessFlags := 0x411 }
/-- [B -/
def k7 : Class := { plain "[B" (some 0) with kind := .array 6 .byte, interfaces := #[4, 5], accessFlags := 1041 }

/-- the primitive int -/
def k8 : Class := { plain "int" none with kind := .primitive 'I', accessFlags := 0x411 }
/-- [I -/
def k9 : Class := { plain "[I" (some 0) with kind := .array 8 .int, interfaces := #[4, 5], accessFlags := 1041 }

def heap : Heap := #[]
def classes : Array Class := #[k0, k1, k2, k3, k4, k5, k6, k7, k8, k9]
def interned : List (Array UInt16 × Addr) := []
def slotsUsed : Nat := 0
def theMethod : MethodId := ⟨1, 4⟩
def args0 : Array Value := #[.int 5, .int 1, .int 3, .int 4, .int 5]
def aboutOver (below : List Frame) : State where
  vm := { classes := classes, interned := interned.toArray }
  heap := heap
  slotsUsed := slotsUsed
  threads := #[{ frames := .invoking theMethod args0 :: below }]
def below0 : List Frame := [.native { method := ⟨0, 0⟩, args := #[] }]
def about1 : State := aboutOver below0
def p0 : Program := .bare "" "" ""
def e0 : Env := launch0.env 0 0 0
theorem w_frames : about1.frames = Frame.invoking theMethod args0 :: below0 := rfl
set_option maxRecDepth 65536 in
theorem w_args : argsFit about1.vm theMethod args0 = true := by decide +kernel
set_option maxRecDepth 65536 in
theorem w_heap : heapFits about1 = true := by decide +kernel
set_option maxRecDepth 65536 in
theorem w_runnable : about1.curStatus? = some .runnable := by decide +kernel
set_option maxRecDepth 65536 in
theorem w_alone : about1.alone = true := by decide +kernel
set_option maxRecDepth 65536 in
theorem w_named : about1.methodNamed? x = some theMethod := by decide +kernel
set_option maxRecDepth 65536 in
theorem w_hears : about1.hears theMethod below0 = true := by decide +kernel
set_option maxRecDepth 65536 in
theorem w_ripe : about1.ripe theMethod args0 below0 = true := by decide +kernel
theorem w_running : about1.status = .running := rfl
set_option maxRecDepth 65536 in
theorem w_room : about1.hasRoom e0.platform room_1 = true :=
  launch0.hasRoom_least _ room_1 (by decide +kernel) (by decide +kernel) (by decide +kernel) (by decide +kernel) (by decide +kernel) (by decide +kernel)
theorem allAtoms_all (ts : List Jvm.Cond) (a : Array Jvm.Value) (st : Jvm.State) : (allAtoms ts).before a st = ts.all (fun c => c.before a st) := by
  induction ts with
  | nil => rfl
  | cons c t ih =>
    show (Jvm.Cond.and c (allAtoms t)).before a st = _
    rw [Jvm.Cond.before_and, ih, List.all_cons]
def words1 : List Jvm.Cond := Jvm.Cond.code x code maxLocals ret :: tables_1
/-- a 'code' word, met by the world's own term for the bytes: nothing is compared byte by byte -/
theorem code_word {y : MethodName} {bytes : ByteArray} {mx : Nat} {rt : Option FieldType} {a : Array Value} {s : State} {m : MethodId} {meth : Method} {c : Code} (h1 : s.methodNamed? y = some m) (h2 : s.vm.method? m = some meth) (h3 : meth.code = some c) (h4 : c.code = bytes)
    (h5 : (c.maxLocals == mx && c.exceptionTable.isEmpty && decide (c.maxStack ≤ mostOperands) && decide (meth.sig.returnType = rt) && !meth.locks && decide (parseMethodDescriptor y.desc = some meth.sig)) = true) : (Jvm.Cond.code y bytes mx rt).before a s = true := by
  simp only [Bool.and_eq_true, beq_iff_eq, Bool.not_eq_true', decide_eq_true_eq] at h5
  obtain ⟨⟨⟨⟨⟨g1, g2⟩, g3⟩, g4⟩, g5⟩, g6⟩ := h5
  simp [Cond.before, Cond.holds, Cond.value, h1, h2, h3, h4, g1, g2, g3, g4, g5, g6]
def isCode : Jvm.Cond → Bool
  | .code _ _ _ _ => true
  | _ => false
theorem all_split {L : List Jvm.Cond} {P : Jvm.Cond → Bool} (h1 : L.all (fun c => isCode c || P c) = true) (h2 : ∀ c ∈ L.filter isCode, P c = true) : L.all P = true := by
  refine List.all_eq_true.mpr fun c hc => ?_
  have h := List.all_eq_true.mp h1 c hc
  rcases Bool.eq_false_or_eq_true (isCode c) with hi | hi
  · exact h2 c (List.mem_filter.mpr ⟨hc, hi⟩)
  · simpa [hi] using h
set_option maxRecDepth 65536 in
theorem w_c0 : (Jvm.Cond.code x code maxLocals ret).before args0 about1 = true := code_word (m := ⟨1, 4⟩) (meth := k1m4) (c := k1c4) (by decide +kernel) rfl rfl rfl (by decide +kernel)
set_option maxRecDepth 65536 in
theorem w_c1 : (Jvm.Cond.code ({ cls := "com/example/needlewise/needlewise/KnuthMorrisPratt", name := "partialMatch", desc := "([B)[I" } : Jvm.MethodName) prog_13_method_2_code (4 : Nat) (Option.some (Jvm.ClassFile.FieldType.array Jvm.ClassFile.FieldType.int))).before args0 about1 = true := code_word (m := ⟨3, 0⟩) (meth := k3m0) (c := k3c0) (by decide +kernel) rfl rfl rfl (by decide +kernel)
set_option maxRecDepth 65536 in
theorem w_c2 : (Jvm.Cond.code ({ cls := "com/example/needlewise/needlewise/KnuthMorrisPrattPartialMatchPinLaw", name := "pick", desc := "(IIIII)B" } : Jvm.MethodName) method_2_code (6 : Nat) (Option.some Jvm.ClassFile.FieldType.byte)).before args0 about1 = true := code_word (m := ⟨1, 1⟩) (meth := k1m1) (c := k1c1) (by decide +kernel) rfl rfl rfl (by decide +kernel)
set_option maxRecDepth 65536 in
theorem w_c3 : (Jvm.Cond.code ({ cls := "com/example/needlewise/needlewise/KnuthMorrisPratt", name := "advance", desc := "([B[IIB)I" } : Jvm.MethodName) prog_13_method_3_code (5 : Nat) (Option.some Jvm.ClassFile.FieldType.int)).before args0 about1 = true := code_word (m := ⟨3, 1⟩) (meth := k3m1) (c := k3c1) (by decide +kernel) rfl rfl rfl (by decide +kernel)
set_option maxRecDepth 65536 in
theorem w_c4 : (Jvm.Cond.code ({ cls := "com/example/needlewise/needlewise/KnuthMorrisPrattPartialMatchPinLaw", name := "border", desc := "([BI)I" } : Jvm.MethodName) method_4_code (2 : Nat) (Option.some Jvm.ClassFile.FieldType.int)).before args0 about1 = true := code_word (m := ⟨1, 3⟩) (meth := k1m3) (c := k1c3) (by decide +kernel) rfl rfl rfl (by decide +kernel)
set_option maxRecDepth 65536 in
theorem w_c5 : (Jvm.Cond.code ({ cls := "com/example/needlewise/needlewise/KnuthMorrisPrattPartialMatchPinLaw", name := "eq", desc := "([BII)Z" } : Jvm.MethodName) method_3_code (3 : Nat) (Option.some Jvm.ClassFile.FieldType.boolean)).before args0 about1 = true := code_word (m := ⟨1, 2⟩) (meth := k1m2) (c := k1c2) (by decide +kernel) rfl rfl rfl (by decide +kernel)
def codes1 : List Jvm.Cond := [Jvm.Cond.code x code maxLocals ret, Jvm.Cond.code ({ cls := "com/example/needlewise/needlewise/KnuthMorrisPratt", name := "partialMatch", desc := "([B)[I" } : Jvm.MethodName) prog_13_method_2_code (4 : Nat) (Option.some (Jvm.ClassFile.FieldType.array Jvm.ClassFile.FieldType.int)), Jvm.Cond.code ({ cls := "com/example/needlewise/needlewise/KnuthMorrisPrattPartialMatchPinLaw", name := "pick", desc := "(IIIII)B" } : Jvm.MethodName) method_2_code (6 : Nat) (Option.some Jvm.ClassFile.FieldType.byte), Jvm.Cond.code ({ cls := "com/example/needlewise/needlewise/KnuthMorrisPratt", name := "advance", desc := "([B[IIB)I" } : Jvm.MethodName) prog_13_method_3_code (5 : Nat) (Option.some Jvm.ClassFile.FieldType.int), Jvm.Cond.code ({ cls := "com/example/needlewise/needlewise/KnuthMorrisPrattPartialMatchPinLaw", name := "border", desc := "([BI)I" } : Jvm.MethodName) method_4_code (2 : Nat) (Option.some Jvm.ClassFile.FieldType.int), Jvm.Cond.code ({ cls := "com/example/needlewise/needlewise/KnuthMorrisPrattPartialMatchPinLaw", name := "eq", desc := "([BII)Z" } : Jvm.MethodName) method_3_code (3 : Nat) (Option.some Jvm.ClassFile.FieldType.boolean)]
set_option maxRecDepth 65536 in
theorem codes_eq : words1.filter isCode = codes1 := rfl
theorem w_codes : ∀ c ∈ words1.filter isCode, c.before args0 about1 = true := by
  rw [codes_eq]
  intro c hc
  simp only [codes1, List.mem_cons, List.not_mem_nil, or_false] at hc
  rcases hc with rfl | rfl | rfl | rfl | rfl | rfl
  · exact w_c0
  · exact w_c1
  · exact w_c2
  · exact w_c3
  · exact w_c4
  · exact w_c5
set_option maxRecDepth 65536 in
theorem w_t1 : words1.all (fun c => isCode c || c.before args0 about1) = true := by decide +kernel
theorem w_tables : (allAtoms (Jvm.Cond.code x code maxLocals ret :: tables_1)).before args0 about1 = true := by
  rw [allAtoms_all]
  show words1.all (fun c => c.before args0 about1) = true
  refine all_split ?_ w_codes
  rw [w_t1]
set_option maxRecDepth 65536 in
theorem w_case : (Jvm.Cond.and given_1 narrow_1).before args0 about1 = true := by decide +kernel
theorem w_applies : (headSpec (Jvm.Cond.code x code maxLocals ret :: tables_1) room_1).applies x e0.platform about1 = true :=
  (Spec.applies_iff w_frames).mpr ⟨w_running, w_runnable, w_alone, w_named, w_hears, w_ripe, w_room, w_tables⟩
theorem atStart : AtStart classFile x code maxLocals ret World_1 tables_1 room_1 Calls_1 rest_1 Pre_1 launch0 p0 e0 about1 theMethod args0 below0 :=
  ⟨lists_1, trivial, launch0.admits_env _ _ _, launch0.least_env, fairChoices_fair.cas, fairChoices_fair.clock, w_frames, w_args, w_heap, w_applies, trivial, trivial, w_case⟩
end start1
theorem witness_1 : WitnessClaimed_1 := ⟨start1.p0, start1.e0, start1.about1, start1.theMethod, start1.args0, start1.below0, start1.atStart⟩
end Jvm.Pilot.@@N@@
