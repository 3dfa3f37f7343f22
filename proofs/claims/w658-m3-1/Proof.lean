import JvmDerived
import JvmDerived.Pilot.@@N@@Statement
import JvmDerived.Pilot.@@N@@Code
set_option linter.unusedVariables false
set_option linter.unusedSimpArgs false
namespace Jvm.Pilot.@@N@@
open Jvm Jvm.ClassFile Sem Op Lib Jvm.Free Jvm.Stand Jvm.LawKit Jvm.RoadKit Bundle Jvm.Pilot.@@N@@.Jvm.D
theorem own_w {Z : State} {a0 : Array Value} (hw : ∀ d ∈ tables_1, d.before a0 Z = true) (k : Nat) {d : Jvm.Cond} (h : tables_1[k]? = some d) : d.before a0 Z = true := hw _ (List.mem_of_getElem? h)
/-- the run from U ends, and Q says what it leaves -/
def own_Fin (p : Program) (e : Env) (below : List Frame) (s : State) (Q : Option Value → Heap → List Loc → Prop) (k n : Nat) (U : State) : Prop :=
  ∃ s₂ o, Steps p.tables e below U s₂ ∧ s₂.status = .running ∧ Ended s₂ below o ∧ ∃ v L, o = .returned v ∧ Q v s₂.heap L ∧ FrameEnd s o s₂ L k n
theorem own_Fin.step {p : Program} {e : Env} {below : List Frame} {s : State} {Q : Option Value → Heap → List Loc → Prop} {k n : Nat} {U U' : State} (st : ∀ t, Steps p.tables e below U' t → Steps p.tables e below U t) (h : own_Fin p e below s Q k n U') : own_Fin p e below s Q k n U := by
  obtain ⟨s₂, o, h1, h2⟩ := h
  exact ⟨s₂, o, st _ h1, h2⟩
/-- a contract: called with as' at the heap h, the body leaves what Q says -/
abbrev own_Met (l : Launch) (Z : State) (ws : List Jvm.Cond) (y : MethodName) (bytes : ByteArray) (maxL : Nat) (ret : Option FieldType) (rm : Room) (as' : Array Value) (h : Heap) (Q : Option Value → Heap → List Loc → Prop) : Prop :=
  MetFree l y (head1 (Jvm.Cond.code y bytes maxL ret :: ws) rm) (fun a U => a = as' ∧ Z.Warmed39 U.vm ∧ U.heap = h) (fun _ _ _ _ _ => True) (fun _ U o U' => ∃ v L, o = .returned v ∧ Q v U'.heap L ∧ FrameEnd U o U' L rm.cells rm.slots)
/-- what a body leaves that returns w and writes nothing -/
def own_QP (w : Option Value) (h0 : Heap) (n0 : Nat) (v : Option Value) (h : Heap) (L : List Loc) : Prop := v = w ∧ Fr n0 L ∧ h = h0
/-- the law's own end -/
def own_Q0 (n0 : Nat) (v : Option Value) (h : Heap) (L : List Loc) : Prop := v = some (.int 1) ∧ Fr n0 L
theorem own_enter {l : Launch} {Z : State} {ws : List Jvm.Cond} {y : MethodName} {bytes : ByteArray} {maxL : Nat} {ret : Option FieldType} {rm : Room} {as' : Array Value} {h : Heap} {Q : Option Value → Heap → List Loc → Prop} (hp : plainFor y = true)
    (body : ∀ (p : Program) (e : Env) (s : State) (m : MethodId) (below : List Frame) (meth : Method) (c : Code) (s₁ : State), Stand p l e rm s m as' below meth c s₁ [] 0 0 → p.tables.exec = Jvm.exec → c.code = bytes → c.maxLocals = maxL → s.vm.findClass y.cls = some m.cls → meth.sig.returnType = ret → meth.locks = false → meth.name = y.name → Z.Warmed39 s.vm → s₁.heap = h →
      own_Fin p e below s Q rm.cells rm.slots (s₁.setTop (entryFrame m as' maxL))) : own_Met l Z ws y bytes maxL ret rm as' h Q := by
  refine MetFree.of_bodySF hp hisR ?_
  intro p e s m args below meth c s₁ Bd hml0 hP hK
  obtain ⟨rfl, hZ, hh⟩ := hP
  exact body p e s m below meth c s₁ (Stand.of_body Bd) Bd.exec Bd.bytes hml0 (findClass_of_methodNamed Bd.named) Bd.returns (BodyLoose.notSynchronized Bd) (name_of_methodNamed Bd.named Bd.method).1 hZ (by rw [← hh, Bd.state]; rfl)
section Own
variable {p : Program} {l : Launch} {e : Env} {R : Room} {s : State} {m : MethodId} {args : Array Value} {below : List Frame} {meth : Method} {c : Code} {T : State} {locs : List Loc} {cells slots : Nat} {Z : State} {a0 : Array Value} {h : Heap} {Q : Option Value → Heap → List Loc → Prop} {k n : Nat}
theorem own_retI (X : Stand p l e R s m args below meth c T locs cells slots) (hx : p.tables.exec = Jvm.exec) (hlk : meth.locks = false) {pc : Nat} {Ls : Array Slot} {z : Int32} {rest : List Value} (hret : meth.sig.returnType = some .int) (hd : decode c.code pc = .ok (.ireturn, 1)) (hQ : Q (some (.int z)) T.heap locs) (hk : cells ≤ k) (hn : slots ≤ n) :
    own_Fin p e below s Q k n (T.setTop (mkF m pc Ls (.int z :: rest))) := by
  obtain ⟨fs, hr, hrun, hended, hW, hsame⟩ := X.leave (v := some (.int z)) (fun h => by rw [hret] at h; cases h) hlk
  refine ⟨_, _, ?_, hrun, hended, _, _, rfl, hQ, ⟨_, rfl⟩, hW, hsame.mono hk hn⟩
  have hm' : T.vm.method? m = some meth := X.method'
  have hnn : narrow .int (.int z) = .int z := rfl
  show Steps p.tables e below (T.setTop { method := m, pc := pc, locals := Ls, stack := _ :: rest, locked := none }) _
  jvm_step X.here [X.here.top, hx, hd, hm', hret, hnn]
  first | (intro acts; rw [hr _ acts rfl rfl rfl]) | rw [hr _ _ rfl rfl rfl]
  exact Steps.refl _
theorem own_retN (X : Stand p l e R s m args below meth c T locs cells slots) (hx : p.tables.exec = Jvm.exec) (hlk : meth.locks = false) {pc : Nat} {Ls : Array Slot} {z : Int32} {t : FieldType} {rest : List Value} (hret : meth.sig.returnType = some t) (ht : t = .boolean ∨ t = .byte ∨ t = .char ∨ t = .short) (hd : decode c.code pc = .ok (.ireturn, 1)) (hQ : Q (some (.int (nar t z))) T.heap locs) (hk : cells ≤ k) (hn : slots ≤ n) :
    own_Fin p e below s Q k n (T.setTop (mkF m pc Ls (.int z :: rest))) := by
  obtain ⟨fs, hr, hrun, hended, hW, hsame⟩ := X.leave (v := some (.int (nar t z))) (fun h => by rw [hret] at h; cases h) hlk
  exact ⟨_, _, retN X hx hret ht hd hr, hrun, hended, _, _, rfl, hQ, ⟨_, rfl⟩, hW, hsame.mono hk hn⟩
theorem own_retJ (X : Stand p l e R s m args below meth c T locs cells slots) (hx : p.tables.exec = Jvm.exec) (hlk : meth.locks = false) {pc : Nat} {Ls : Array Slot} {z : Int64} (hret : meth.sig.returnType = some .long) (hd : decode c.code pc = .ok (.lreturn, 1)) (hQ : Q (some (.long z)) T.heap locs) (hk : cells ≤ k) (hn : slots ≤ n) :
    own_Fin p e below s Q k n (T.setTop (mkF m pc Ls [.long z])) := by
  obtain ⟨fs, hr, hrun, hended, hW, hsame⟩ := X.leave (v := some (.long z)) (fun h => by rw [hret] at h; cases h) hlk
  exact ⟨_, _, X.lreturnOut hx hret hd hr, hrun, hended, _, _, rfl, hQ, ⟨_, rfl⟩, hW, hsame.mono hk hn⟩
theorem own_retR (X : Stand p l e R s m args below meth c T locs cells slots) (hx : p.tables.exec = Jvm.exec) (hlk : meth.locks = false) {pc : Nat} {Ls : Array Slot} {w : Value} {t : FieldType} (hw : w.isRef = true) (hret : meth.sig.returnType = some t) (ht : t.isReference = true) (hd : decode c.code pc = .ok (.areturn, 1)) (hQ : Q (some w) T.heap locs) (hk : cells ≤ k) (hn : slots ≤ n) :
    own_Fin p e below s Q k n (T.setTop (mkF m pc Ls [w])) := by
  obtain ⟨fs, hr, hrun, hended, hW, hsame⟩ := X.leave (v := some w) (fun h => by rw [hret] at h; cases h) hlk
  exact ⟨_, _, X.areturnOut hx hw hret ht hd hr, hrun, hended, _, _, rfl, hQ, ⟨_, rfl⟩, hW, hsame.mono hk hn⟩
theorem own_ret0 (X : Stand p l e R s m args below meth c T locs cells slots) (hx : p.tables.exec = Jvm.exec) (hlk : meth.locks = false) {pc : Nat} {Ls : Array Slot} (hret : meth.sig.returnType = none) (hd : decode c.code pc = .ok (.return_, 1)) (hQ : Q none T.heap locs) (hk : cells ≤ k) (hn : slots ≤ n) :
    own_Fin p e below s Q k n (T.setTop (mkF m pc Ls [])) := by
  obtain ⟨fs, hr, hrun, hended, hW, hsame⟩ := X.leave (v := none) (fun _ => rfl) hlk
  exact ⟨_, _, X.returnOut hx hret hd hr, hrun, hended, _, _, rfl, hQ, ⟨_, rfl⟩, hW, hsame.mono hk hn⟩
theorem own_lrem {tb : Tables} [Ours tb] {target : State} {g : JFrame} (h : At T m c below) (hx : tb.exec = Jvm.exec) (hg : g.method = m) {x y : Int64} {rest : List Value} (hd : decode c.code g.pc = .ok (.lrem, 1)) (hs : g.stack = .long y :: .long x :: rest) (hy : y ≠ 0)
    (hr : Steps tb e below (T.setTop { g with pc := g.pc + 1, stack := .long (x % y) :: rest }) target) : Steps tb e below (T.setTop g) target := by
  have q : x - x / y * y = x % y := lrem_mod x y
  exact XS.lrem h hx hg hd hs hy (by rw [q]; exact hr)
theorem own_callS (X : Stand p l e R s m args below meth c T locs cells slots) (hx : p.tables.exec = Jvm.exec) (hZ : Z.Warmed39 s.vm) {own : String} {index : Nat} {y : MethodName} {bytes : ByteArray} {maxL : Nat} {ret : Option FieldType} {rm : Room} {as' : Array Value}
    (hown : s.vm.findClass own = some m.cls) (w1 : (Jvm.Cond.methodLink own index y).before a0 Z = true) (w2 : (Jvm.Cond.static y).before a0 Z = true) (w3 : (Jvm.Cond.initialized y.cls).before a0 Z = true) (w4 : (Jvm.Cond.code y bytes maxL ret).before a0 Z = true)
    (hy : y.cls ≠ "java/lang/invoke/MethodHandle" ∧ y.cls ≠ "java/lang/invoke/VarHandle") (hM : own_Met l Z [] y bytes maxL ret rm as' h Q) {W : Nat} (hf : rm.frames + 1 ≤ R.frames) (hl : W + (maxL + 11) + rm.locals ≤ R.locals) (eT : T.heap = h)
    {g : JFrame} (hg : g.method = m) (hsize : g.locals.size = c.maxLocals) {argsL rest : List Value} (hlen : ∀ sig, parseMethodDescriptor y.desc = some sig → argsL.length = sig.parameters.length) (has : argsL.toArray = as') (hstack : g.stack = argsL.reverse ++ rest) (hW : 2 * g.monitorRoom + (rest.map fun v => v.category).sum ≤ W)
    (hdg : decode c.code g.pc = .ok (.invokestatic index, 3)) (hc : cells + rm.cells ≤ R.cells) (hs : slots + rm.slots ≤ R.slots) :
    ∃ v T' L, Stand p l e R s m args below meth c T' (locs ++ L) (cells + rm.cells) (slots + rm.slots) ∧ Q v T'.heap L ∧ ∀ t, Steps p.tables e below (T'.setTop { g with pc := g.pc + 3, stack := v.toList ++ rest }) t → Steps p.tables e below (T.setTop g) t := by
  obtain ⟨v, vm1, ⟨T', L', k', n'⟩, -, X', ⟨Lc, hQ, l1, y1, z1⟩, st⟩ := Jvm.LawKit.callS X hx (y := y) hown (mvT hZ w1) (mvT hZ w2) (mvT hZ w3) (mvT hZ w4) hy (backOf (W := W) hM hZ w4 w3 hf hl) (g := g) hg hsize (argsL := argsL) (rest := rest) hlen hstack hW hdg (fun _ _ => ⟨has, eT, hc, hs⟩)
  dsimp only [Pt.U, Pt.locs, Pt.cells, Pt.slots] at X' l1 y1 z1 st hQ
  subst l1 y1 z1
  exact ⟨v, T', Lc, X', hQ, st⟩
theorem own_callN (X : Stand p l e R s m args below meth c T locs cells slots) (hx : p.tables.exec = Jvm.exec) (hZ : Z.Warmed39 s.vm) {own : String} {index : Nat} {y : MethodName} {bytes : ByteArray} {maxL : Nat} {rm : Room} {as' : Array Value} (hy1 : y.name = "<init>")
    (hown : s.vm.findClass own = some m.cls) (w1 : (Jvm.Cond.methodLink own index y).before a0 Z = true) (w2 : (Jvm.Cond.instanceMethod y).before a0 Z = true) (w3 : (Jvm.Cond.initialized y.cls).before a0 Z = true) (w4 : (Jvm.Cond.code y bytes maxL none).before a0 Z = true)
    (hy : y.cls ≠ "java/lang/invoke/MethodHandle" ∧ y.cls ≠ "java/lang/invoke/VarHandle") (hM : own_Met l Z [] y bytes maxL none rm as' h Q) {W : Nat} (hf : rm.frames + 1 ≤ R.frames) (hl : W + (maxL + 11) + rm.locals ≤ R.locals) {a : Addr} (eT : T.heap = h)
    {g : JFrame} (hg : g.method = m) (hsize : g.locals.size = c.maxLocals) {argsL rest : List Value} (hlen : ∀ sig, parseMethodDescriptor y.desc = some sig → argsL.length = sig.parameters.length) (has : (.ref a :: argsL).toArray = as') (hstack : g.stack = argsL.reverse ++ .ref a :: rest) (hW : 2 * g.monitorRoom + (rest.map fun v => v.category).sum ≤ W)
    (hdg : decode c.code g.pc = .ok (.invokespecial index, 3)) (hc : cells + rm.cells ≤ R.cells) (hs : slots + rm.slots ≤ R.slots) :
    ∃ v T' L, Stand p l e R s m args below meth c T' (locs ++ L) (cells + rm.cells) (slots + rm.slots) ∧ Q v T'.heap L ∧ ∀ t, Steps p.tables e below (T'.setTop { g with pc := g.pc + 3, stack := v.toList ++ rest }) t → Steps p.tables e below (T.setTop g) t := by
  obtain ⟨v, vm1, ⟨T', L', k', n'⟩, -, X', ⟨Lc, hQ, l1, y1, z1⟩, st⟩ := X.specialBack hx (y := y) hy1 hown (mvT hZ w1) (mvT hZ w2) (mvT hZ w4) hy (backOf (W := W) hM hZ w4 w3 hf hl) (g := g) hg hsize (Steps.refl _) (a := a) (argsL := argsL) (rest := rest) hlen hstack hW hdg (fun _ _ => ⟨has, eT, hc, hs⟩)
  dsimp only [Pt.U, Pt.locs, Pt.cells, Pt.slots] at X' l1 y1 z1 st hQ
  subst l1 y1 z1
  exact ⟨v, T', Lc, X', hQ, fun t k => st.trans k⟩
theorem own_callV (X : Stand p l e R s m args below meth c T locs cells slots) (hx : p.tables.exec = Jvm.exec) (hZ : Z.Warmed39 s.vm) {own C : String} {index : Nat} {y : MethodName} {bytes : ByteArray} {maxL : Nat} {ret : Option FieldType} {rm : Room} {as' : Array Value}
    (hown : s.vm.findClass own = some m.cls) (w1 : (Jvm.Cond.methodLink own index y).before a0 Z = true) (w2 : (Jvm.Cond.declares y).before a0 Z = true) (w5 : (Jvm.Cond.selects C y y).before a0 Z = true) (w6 : (Jvm.Cond.instanceMethod y).before a0 Z = true) (w3 : (Jvm.Cond.initialized y.cls).before a0 Z = true) (w4 : (Jvm.Cond.code y bytes maxL ret).before a0 Z = true)
    (hy : y.cls ≠ "java/lang/invoke/MethodHandle" ∧ y.cls ≠ "java/lang/invoke/VarHandle") (hM : own_Met l Z [] y bytes maxL ret rm as' h Q) {W : Nat} (hf : rm.frames + 1 ≤ R.frames) (hl : W + (maxL + 11) + rm.locals ≤ R.locals) {a : Addr} (E : Exa Z h a C) (eT : T.heap = h)
    {g : JFrame} (hg : g.method = m) (hsize : g.locals.size = c.maxLocals) {argsL rest : List Value} (hlen : ∀ sig, parseMethodDescriptor y.desc = some sig → argsL.length = sig.parameters.length) (has : (.ref a :: argsL).toArray = as') (hstack : g.stack = argsL.reverse ++ .ref a :: rest) (hW : 2 * g.monitorRoom + (rest.map fun v => v.category).sum ≤ W)
    (hdg : decode c.code g.pc = .ok (.invokevirtual index, 3)) (hc : cells + rm.cells ≤ R.cells) (hs : slots + rm.slots ≤ R.slots) :
    ∃ v T' L, Stand p l e R s m args below meth c T' (locs ++ L) (cells + rm.cells) (slots + rm.slots) ∧ Q v T'.heap L ∧ ∀ t, Steps p.tables e below (T'.setTop { g with pc := g.pc + 3, stack := v.toList ++ rest }) t → Steps p.tables e below (T.setTop g) t := by
  obtain ⟨cq, kq, qa, qb, qc⟩ := isOf hZ eT E
  obtain ⟨v, vm1, ⟨T', L', k', n'⟩, -, X', ⟨Lc, hQ, l1, y1, z1⟩, st⟩ := X.virtualBack hx (y := y) (z := y) hown (mvT hZ w1) (mvT hZ w2) (notFace_of_selects (args := #[]) (mvT hZ w5)) (mvT hZ w5) (mvT hZ w6) hy (backOf (W := W) hM hZ w4 w3 hf hl) qa qc (g := g) hg hsize (Steps.refl _) (argsL := argsL) (rest := rest) hlen hstack hW hdg (fun _ _ => ⟨has, eT, hc, hs⟩)
  dsimp only [Pt.U, Pt.locs, Pt.cells, Pt.slots] at X' l1 y1 z1 st hQ
  subst l1 y1 z1
  exact ⟨v, T', Lc, X', hQ, fun t k => st.trans k⟩
theorem own_newA (X : Stand p l e R s m args below meth c T locs cells slots) (hx : p.tables.exec = Jvm.exec) (hZ : Z.Warmed39 s.vm) {aty : ArrayType} (w : (Jvm.Cond.arrayClass (newarray.typeOf aty)).before a0 Z = true) (eT : T.heap = h) {ty : FieldType} {dv : Value} (hty : newarray.typeOf aty = ty) (hdv : defaultValue ty = dv)
    {g : JFrame} (hg : g.method = m) (hd : decode c.code g.pc = .ok (.newarray aty, 2)) {n : Int32} {rest : List Value} (hs : g.stack = .int n :: rest) (hn : ¬ n < 0) {cap : Nat} (hcap : n.toNatClampNeg ≤ cap) (hb : cap * 8 ≤ 536870912) (hc : cells + 1 ≤ R.cells) (hl : slots + cap ≤ R.slots) (N : Nat) :
    ∃ T' h' k a, Stand p l e R s m args below meth c T' locs (cells + 1) (slots + cap) ∧ T'.heap = h' ∧ Ext h h' ∧ a = h.size ∧ Arv Z h' a k ty n (List.replicate N dv) dv ∧
      ∀ t, Steps p.tables e below (T'.setTop { g with pc := g.pc + 2, stack := .ref a :: rest }) t → Steps p.tables e below (T.setTop g) t := by
  subst hty hdv
  obtain ⟨T', h', k, X', e', E, A, st⟩ := newP X hx hZ w eT hg hd hs hn hcap hb hc hl
  exact ⟨T', h', k, _, X', e', E, rfl, by simpa using (Arv.new A hn).pad (pad_rep [] _ N), st⟩
theorem own_stI (X : Stand p l e R s m args below meth c T locs cells slots) (hx : p.tables.exec = Jvm.exec) (hZ : Z.Warmed39 s.vm) (eT : T.heap = h) {a : Addr} {k : ClassId} {n : Int32} {vs : List Value} {dv : Value} (F : Arv Z h a k .int n vs dv) {j x : Int32} (hj : ¬ j < 0 ∧ j < n) (i : Nat) (hi : j.toNatClampNeg = i) (hl : i < vs.length)
    {g : JFrame} (hg : g.method = m) {rest : List Value} (hs : g.stack = .int x :: .int j :: .ref a :: rest) (hd : decode c.code g.pc = .ok (.iastore, 1)) :
    ∃ T' h', Stand p l e R s m args below meth c T' (locs ++ [⟨a, j.toNatClampNeg⟩]) cells slots ∧ T'.heap = h' ∧ Arv Z h' a k .int n (vs.set i (.int x)) dv ∧ Wr h h' a j.toNatClampNeg (.int x) ∧ ∀ t, Steps p.tables e below (T'.setTop { g with pc := g.pc + 1, stack := rest }) t → Steps p.tables e below (T.setTop g) t := by
  obtain ⟨cl, A, q1, q2, q3, H, G⟩ := F
  obtain ⟨T', h', X', e', W, st⟩ := stI X hx hZ eT A (j := j) (inb_of q2 hj) hg hs hd
  exact ⟨T', h', X', e', Arv.set A q1 q2 q3 H G rfl W i hi hl, W, st⟩
theorem own_stJ (X : Stand p l e R s m args below meth c T locs cells slots) (hx : p.tables.exec = Jvm.exec) (hZ : Z.Warmed39 s.vm) (eT : T.heap = h) {a : Addr} {k : ClassId} {n : Int32} {vs : List Value} {dv : Value} (F : Arv Z h a k .long n vs dv) {j : Int32} {x : Int64} (hj : ¬ j < 0 ∧ j < n) (i : Nat) (hi : j.toNatClampNeg = i) (hl : i < vs.length)
    {g : JFrame} (hg : g.method = m) {rest : List Value} (hs : g.stack = .long x :: .int j :: .ref a :: rest) (hd : decode c.code g.pc = .ok (.lastore, 1)) :
    ∃ T' h', Stand p l e R s m args below meth c T' (locs ++ [⟨a, j.toNatClampNeg⟩]) cells slots ∧ T'.heap = h' ∧ Arv Z h' a k .long n (vs.set i (.long x)) dv ∧ Wr h h' a j.toNatClampNeg (.long x) ∧ ∀ t, Steps p.tables e below (T'.setTop { g with pc := g.pc + 1, stack := rest }) t → Steps p.tables e below (T.setTop g) t := by
  obtain ⟨cl, A, q1, q2, q3, H, G⟩ := F
  obtain ⟨T', h', X', e', W, st⟩ := stJ X hx hZ eT A (j := j) (inb_of q2 hj) hg hs hd
  exact ⟨T', h', X', e', Arv.set A q1 q2 q3 H G rfl W i hi hl, W, st⟩
theorem own_stB (X : Stand p l e R s m args below meth c T locs cells slots) (hx : p.tables.exec = Jvm.exec) (hZ : Z.Warmed39 s.vm) (eT : T.heap = h) {a : Addr} {k : ClassId} {n : Int32} {vs : List Value} {dv : Value} (F : Arv Z h a k .byte n vs dv) {j x : Int32} (hj : ¬ j < 0 ∧ j < n) (i : Nat) (hi : j.toNatClampNeg = i) (hl : i < vs.length)
    {g : JFrame} (hg : g.method = m) {rest : List Value} (hs : g.stack = .int x :: .int j :: .ref a :: rest) (hd : decode c.code g.pc = .ok (.bastore, 1)) :
    ∃ T' h', Stand p l e R s m args below meth c T' (locs ++ [⟨a, j.toNatClampNeg⟩]) cells slots ∧ T'.heap = h' ∧ Arv Z h' a k .byte n (vs.set i (.int (nar .byte x))) dv ∧ Wr h h' a j.toNatClampNeg (.int (nar .byte x)) ∧ ∀ t, Steps p.tables e below (T'.setTop { g with pc := g.pc + 1, stack := rest }) t → Steps p.tables e below (T.setTop g) t := by
  obtain ⟨cl, A, q1, q2, q3, H, G⟩ := F
  obtain ⟨T', h', X', e', W, st⟩ := stB X hx hZ eT A (j := j) (inb_of q2 hj) hg hs hd
  exact ⟨T', h', X', e', Arv.set A q1 q2 q3 H G (fits_nar_byte x) W i hi hl, W, st⟩
theorem own_nar (y : Int32) : nar .byte y.toInt8.toInt32 = y.toInt8.toInt32 := by
  show y.toInt8.toInt32.toInt8.toInt32 = _
  simp
theorem own_stBn (X : Stand p l e R s m args below meth c T locs cells slots) (hx : p.tables.exec = Jvm.exec) (hZ : Z.Warmed39 s.vm) (eT : T.heap = h) {a : Addr} {k : ClassId} {n : Int32} {vs : List Value} {dv : Value} (F : Arv Z h a k .byte n vs dv) {j x : Int32} (hj : ¬ j < 0 ∧ j < n) (i : Nat) (hi : j.toNatClampNeg = i) (hl : i < vs.length)
    {g : JFrame} (hg : g.method = m) {rest : List Value} (hs : g.stack = .int x.toInt8.toInt32 :: .int j :: .ref a :: rest) (hd : decode c.code g.pc = .ok (.bastore, 1)) :
    ∃ T' h', Stand p l e R s m args below meth c T' (locs ++ [⟨a, j.toNatClampNeg⟩]) cells slots ∧ T'.heap = h' ∧ Arv Z h' a k .byte n (vs.set i (.int x.toInt8.toInt32)) dv ∧ Wr h h' a j.toNatClampNeg (.int x.toInt8.toInt32) ∧ ∀ t, Steps p.tables e below (T'.setTop { g with pc := g.pc + 1, stack := rest }) t → Steps p.tables e below (T.setTop g) t := by
  have h := own_stB X hx hZ eT F hj i hi hl hg hs hd
  rw [own_nar] at h
  exact h
theorem own_ldI (X : Stand p l e R s m args below meth c T locs cells slots) (hx : p.tables.exec = Jvm.exec) (hZ : Z.Warmed39 s.vm) (eT : T.heap = h) {a : Addr} {k : ClassId} {n : Int32} {vs : List Value} {dv v : Value} (F : Arv Z h a k .int n vs dv) {j : Int32} (hj : ¬ j < 0 ∧ j < n) (hv : vs.getD j.toNatClampNeg dv = v)
    {g : JFrame} (hg : g.method = m) {rest : List Value} (hs : g.stack = .int j :: .ref a :: rest) (hd : decode c.code g.pc = .ok (.iaload, 1)) :
    ∀ t, Steps p.tables e below (T.setTop { g with pc := g.pc + 1, stack := v :: rest }) t → Steps p.tables e below (T.setTop g) t := by
  obtain ⟨cl, A, q1, q2, q3, H, G⟩ := F
  have hin := inb_of q2 hj
  exact fun t kt => X.iaload hx (j := j) (v := v) (by rw [eT]; exact A.1) (State.isArrayOf_alike hZ.alike A.2.1) A.2.2 hin (H.at hin hv) hg hs hd _ kt
theorem own_ldJ (X : Stand p l e R s m args below meth c T locs cells slots) (hx : p.tables.exec = Jvm.exec) (hZ : Z.Warmed39 s.vm) (eT : T.heap = h) {a : Addr} {k : ClassId} {n : Int32} {vs : List Value} {dv v : Value} (F : Arv Z h a k .long n vs dv) {j : Int32} (hj : ¬ j < 0 ∧ j < n) (hv : vs.getD j.toNatClampNeg dv = v)
    {g : JFrame} (hg : g.method = m) {rest : List Value} (hs : g.stack = .int j :: .ref a :: rest) (hd : decode c.code g.pc = .ok (.laload, 1)) :
    ∀ t, Steps p.tables e below (T.setTop { g with pc := g.pc + 1, stack := v :: rest }) t → Steps p.tables e below (T.setTop g) t := by
  obtain ⟨cl, A, q1, q2, q3, H, G⟩ := F
  have hin := inb_of q2 hj
  exact fun t kt => X.laload hx (j := j) (v := v) (by rw [eT]; exact A.1) (State.isArrayOf_alike hZ.alike A.2.1) A.2.2 hin (H.at hin hv) hg hs hd _ kt
theorem own_ldB (X : Stand p l e R s m args below meth c T locs cells slots) (hx : p.tables.exec = Jvm.exec) (hZ : Z.Warmed39 s.vm) (eT : T.heap = h) {a : Addr} {k : ClassId} {n : Int32} {vs : List Value} {dv v : Value} (F : Arv Z h a k .byte n vs dv) {j : Int32} (hj : ¬ j < 0 ∧ j < n) (hv : vs.getD j.toNatClampNeg dv = v)
    {g : JFrame} (hg : g.method = m) {rest : List Value} (hs : g.stack = .int j :: .ref a :: rest) (hd : decode c.code g.pc = .ok (.baload, 1)) :
    ∀ t, Steps p.tables e below (T.setTop { g with pc := g.pc + 1, stack := v :: rest }) t → Steps p.tables e below (T.setTop g) t := by
  obtain ⟨cl, A, q1, q2, q3, H, G⟩ := F
  have hin := inb_of q2 hj
  exact fun t kt => X.baloadBytes hx (j := j) (v := v) (by rw [eT]; exact A.1) (State.isArrayOf_alike hZ.alike A.2.1) A.2.2 hin (H.at hin hv) hg hs hd _ kt
theorem own_len (X : Stand p l e R s m args below meth c T locs cells slots) (hx : p.tables.exec = Jvm.exec) (hZ : Z.Warmed39 s.vm) (eT : T.heap = h) {a : Addr} {k : ClassId} {ty : FieldType} {n : Int32} {vs : List Value} {dv : Value} (F : Arv Z h a k ty n vs dv)
    {g : JFrame} (hg : g.method = m) {rest : List Value} (hs : g.stack = .ref a :: rest) (hd : decode c.code g.pc = .ok (.arraylength, 1)) :
    ∀ t, Steps p.tables e below (T.setTop { g with pc := g.pc + 1, stack := .int n :: rest }) t → Steps p.tables e below (T.setTop g) t := by
  obtain ⟨cl, A, q1, q2, q3, H, G⟩ := F
  exact fun t kt => X.arraylength hx (by rw [eT]; exact A.1) (State.isArrayOf_alike hZ.alike A.2.1) hg hs hd _ (by rw [len_of q2 q3]; exact kt)
end Own
def own_QJ (h0 : Heap) (n0 : Nat) (v : Option Value) (h : Heap) (L : List Loc) : Prop := ∃ z : Int64, v = some (.long z) ∧ Fr n0 L ∧ h = h0
def own_hit (q1 : Int64) (p2 p3 : Int32) : Int64 := if (((q1.toUInt64 >>> (((8 : Int32) * p3) &&& 0x3f).toInt64.toUInt64).toInt64) &&& (255 : Int64)) = (p2.toInt64) then ((128 : Int64) <<< (((8 : Int32) * p3) &&& 0x3f).toInt64) else 0
def own_eqt (q1 : Int64) (p2 : Int32) : Int64 := ((((((q1 ^^^ ((72340172838076673 : Int64) * ((p2 &&& (255 : Int32)).toInt64))) &&& (9187201950435737471 : Int64)) + (9187201950435737471 : Int64)) ||| (q1 ^^^ ((72340172838076673 : Int64) * ((p2 &&& (255 : Int32)).toInt64)))) ||| (9187201950435737471 : Int64)) ^^^ (-1 : Int64))
theorem own_app {w v : Nat} (x : BitVec w) (y : BitVec v) : (x ++ y).toNat = x.toNat * 2 ^ v + y.toNat := by
  rw [BitVec.toNat_append, ← Nat.shiftLeft_add_eq_or_of_lt y.isLt, Nat.shiftLeft_eq]
theorem own_addapp {w v : Nat} (x1 x2 : BitVec w) (y1 y2 : BitVec v) (h : y1.toNat + y2.toNat < 2 ^ v) : (x1 ++ y1) + (x2 ++ y2) = (x1 + x2) ++ (y1 + y2) := by
  apply BitVec.eq_of_toNat_eq
  rw [own_app, BitVec.toNat_add, own_app, own_app, BitVec.toNat_add, BitVec.toNat_add, Nat.mod_eq_of_lt h]
  have e : x1.toNat * 2 ^ v + y1.toNat + (x2.toNat * 2 ^ v + y2.toNat) = (y1.toNat + y2.toNat) + 2 ^ v * (x1.toNat + x2.toNat) := by rw [Nat.mul_add, Nat.mul_comm _ (2^v), Nat.mul_comm _ (2^v)]; omega
  have hp : 0 < 2 ^ v := Nat.two_pow_pos v
  rw [e, Nat.add_comm w v, Nat.pow_add, Nat.mod_mul, Nat.add_mul_mod_self_left, Nat.mod_eq_of_lt h, Nat.add_mul_div_left _ _ hp, Nat.div_eq_of_lt h, Nat.zero_add, Nat.add_comm, Nat.mul_comm]
abbrev own_W : Nat := 8 + 8 + 8 + 8 + 8 + 8 + 8 + 8
abbrev own_cat (b7 b6 b5 b4 b3 b2 b1 b0 : BitVec 8) : BitVec own_W := b7 ++ b6 ++ b5 ++ b4 ++ b3 ++ b2 ++ b1 ++ b0
theorem own_split (w : BitVec own_W) : ∃ b7 b6 b5 b4 b3 b2 b1 b0, w = own_cat b7 b6 b5 b4 b3 b2 b1 b0 := by
  refine ⟨w.extractLsb' 56 8, w.extractLsb' 48 8, w.extractLsb' 40 8, w.extractLsb' 32 8, w.extractLsb' 24 8, w.extractLsb' 16 8, w.extractLsb' 8 8, w.extractLsb' 0 8, ?_⟩
  apply BitVec.eq_of_toNat_eq
  simp only [own_cat, own_app, BitVec.extractLsb'_toNat, Nat.shiftRight_eq_div_pow]
  have := w.isLt
  simp only [own_W] at this
  omega
theorem own_byte0 : ∀ x : BitVec 8, ((((x &&& 0x7f#8) + 0x7f#8) ||| x) ||| 0x7f#8) ^^^ 0xff#8 = if x = 0#8 then 0x80#8 else 0#8 := by decide +kernel
theorem own_small : ∀ x : BitVec 8, (x &&& 0x7f#8).toNat + (0x7f#8).toNat < 2 ^ 8 := by decide +kernel
theorem own_xor0 (b c : BitVec 8) : (b ^^^ c = 0#8) ↔ b = c := by simp [BitVec.xor_eq_zero_iff]
theorem own_rep : ∀ c : BitVec 8, (72340172838076673#64 * c.setWidth 64 : BitVec 64) = own_cat c c c c c c c c := by decide +kernel
theorem own_byte (b c : BitVec 8) : (((((b ^^^ c) &&& 0x7f#8) + 0x7f#8) ||| (b ^^^ c)) ||| 0x7f#8) ^^^ 0xff#8 = if b = c then 0x80#8 else 0#8 := by
  rw [own_byte0]
  by_cases h : b = c
  · rw [if_pos h, if_pos ((own_xor0 b c).mpr h)]
  · rw [if_neg h, if_neg (fun q => h ((own_xor0 b c).mp q))]
def own_F (w r M O : BitVec own_W) : BitVec own_W := ((((w ^^^ r) &&& M) + M) ||| (w ^^^ r) ||| M) ^^^ O
theorem own_M : (9187201950435737471#64 : BitVec 64) = own_cat 0x7f#8 0x7f#8 0x7f#8 0x7f#8 0x7f#8 0x7f#8 0x7f#8 0x7f#8 := by decide +kernel
theorem own_1 : (18446744073709551615#64 : BitVec 64) = own_cat 0xff#8 0xff#8 0xff#8 0xff#8 0xff#8 0xff#8 0xff#8 0xff#8 := by decide +kernel
theorem own_Fcat (b7 b6 b5 b4 b3 b2 b1 b0 c : BitVec 8) : own_F (own_cat b7 b6 b5 b4 b3 b2 b1 b0) (own_cat c c c c c c c c) (own_cat 0x7f#8 0x7f#8 0x7f#8 0x7f#8 0x7f#8 0x7f#8 0x7f#8 0x7f#8) (own_cat 0xff#8 0xff#8 0xff#8 0xff#8 0xff#8 0xff#8 0xff#8 0xff#8) = own_cat (if b7 = c then 0x80#8 else 0#8) (if b6 = c then 0x80#8 else 0#8) (if b5 = c then 0x80#8 else 0#8) (if b4 = c then 0x80#8 else 0#8) (if b3 = c then 0x80#8 else 0#8) (if b2 = c then 0x80#8 else 0#8) (if b1 = c then 0x80#8 else 0#8) (if b0 = c then 0x80#8 else 0#8) := by
  unfold own_F
  simp only [own_cat, BitVec.xor_append, BitVec.and_append]
  rw [own_addapp _ _ _ _ (own_small _), own_addapp _ _ _ _ (own_small _), own_addapp _ _ _ _ (own_small _), own_addapp _ _ _ _ (own_small _), own_addapp _ _ _ _ (own_small _), own_addapp _ _ _ _ (own_small _), own_addapp _ _ _ _ (own_small _)]
  simp only [BitVec.or_append, BitVec.xor_append, own_byte]
/-- byte i of the row of eight -/
def own_sel (b7 b6 b5 b4 b3 b2 b1 b0 : BitVec 8) : Nat → BitVec 8
  | 0 => b0 | 1 => b1 | 2 => b2 | 3 => b3 | 4 => b4 | 5 => b5 | 6 => b6 | _ => b7
theorem own_shr (b7 b6 b5 b4 b3 b2 b1 b0 : BitVec 8) (i : Nat) (hi : i < 8) : ((own_cat b7 b6 b5 b4 b3 b2 b1 b0 : BitVec 64) >>> (8 * i)) &&& 255#64 = (own_sel b7 b6 b5 b4 b3 b2 b1 b0 i).setWidth 64 := by
  apply BitVec.eq_of_toNat_eq
  have e : (255#64 : BitVec 64).toNat = 2 ^ 8 - 1 := by decide
  rw [BitVec.toNat_and, e, Nat.and_two_pow_sub_one_eq_mod, BitVec.toNat_ushiftRight, BitVec.toNat_setWidth, Nat.shiftRight_eq_div_pow]
  have h : (own_cat b7 b6 b5 b4 b3 b2 b1 b0 : BitVec 64).toNat = ((((((b7.toNat * 256 + b6.toNat) * 256 + b5.toNat) * 256 + b4.toNat) * 256 + b3.toNat) * 256 + b2.toNat) * 256 + b1.toNat) * 256 + b0.toNat := by
    show (own_cat b7 b6 b5 b4 b3 b2 b1 b0).toNat = _
    simp only [own_cat, own_app]
  rw [h]
  have := b7.isLt; have := b6.isLt; have := b5.isLt; have := b4.isLt; have := b3.isLt; have := b2.isLt; have := b1.isLt; have := b0.isLt
  rcases (by omega : i = 0 ∨ i = 1 ∨ i = 2 ∨ i = 3 ∨ i = 4 ∨ i = 5 ∨ i = 6 ∨ i = 7) with rfl | rfl | rfl | rfl | rfl | rfl | rfl | rfl <;> simp only [own_sel, own_W, Nat.reduceMul, Nat.reduceAdd, Nat.reducePow] <;> omega
theorem own_wide (b c : BitVec 8) : b.setWidth 64 = c.setWidth 64 ↔ b = c := by
  constructor
  · intro h
    have h := congrArg BitVec.toNat h
    rw [BitVec.toNat_setWidth, BitVec.toNat_setWidth] at h
    have := b.isLt; have := c.isLt
    apply BitVec.eq_of_toNat_eq; omega
  · intro h; rw [h]

theorem own_one (b7 b6 b5 b4 b3 b2 b1 b0 c : BitVec 8) :
    ((((((((if b0 = c then 128#64 <<< 0 else 0#64) ||| (if b1 = c then 128#64 <<< 8 else 0#64)) ||| (if b2 = c then 128#64 <<< 16 else 0#64)) ||| (if b3 = c then 128#64 <<< 24 else 0#64)) ||| (if b4 = c then 128#64 <<< 32 else 0#64)) ||| (if b5 = c then 128#64 <<< 40 else 0#64)) ||| (if b6 = c then 128#64 <<< 48 else 0#64)) ||| (if b7 = c then 128#64 <<< 56 else 0#64)) = (own_cat (if b7 = c then 0x80#8 else 0#8) (if b6 = c then 0x80#8 else 0#8) (if b5 = c then 0x80#8 else 0#8) (if b4 = c then 0x80#8 else 0#8) (if b3 = c then 0x80#8 else 0#8) (if b2 = c then 0x80#8 else 0#8) (if b1 = c then 0x80#8 else 0#8) (if b0 = c then 0x80#8 else 0#8) : BitVec 64) := by
  by_cases h0 : b0 = c <;> by_cases h1 : b1 = c <;> by_cases h2 : b2 = c <;> by_cases h3 : b3 = c <;> by_cases h4 : b4 = c <;> by_cases h5 : b5 = c <;> by_cases h6 : b6 = c <;> by_cases h7 : b7 = c <;> simp only [h0, h1, h2, h3, h4, h5, h6, h7, if_true, if_false] <;> rfl

theorem own_b255 (b : Int32) : b.toInt8.toInt32 &&& (255 : Int32) = b &&& (255 : Int32) := by
  have h1 := c_mask b.toInt8.toInt32 255 8 (by omega) (by decide)
  have h2 := c_mask b 255 8 (by omega) (by decide)
  have h3 := c_i2b b
  have p8 : ((2 ^ 8 : Nat) : Int) = 256 := by decide
  rw [p8] at h1 h2
  apply Int32.toInt_inj.mp; omega
theorem own_c (b : Int32) : ∃ c : BitVec 8, (b &&& (255 : Int32)).toInt64.toBitVec = c.setWidth 64 := by
  have h2 := c_mask b 255 8 (by omega) (by decide)
  have p8 : ((2 ^ 8 : Nat) : Int) = 256 := by decide
  rw [p8] at h2
  have h3 := c_i2l (b &&& (255 : Int32))
  have h4 : ((b &&& (255 : Int32)).toInt64.toBitVec).toInt = (b &&& (255 : Int32)).toInt64.toInt := rfl
  generalize (b &&& (255 : Int32)).toInt64.toBitVec = x at *
  rw [BitVec.toInt_eq_toNat_cond] at h4
  refine ⟨BitVec.ofNat 8 x.toNat, ?_⟩
  apply BitVec.eq_of_toNat_eq
  rw [BitVec.toNat_setWidth, BitVec.toNat_ofNat]
  have := x.isLt
  split at h4 <;> omega
theorem own_shx (wd : Int64) (K : UInt64) (n : Nat) (h : K.toBitVec % 64#64 = BitVec.ofNat 64 n) (hn : n < 64) : ((wd.toUInt64 >>> K).toInt64).toBitVec = wd.toBitVec >>> n := by
  show (wd.toUInt64 >>> K).toBitVec = _
  rw [UInt64.toBitVec_shiftRight]
  show wd.toBitVec >>> (K.toBitVec % 64#64) = _
  rw [h]
  show wd.toBitVec >>> (BitVec.ofNat 64 n).toNat = _
  rw [BitVec.toNat_ofNat, Nat.mod_eq_of_lt (by omega)]
theorem own_hitv (wd : Int64) (B : Int32) (c b7 b6 b5 b4 b3 b2 b1 b0 : BitVec 8) (hB : B.toInt64.toBitVec = c.setWidth 64) (hW : wd.toBitVec = (own_cat b7 b6 b5 b4 b3 b2 b1 b0 : BitVec 64)) (p : Int32) (i : Nat) (hi : i < 8)
    (hK : ((((8 : Int32) * p) &&& 0x3f).toInt64.toUInt64).toBitVec % 64#64 = BitVec.ofNat 64 (8 * i)) (hV : ((128 : Int64) <<< (((8 : Int32) * p) &&& 0x3f).toInt64).toBitVec = 128#64 <<< (8 * i)) :
    (own_hit wd B p).toBitVec = if own_sel b7 b6 b5 b4 b3 b2 b1 b0 i = c then 128#64 <<< (8 * i) else 0#64 := by
  have e : (((wd.toUInt64 >>> (((8 : Int32) * p) &&& 0x3f).toInt64.toUInt64).toInt64) &&& (255 : Int64)).toBitVec = (own_sel b7 b6 b5 b4 b3 b2 b1 b0 i).setWidth 64 := by
    rw [Int64.toBitVec_and, own_shx wd _ (8 * i) hK (by omega), hW]
    exact own_shr b7 b6 b5 b4 b3 b2 b1 b0 i hi
  have q : (((wd.toUInt64 >>> (((8 : Int32) * p) &&& 0x3f).toInt64.toUInt64).toInt64) &&& (255 : Int64)) = B.toInt64 ↔ own_sel b7 b6 b5 b4 b3 b2 b1 b0 i = c := by
    rw [← Int64.toBitVec_inj, e, hB]; exact own_wide _ _
  unfold own_hit
  by_cases h : own_sel b7 b6 b5 b4 b3 b2 b1 b0 i = c
  · rw [if_pos (q.mpr h), if_pos h]; exact hV
  · rw [if_neg (fun z => h (q.mp z)), if_neg h]; rfl
theorem own_law (wd : Int64) (b : Int32) : own_eqt wd (b.toInt8.toInt32) = (((((((own_hit wd (b &&& (255 : Int32)) (0 : Int32) ||| own_hit wd (b &&& (255 : Int32)) (1 : Int32)) ||| own_hit wd (b &&& (255 : Int32)) (2 : Int32)) ||| own_hit wd (b &&& (255 : Int32)) (3 : Int32)) ||| own_hit wd (b &&& (255 : Int32)) (4 : Int32)) ||| own_hit wd (b &&& (255 : Int32)) (5 : Int32)) ||| own_hit wd (b &&& (255 : Int32)) (6 : Int32)) ||| own_hit wd (b &&& (255 : Int32)) (7 : Int32)) := by
  unfold own_eqt
  rw [own_b255]
  obtain ⟨c, hB⟩ := own_c b
  generalize b &&& (255 : Int32) = B at *
  obtain ⟨b7, b6, b5, b4, b3, b2, b1, b0, hW⟩ := own_split wd.toBitVec
  have H := own_hitv wd B c b7 b6 b5 b4 b3 b2 b1 b0 hB hW
  apply Int64.toBitVec_inj.mp
  rw [Int64.toBitVec_or, Int64.toBitVec_or, Int64.toBitVec_or, Int64.toBitVec_or, Int64.toBitVec_or, Int64.toBitVec_or, Int64.toBitVec_or,
    H 0 0 (by decide) (by decide) (by decide), H 1 1 (by decide) (by decide) (by decide), H 2 2 (by decide) (by decide) (by decide), H 3 3 (by decide) (by decide) (by decide), H 4 4 (by decide) (by decide) (by decide), H 5 5 (by decide) (by decide) (by decide), H 6 6 (by decide) (by decide) (by decide), H 7 7 (by decide) (by decide) (by decide)]
  refine Eq.trans ?_ (own_one b7 b6 b5 b4 b3 b2 b1 b0 c).symm
  rw [← own_Fcat]
  simp only [Int64.toBitVec_xor, Int64.toBitVec_or, Int64.toBitVec_and, Int64.toBitVec_add, Int64.toBitVec_mul, hB, hW]
  have hr := own_rep c
  have hM := own_M
  have h1 := own_1
  show ((((own_cat b7 b6 b5 b4 b3 b2 b1 b0 ^^^ (72340172838076673#64 * c.setWidth 64 : BitVec 64)) &&& (9187201950435737471#64 : BitVec 64)) + (9187201950435737471#64 : BitVec 64)) ||| (own_cat b7 b6 b5 b4 b3 b2 b1 b0 ^^^ (72340172838076673#64 * c.setWidth 64 : BitVec 64)) ||| (9187201950435737471#64 : BitVec 64)) ^^^ (18446744073709551615#64 : BitVec 64) = _
  rw [hr, hM, h1]
  rfl

theorem d1_0 : decode method_2_code 0 = .ok (.bipush 8, 2) := by decide +kernel
theorem d1_2 : decode method_2_code 2 = .ok (.iload 6, 2) := by decide +kernel
theorem d1_4 : decode method_2_code 4 = .ok (.imul, 1) := by decide +kernel
theorem d1_5 : decode method_2_code 5 = .ok (.istore 7, 2) := by decide +kernel
theorem d1_7 : decode method_2_code 7 = .ok (.lload_n 0, 1) := by decide +kernel
theorem d1_8 : decode method_2_code 8 = .ok (.iload 7, 2) := by decide +kernel
theorem d1_10 : decode method_2_code 10 = .ok (.lushr, 1) := by decide +kernel
theorem d1_11 : decode method_2_code 11 = .ok (.ldc2_w 7, 3) := by decide +kernel
theorem d1_14 : decode method_2_code 14 = .ok (.land, 1) := by decide +kernel
theorem d1_15 : decode method_2_code 15 = .ok (.lstore 8, 2) := by decide +kernel
theorem d1_17 : decode method_2_code 17 = .ok (.iload_n 3, 1) := by decide +kernel
theorem d1_18 : decode method_2_code 18 = .ok (.iload 6, 2) := by decide +kernel
theorem d1_20 : decode method_2_code 20 = .ok (.iushr, 1) := by decide +kernel
theorem d1_21 : decode method_2_code 21 = .ok (.iconst 1, 1) := by decide +kernel
theorem d1_22 : decode method_2_code 22 = .ok (.iand, 1) := by decide +kernel
theorem d1_23 : decode method_2_code 23 = .ok (.ifCond .eq 10, 3) := by decide +kernel
theorem d1_26 : decode method_2_code 26 = .ok (.iload_n 2, 1) := by decide +kernel
theorem d1_27 : decode method_2_code 27 = .ok (.i2l, 1) := by decide +kernel
theorem d1_28 : decode method_2_code 28 = .ok (.lstore 10, 2) := by decide +kernel
theorem d1_30 : decode method_2_code 30 = .ok (.goto 31, 3) := by decide +kernel
theorem d1_33 : decode method_2_code 33 = .ok (.iload 4, 2) := by decide +kernel
theorem d1_35 : decode method_2_code 35 = .ok (.iload 6, 2) := by decide +kernel
theorem d1_37 : decode method_2_code 37 = .ok (.iushr, 1) := by decide +kernel
theorem d1_38 : decode method_2_code 38 = .ok (.iconst 1, 1) := by decide +kernel
theorem d1_39 : decode method_2_code 39 = .ok (.iand, 1) := by decide +kernel
theorem d1_40 : decode method_2_code 40 = .ok (.ifCond .eq 17, 3) := by decide +kernel
theorem d1_43 : decode method_2_code 43 = .ok (.iload_n 2, 1) := by decide +kernel
theorem d1_44 : decode method_2_code 44 = .ok (.iload 5, 2) := by decide +kernel
theorem d1_46 : decode method_2_code 46 = .ok (.ixor, 1) := by decide +kernel
theorem d1_47 : decode method_2_code 47 = .ok (.sipush 255, 3) := by decide +kernel
theorem d1_50 : decode method_2_code 50 = .ok (.iand, 1) := by decide +kernel
theorem d1_51 : decode method_2_code 51 = .ok (.i2l, 1) := by decide +kernel
theorem d1_52 : decode method_2_code 52 = .ok (.lstore 10, 2) := by decide +kernel
theorem d1_54 : decode method_2_code 54 = .ok (.goto 7, 3) := by decide +kernel
theorem d1_57 : decode method_2_code 57 = .ok (.lload 8, 2) := by decide +kernel
theorem d1_59 : decode method_2_code 59 = .ok (.lstore 10, 2) := by decide +kernel
theorem d1_61 : decode method_2_code 61 = .ok (.lload 10, 2) := by decide +kernel
theorem d1_63 : decode method_2_code 63 = .ok (.iload 7, 2) := by decide +kernel
theorem d1_65 : decode method_2_code 65 = .ok (.lshl, 1) := by decide +kernel
theorem d1_66 : decode method_2_code 66 = .ok (.lreturn, 1) := by decide +kernel
theorem pn_1 : plainFor (⟨"com/example/covenantry/covenantry/input/BytesEqualToPinLaw", "pick", "(JIIIII)J"⟩ : MethodName) = true := plainFor_of_name (by first | (simp [plainName, overriddenIn]; done) | decide +kernel)
theorem ef_1 (m : MethodId) (x0 : Int64) (x1 : Int32) (x2 : Int32) (x3 : Int32) (x4 : Int32) (x5 : Int32) : entryFrame m #[(.long x0), (.int x1), (.int x2), (.int x3), (.int x4), (.int x5)] 12 = mkF m 0 #[.val (.long x0), .second, .val (.int x1), .val (.int x2), .val (.int x3), .val (.int x4), .val (.int x5), .unset, .unset, .unset, .unset, .unset] [] := by first | (simp [entryFrame, mkF, argsToLocals, Value.category]; done) | rfl
set_option maxRecDepth 65536 in
set_option maxHeartbeats 40000000 in
theorem rm1 (l : Launch) (Z : State) (a0 : Array Value) (hw : ∀ d ∈ tables_1, d.before a0 Z = true) (q1 : Int64) (p2 : Int32) (p3 : Int32) (p4 : Int32) (p5 : Int32) (p6 : Int32)  (h0 : Heap) (n0 : Nat) (Z0 : n0 ≤ h0.size)  :
    own_Met l Z [] (⟨"com/example/covenantry/covenantry/input/BytesEqualToPinLaw", "pick", "(JIIIII)J"⟩ : MethodName) method_2_code 12 (some .long) ({ frames := 0, cells := 0, slots := 0, locals := 0 } : Room) #[(.long q1), (.int p2), (.int p3), (.int p4), (.int p5), (.int p6)] h0 (own_QJ h0 n0) := by
  refine own_enter pn_1 ?_
  intro p e s m below meth c s₁ X0 hx hby hml hown hret hlk hnm hZ e0
  have hml : c.maxLocals = 12 := hml
  have N0 := Fr.nil n0
  rw [ef_1 m q1 p2 p3 p4 p5 p6]
  show own_Fin p e below s _ _ _ (s₁.setTop (mkF m 0 #[.val (.long q1), .second, .val (.int p2), .val (.int p3), .val (.int p4), .val (.int p5), .val (.int p6), .unset, .unset, .unset, .unset, .unset] []))
  refine own_Fin.step (fun _ => XS.bipush X0.here hx rfl (hb hby d1_0)) ?_
  show own_Fin p e below s _ _ _ (s₁.setTop (mkF m 2 #[.val (.long q1), .second, .val (.int p2), .val (.int p3), .val (.int p4), .val (.int p5), .val (.int p6), .unset, .unset, .unset, .unset, .unset] [(.int (8 : Int32))]))
  refine own_Fin.step (fun _ => XS.iload X0.here hx rfl (hb hby d1_2) rfl) ?_
  show own_Fin p e below s _ _ _ (s₁.setTop (mkF m 4 #[.val (.long q1), .second, .val (.int p2), .val (.int p3), .val (.int p4), .val (.int p5), .val (.int p6), .unset, .unset, .unset, .unset, .unset] [(.int p6), (.int (8 : Int32))]))
  refine own_Fin.step (fun _ => XS.imul X0.here hx rfl (hb hby d1_4) rfl) ?_
  show own_Fin p e below s _ _ _ (s₁.setTop (mkF m 5 #[.val (.long q1), .second, .val (.int p2), .val (.int p3), .val (.int p4), .val (.int p5), .val (.int p6), .unset, .unset, .unset, .unset, .unset] [(.int ((8 : Int32) * p6))]))
  refine own_Fin.step (fun _ => XS.istore X0.here hx rfl (hb hby d1_5) rfl (l' := #[.val (.long q1), .second, .val (.int p2), .val (.int p3), .val (.int p4), .val (.int p5), .val (.int p6), .val (.int ((8 : Int32) * p6)), .unset, .unset, .unset, .unset]) rfl) ?_
  show own_Fin p e below s _ _ _ (s₁.setTop (mkF m 7 #[.val (.long q1), .second, .val (.int p2), .val (.int p3), .val (.int p4), .val (.int p5), .val (.int p6), .val (.int ((8 : Int32) * p6)), .unset, .unset, .unset, .unset] []))
  refine own_Fin.step (fun _ => XS.lloadN X0.here hx rfl (hb hby d1_7) rfl) ?_
  show own_Fin p e below s _ _ _ (s₁.setTop (mkF m 8 #[.val (.long q1), .second, .val (.int p2), .val (.int p3), .val (.int p4), .val (.int p5), .val (.int p6), .val (.int ((8 : Int32) * p6)), .unset, .unset, .unset, .unset] [(.long q1)]))
  refine own_Fin.step (fun _ => XS.iload X0.here hx rfl (hb hby d1_8) rfl) ?_
  show own_Fin p e below s _ _ _ (s₁.setTop (mkF m 10 #[.val (.long q1), .second, .val (.int p2), .val (.int p3), .val (.int p4), .val (.int p5), .val (.int p6), .val (.int ((8 : Int32) * p6)), .unset, .unset, .unset, .unset] [(.int ((8 : Int32) * p6)), (.long q1)]))
  refine own_Fin.step (fun _ => XS.lushr X0.here hx rfl (hb hby d1_10) rfl) ?_
  show own_Fin p e below s _ _ _ (s₁.setTop (mkF m 11 #[.val (.long q1), .second, .val (.int p2), .val (.int p3), .val (.int p4), .val (.int p5), .val (.int p6), .val (.int ((8 : Int32) * p6)), .unset, .unset, .unset, .unset] [(.long ((q1.toUInt64 >>> (((8 : Int32) * p6) &&& 0x3f).toInt64.toUInt64).toInt64))]))
  refine own_Fin.step (X0.ldc2Long hx hown (mvT hZ (own_w hw 4 rfl)) (g := (mkF m 11 #[.val (.long q1), .second, .val (.int p2), .val (.int p3), .val (.int p4), .val (.int p5), .val (.int p6), .val (.int ((8 : Int32) * p6)), .unset, .unset, .unset, .unset] [(.long ((q1.toUInt64 >>> (((8 : Int32) * p6) &&& 0x3f).toInt64.toUInt64).toInt64))])) rfl (hb hby d1_11)) ?_
  show own_Fin p e below s _ _ _ (s₁.setTop (mkF m 14 #[.val (.long q1), .second, .val (.int p2), .val (.int p3), .val (.int p4), .val (.int p5), .val (.int p6), .val (.int ((8 : Int32) * p6)), .unset, .unset, .unset, .unset] [(.long (255 : Int64)), (.long ((q1.toUInt64 >>> (((8 : Int32) * p6) &&& 0x3f).toInt64.toUInt64).toInt64))]))
  refine own_Fin.step (fun _ => XS.land X0.here hx rfl (hb hby d1_14) rfl) ?_
  show own_Fin p e below s _ _ _ (s₁.setTop (mkF m 15 #[.val (.long q1), .second, .val (.int p2), .val (.int p3), .val (.int p4), .val (.int p5), .val (.int p6), .val (.int ((8 : Int32) * p6)), .unset, .unset, .unset, .unset] [(.long (((q1.toUInt64 >>> (((8 : Int32) * p6) &&& 0x3f).toInt64.toUInt64).toInt64) &&& (255 : Int64)))]))
  refine own_Fin.step (fun _ => XS.lstore X0.here hx rfl (hb hby d1_15) rfl (l' := #[.val (.long q1), .second, .val (.int p2), .val (.int p3), .val (.int p4), .val (.int p5), .val (.int p6), .val (.int ((8 : Int32) * p6)), .val (.long (((q1.toUInt64 >>> (((8 : Int32) * p6) &&& 0x3f).toInt64.toUInt64).toInt64) &&& (255 : Int64))), .second, .unset, .unset]) rfl) ?_
  show own_Fin p e below s _ _ _ (s₁.setTop (mkF m 17 #[.val (.long q1), .second, .val (.int p2), .val (.int p3), .val (.int p4), .val (.int p5), .val (.int p6), .val (.int ((8 : Int32) * p6)), .val (.long (((q1.toUInt64 >>> (((8 : Int32) * p6) &&& 0x3f).toInt64.toUInt64).toInt64) &&& (255 : Int64))), .second, .unset, .unset] []))
  refine own_Fin.step (fun _ => XS.iloadN X0.here hx rfl (hb hby d1_17) rfl) ?_
  show own_Fin p e below s _ _ _ (s₁.setTop (mkF m 18 #[.val (.long q1), .second, .val (.int p2), .val (.int p3), .val (.int p4), .val (.int p5), .val (.int p6), .val (.int ((8 : Int32) * p6)), .val (.long (((q1.toUInt64 >>> (((8 : Int32) * p6) &&& 0x3f).toInt64.toUInt64).toInt64) &&& (255 : Int64))), .second, .unset, .unset] [(.int p3)]))
  refine own_Fin.step (fun _ => XS.iload X0.here hx rfl (hb hby d1_18) rfl) ?_
  show own_Fin p e below s _ _ _ (s₁.setTop (mkF m 20 #[.val (.long q1), .second, .val (.int p2), .val (.int p3), .val (.int p4), .val (.int p5), .val (.int p6), .val (.int ((8 : Int32) * p6)), .val (.long (((q1.toUInt64 >>> (((8 : Int32) * p6) &&& 0x3f).toInt64.toUInt64).toInt64) &&& (255 : Int64))), .second, .unset, .unset] [(.int p6), (.int p3)]))
  refine own_Fin.step (fun _ => XS.iushr X0.here hx rfl (hb hby d1_20) rfl) ?_
  show own_Fin p e below s _ _ _ (s₁.setTop (mkF m 21 #[.val (.long q1), .second, .val (.int p2), .val (.int p3), .val (.int p4), .val (.int p5), .val (.int p6), .val (.int ((8 : Int32) * p6)), .val (.long (((q1.toUInt64 >>> (((8 : Int32) * p6) &&& 0x3f).toInt64.toUInt64).toInt64) &&& (255 : Int64))), .second, .unset, .unset] [(.int ((p3.toUInt32 >>> (p6 &&& 31).toUInt32).toInt32))]))
  refine own_Fin.step (fun _ => XS.iconst X0.here hx rfl (hb hby d1_21)) ?_
  show own_Fin p e below s _ _ _ (s₁.setTop (mkF m 22 #[.val (.long q1), .second, .val (.int p2), .val (.int p3), .val (.int p4), .val (.int p5), .val (.int p6), .val (.int ((8 : Int32) * p6)), .val (.long (((q1.toUInt64 >>> (((8 : Int32) * p6) &&& 0x3f).toInt64.toUInt64).toInt64) &&& (255 : Int64))), .second, .unset, .unset] [(.int (1 : Int32)), (.int ((p3.toUInt32 >>> (p6 &&& 31).toUInt32).toInt32))]))
  refine own_Fin.step (fun _ => XS.iand X0.here hx rfl (hb hby d1_22) rfl) ?_
  show own_Fin p e below s _ _ _ (s₁.setTop (mkF m 23 #[.val (.long q1), .second, .val (.int p2), .val (.int p3), .val (.int p4), .val (.int p5), .val (.int p6), .val (.int ((8 : Int32) * p6)), .val (.long (((q1.toUInt64 >>> (((8 : Int32) * p6) &&& 0x3f).toInt64.toUInt64).toInt64) &&& (255 : Int64))), .second, .unset, .unset] [(.int (((p3.toUInt32 >>> (p6 &&& 31).toUInt32).toInt32) &&& (1 : Int32)))]))
  by_cases hc23_1 : (((p3.toUInt32 >>> (p6 &&& 31).toUInt32).toInt32) &&& (1 : Int32)) = (0 : Int32)
  ·
    refine own_Fin.step (fun _ => XS.ifYes X0.here hx rfl (pc0 := 23) (pc' := 33) rfl (hb hby d1_23) rfl (XT.i0_eq_t hc23_1) (by decide) (by decide)) ?_
    show own_Fin p e below s _ _ _ (s₁.setTop (mkF m 33 #[.val (.long q1), .second, .val (.int p2), .val (.int p3), .val (.int p4), .val (.int p5), .val (.int p6), .val (.int ((8 : Int32) * p6)), .val (.long (((q1.toUInt64 >>> (((8 : Int32) * p6) &&& 0x3f).toInt64.toUInt64).toInt64) &&& (255 : Int64))), .second, .unset, .unset] []))
    refine own_Fin.step (fun _ => XS.iload X0.here hx rfl (hb hby d1_33) rfl) ?_
    show own_Fin p e below s _ _ _ (s₁.setTop (mkF m 35 #[.val (.long q1), .second, .val (.int p2), .val (.int p3), .val (.int p4), .val (.int p5), .val (.int p6), .val (.int ((8 : Int32) * p6)), .val (.long (((q1.toUInt64 >>> (((8 : Int32) * p6) &&& 0x3f).toInt64.toUInt64).toInt64) &&& (255 : Int64))), .second, .unset, .unset] [(.int p4)]))
    refine own_Fin.step (fun _ => XS.iload X0.here hx rfl (hb hby d1_35) rfl) ?_
    show own_Fin p e below s _ _ _ (s₁.setTop (mkF m 37 #[.val (.long q1), .second, .val (.int p2), .val (.int p3), .val (.int p4), .val (.int p5), .val (.int p6), .val (.int ((8 : Int32) * p6)), .val (.long (((q1.toUInt64 >>> (((8 : Int32) * p6) &&& 0x3f).toInt64.toUInt64).toInt64) &&& (255 : Int64))), .second, .unset, .unset] [(.int p6), (.int p4)]))
    refine own_Fin.step (fun _ => XS.iushr X0.here hx rfl (hb hby d1_37) rfl) ?_
    show own_Fin p e below s _ _ _ (s₁.setTop (mkF m 38 #[.val (.long q1), .second, .val (.int p2), .val (.int p3), .val (.int p4), .val (.int p5), .val (.int p6), .val (.int ((8 : Int32) * p6)), .val (.long (((q1.toUInt64 >>> (((8 : Int32) * p6) &&& 0x3f).toInt64.toUInt64).toInt64) &&& (255 : Int64))), .second, .unset, .unset] [(.int ((p4.toUInt32 >>> (p6 &&& 31).toUInt32).toInt32))]))
    refine own_Fin.step (fun _ => XS.iconst X0.here hx rfl (hb hby d1_38)) ?_
    show own_Fin p e below s _ _ _ (s₁.setTop (mkF m 39 #[.val (.long q1), .second, .val (.int p2), .val (.int p3), .val (.int p4), .val (.int p5), .val (.int p6), .val (.int ((8 : Int32) * p6)), .val (.long (((q1.toUInt64 >>> (((8 : Int32) * p6) &&& 0x3f).toInt64.toUInt64).toInt64) &&& (255 : Int64))), .second, .unset, .unset] [(.int (1 : Int32)), (.int ((p4.toUInt32 >>> (p6 &&& 31).toUInt32).toInt32))]))
    refine own_Fin.step (fun _ => XS.iand X0.here hx rfl (hb hby d1_39) rfl) ?_
    show own_Fin p e below s _ _ _ (s₁.setTop (mkF m 40 #[.val (.long q1), .second, .val (.int p2), .val (.int p3), .val (.int p4), .val (.int p5), .val (.int p6), .val (.int ((8 : Int32) * p6)), .val (.long (((q1.toUInt64 >>> (((8 : Int32) * p6) &&& 0x3f).toInt64.toUInt64).toInt64) &&& (255 : Int64))), .second, .unset, .unset] [(.int (((p4.toUInt32 >>> (p6 &&& 31).toUInt32).toInt32) &&& (1 : Int32)))]))
    by_cases hc40_2 : (((p4.toUInt32 >>> (p6 &&& 31).toUInt32).toInt32) &&& (1 : Int32)) = (0 : Int32)
    ·
      refine own_Fin.step (fun _ => XS.ifYes X0.here hx rfl (pc0 := 40) (pc' := 57) rfl (hb hby d1_40) rfl (XT.i0_eq_t hc40_2) (by decide) (by decide)) ?_
      show own_Fin p e below s _ _ _ (s₁.setTop (mkF m 57 #[.val (.long q1), .second, .val (.int p2), .val (.int p3), .val (.int p4), .val (.int p5), .val (.int p6), .val (.int ((8 : Int32) * p6)), .val (.long (((q1.toUInt64 >>> (((8 : Int32) * p6) &&& 0x3f).toInt64.toUInt64).toInt64) &&& (255 : Int64))), .second, .unset, .unset] []))
      refine own_Fin.step (fun _ => XS.lload X0.here hx rfl (hb hby d1_57) rfl) ?_
      show own_Fin p e below s _ _ _ (s₁.setTop (mkF m 59 #[.val (.long q1), .second, .val (.int p2), .val (.int p3), .val (.int p4), .val (.int p5), .val (.int p6), .val (.int ((8 : Int32) * p6)), .val (.long (((q1.toUInt64 >>> (((8 : Int32) * p6) &&& 0x3f).toInt64.toUInt64).toInt64) &&& (255 : Int64))), .second, .unset, .unset] [(.long (((q1.toUInt64 >>> (((8 : Int32) * p6) &&& 0x3f).toInt64.toUInt64).toInt64) &&& (255 : Int64)))]))
      refine own_Fin.step (fun _ => XS.lstore X0.here hx rfl (hb hby d1_59) rfl (l' := #[.val (.long q1), .second, .val (.int p2), .val (.int p3), .val (.int p4), .val (.int p5), .val (.int p6), .val (.int ((8 : Int32) * p6)), .val (.long (((q1.toUInt64 >>> (((8 : Int32) * p6) &&& 0x3f).toInt64.toUInt64).toInt64) &&& (255 : Int64))), .second, .val (.long (((q1.toUInt64 >>> (((8 : Int32) * p6) &&& 0x3f).toInt64.toUInt64).toInt64) &&& (255 : Int64))), .second]) rfl) ?_
      show own_Fin p e below s _ _ _ (s₁.setTop (mkF m 61 #[.val (.long q1), .second, .val (.int p2), .val (.int p3), .val (.int p4), .val (.int p5), .val (.int p6), .val (.int ((8 : Int32) * p6)), .val (.long (((q1.toUInt64 >>> (((8 : Int32) * p6) &&& 0x3f).toInt64.toUInt64).toInt64) &&& (255 : Int64))), .second, .val (.long (((q1.toUInt64 >>> (((8 : Int32) * p6) &&& 0x3f).toInt64.toUInt64).toInt64) &&& (255 : Int64))), .second] []))
      refine own_Fin.step (fun _ => XS.lload X0.here hx rfl (hb hby d1_61) rfl) ?_
      show own_Fin p e below s _ _ _ (s₁.setTop (mkF m 63 #[.val (.long q1), .second, .val (.int p2), .val (.int p3), .val (.int p4), .val (.int p5), .val (.int p6), .val (.int ((8 : Int32) * p6)), .val (.long (((q1.toUInt64 >>> (((8 : Int32) * p6) &&& 0x3f).toInt64.toUInt64).toInt64) &&& (255 : Int64))), .second, .val (.long (((q1.toUInt64 >>> (((8 : Int32) * p6) &&& 0x3f).toInt64.toUInt64).toInt64) &&& (255 : Int64))), .second] [(.long (((q1.toUInt64 >>> (((8 : Int32) * p6) &&& 0x3f).toInt64.toUInt64).toInt64) &&& (255 : Int64)))]))
      refine own_Fin.step (fun _ => XS.iload X0.here hx rfl (hb hby d1_63) rfl) ?_
      show own_Fin p e below s _ _ _ (s₁.setTop (mkF m 65 #[.val (.long q1), .second, .val (.int p2), .val (.int p3), .val (.int p4), .val (.int p5), .val (.int p6), .val (.int ((8 : Int32) * p6)), .val (.long (((q1.toUInt64 >>> (((8 : Int32) * p6) &&& 0x3f).toInt64.toUInt64).toInt64) &&& (255 : Int64))), .second, .val (.long (((q1.toUInt64 >>> (((8 : Int32) * p6) &&& 0x3f).toInt64.toUInt64).toInt64) &&& (255 : Int64))), .second] [(.int ((8 : Int32) * p6)), (.long (((q1.toUInt64 >>> (((8 : Int32) * p6) &&& 0x3f).toInt64.toUInt64).toInt64) &&& (255 : Int64)))]))
      refine own_Fin.step (fun _ => XS.lshl X0.here hx rfl (hb hby d1_65) rfl) ?_
      show own_Fin p e below s _ _ _ (s₁.setTop (mkF m 66 #[.val (.long q1), .second, .val (.int p2), .val (.int p3), .val (.int p4), .val (.int p5), .val (.int p6), .val (.int ((8 : Int32) * p6)), .val (.long (((q1.toUInt64 >>> (((8 : Int32) * p6) &&& 0x3f).toInt64.toUInt64).toInt64) &&& (255 : Int64))), .second, .val (.long (((q1.toUInt64 >>> (((8 : Int32) * p6) &&& 0x3f).toInt64.toUInt64).toInt64) &&& (255 : Int64))), .second] [(.long ((((q1.toUInt64 >>> (((8 : Int32) * p6) &&& 0x3f).toInt64.toUInt64).toInt64) &&& (255 : Int64)) <<< (((8 : Int32) * p6) &&& 0x3f).toInt64))]))
      exact own_retJ X0 hx hlk hret (hb hby d1_66) ⟨_, rfl, N0, e0⟩ (by decide) (by decide)
    ·
      refine own_Fin.step (fun _ => XS.ifNo X0.here hx rfl (hb hby d1_40) rfl (XT.i0_eq_f hc40_2)) ?_
      show own_Fin p e below s _ _ _ (s₁.setTop (mkF m 43 #[.val (.long q1), .second, .val (.int p2), .val (.int p3), .val (.int p4), .val (.int p5), .val (.int p6), .val (.int ((8 : Int32) * p6)), .val (.long (((q1.toUInt64 >>> (((8 : Int32) * p6) &&& 0x3f).toInt64.toUInt64).toInt64) &&& (255 : Int64))), .second, .unset, .unset] []))
      refine own_Fin.step (fun _ => XS.iloadN X0.here hx rfl (hb hby d1_43) rfl) ?_
      show own_Fin p e below s _ _ _ (s₁.setTop (mkF m 44 #[.val (.long q1), .second, .val (.int p2), .val (.int p3), .val (.int p4), .val (.int p5), .val (.int p6), .val (.int ((8 : Int32) * p6)), .val (.long (((q1.toUInt64 >>> (((8 : Int32) * p6) &&& 0x3f).toInt64.toUInt64).toInt64) &&& (255 : Int64))), .second, .unset, .unset] [(.int p2)]))
      refine own_Fin.step (fun _ => XS.iload X0.here hx rfl (hb hby d1_44) rfl) ?_
      show own_Fin p e below s _ _ _ (s₁.setTop (mkF m 46 #[.val (.long q1), .second, .val (.int p2), .val (.int p3), .val (.int p4), .val (.int p5), .val (.int p6), .val (.int ((8 : Int32) * p6)), .val (.long (((q1.toUInt64 >>> (((8 : Int32) * p6) &&& 0x3f).toInt64.toUInt64).toInt64) &&& (255 : Int64))), .second, .unset, .unset] [(.int p5), (.int p2)]))
      refine own_Fin.step (fun _ => XS.ixor X0.here hx rfl (hb hby d1_46) rfl) ?_
      show own_Fin p e below s _ _ _ (s₁.setTop (mkF m 47 #[.val (.long q1), .second, .val (.int p2), .val (.int p3), .val (.int p4), .val (.int p5), .val (.int p6), .val (.int ((8 : Int32) * p6)), .val (.long (((q1.toUInt64 >>> (((8 : Int32) * p6) &&& 0x3f).toInt64.toUInt64).toInt64) &&& (255 : Int64))), .second, .unset, .unset] [(.int (p2 ^^^ p5))]))
      refine own_Fin.step (fun _ => XS.sipush X0.here hx rfl (hb hby d1_47)) ?_
      show own_Fin p e below s _ _ _ (s₁.setTop (mkF m 50 #[.val (.long q1), .second, .val (.int p2), .val (.int p3), .val (.int p4), .val (.int p5), .val (.int p6), .val (.int ((8 : Int32) * p6)), .val (.long (((q1.toUInt64 >>> (((8 : Int32) * p6) &&& 0x3f).toInt64.toUInt64).toInt64) &&& (255 : Int64))), .second, .unset, .unset] [(.int (255 : Int32)), (.int (p2 ^^^ p5))]))
      refine own_Fin.step (fun _ => XS.iand X0.here hx rfl (hb hby d1_50) rfl) ?_
      show own_Fin p e below s _ _ _ (s₁.setTop (mkF m 51 #[.val (.long q1), .second, .val (.int p2), .val (.int p3), .val (.int p4), .val (.int p5), .val (.int p6), .val (.int ((8 : Int32) * p6)), .val (.long (((q1.toUInt64 >>> (((8 : Int32) * p6) &&& 0x3f).toInt64.toUInt64).toInt64) &&& (255 : Int64))), .second, .unset, .unset] [(.int ((p2 ^^^ p5) &&& (255 : Int32)))]))
      refine own_Fin.step (fun _ => XS.i2l X0.here hx rfl (hb hby d1_51) rfl) ?_
      show own_Fin p e below s _ _ _ (s₁.setTop (mkF m 52 #[.val (.long q1), .second, .val (.int p2), .val (.int p3), .val (.int p4), .val (.int p5), .val (.int p6), .val (.int ((8 : Int32) * p6)), .val (.long (((q1.toUInt64 >>> (((8 : Int32) * p6) &&& 0x3f).toInt64.toUInt64).toInt64) &&& (255 : Int64))), .second, .unset, .unset] [(.long (((p2 ^^^ p5) &&& (255 : Int32)).toInt64))]))
      refine own_Fin.step (fun _ => XS.lstore X0.here hx rfl (hb hby d1_52) rfl (l' := #[.val (.long q1), .second, .val (.int p2), .val (.int p3), .val (.int p4), .val (.int p5), .val (.int p6), .val (.int ((8 : Int32) * p6)), .val (.long (((q1.toUInt64 >>> (((8 : Int32) * p6) &&& 0x3f).toInt64.toUInt64).toInt64) &&& (255 : Int64))), .second, .val (.long (((p2 ^^^ p5) &&& (255 : Int32)).toInt64)), .second]) rfl) ?_
      show own_Fin p e below s _ _ _ (s₁.setTop (mkF m 54 #[.val (.long q1), .second, .val (.int p2), .val (.int p3), .val (.int p4), .val (.int p5), .val (.int p6), .val (.int ((8 : Int32) * p6)), .val (.long (((q1.toUInt64 >>> (((8 : Int32) * p6) &&& 0x3f).toInt64.toUInt64).toInt64) &&& (255 : Int64))), .second, .val (.long (((p2 ^^^ p5) &&& (255 : Int32)).toInt64)), .second] []))
      refine own_Fin.step (fun _ => XS.goto X0.here hx rfl (pc0 := 54) (pc' := 61) rfl (hb hby d1_54) (by decide) (by decide)) ?_
      show own_Fin p e below s _ _ _ (s₁.setTop (mkF m 61 #[.val (.long q1), .second, .val (.int p2), .val (.int p3), .val (.int p4), .val (.int p5), .val (.int p6), .val (.int ((8 : Int32) * p6)), .val (.long (((q1.toUInt64 >>> (((8 : Int32) * p6) &&& 0x3f).toInt64.toUInt64).toInt64) &&& (255 : Int64))), .second, .val (.long (((p2 ^^^ p5) &&& (255 : Int32)).toInt64)), .second] []))
      refine own_Fin.step (fun _ => XS.lload X0.here hx rfl (hb hby d1_61) rfl) ?_
      show own_Fin p e below s _ _ _ (s₁.setTop (mkF m 63 #[.val (.long q1), .second, .val (.int p2), .val (.int p3), .val (.int p4), .val (.int p5), .val (.int p6), .val (.int ((8 : Int32) * p6)), .val (.long (((q1.toUInt64 >>> (((8 : Int32) * p6) &&& 0x3f).toInt64.toUInt64).toInt64) &&& (255 : Int64))), .second, .val (.long (((p2 ^^^ p5) &&& (255 : Int32)).toInt64)), .second] [(.long (((p2 ^^^ p5) &&& (255 : Int32)).toInt64))]))
      refine own_Fin.step (fun _ => XS.iload X0.here hx rfl (hb hby d1_63) rfl) ?_
      show own_Fin p e below s _ _ _ (s₁.setTop (mkF m 65 #[.val (.long q1), .second, .val (.int p2), .val (.int p3), .val (.int p4), .val (.int p5), .val (.int p6), .val (.int ((8 : Int32) * p6)), .val (.long (((q1.toUInt64 >>> (((8 : Int32) * p6) &&& 0x3f).toInt64.toUInt64).toInt64) &&& (255 : Int64))), .second, .val (.long (((p2 ^^^ p5) &&& (255 : Int32)).toInt64)), .second] [(.int ((8 : Int32) * p6)), (.long (((p2 ^^^ p5) &&& (255 : Int32)).toInt64))]))
      refine own_Fin.step (fun _ => XS.lshl X0.here hx rfl (hb hby d1_65) rfl) ?_
      show own_Fin p e below s _ _ _ (s₁.setTop (mkF m 66 #[.val (.long q1), .second, .val (.int p2), .val (.int p3), .val (.int p4), .val (.int p5), .val (.int p6), .val (.int ((8 : Int32) * p6)), .val (.long (((q1.toUInt64 >>> (((8 : Int32) * p6) &&& 0x3f).toInt64.toUInt64).toInt64) &&& (255 : Int64))), .second, .val (.long (((p2 ^^^ p5) &&& (255 : Int32)).toInt64)), .second] [(.long ((((p2 ^^^ p5) &&& (255 : Int32)).toInt64) <<< (((8 : Int32) * p6) &&& 0x3f).toInt64))]))
      exact own_retJ X0 hx hlk hret (hb hby d1_66) ⟨_, rfl, N0, e0⟩ (by decide) (by decide)
  ·
    refine own_Fin.step (fun _ => XS.ifNo X0.here hx rfl (hb hby d1_23) rfl (XT.i0_eq_f hc23_1)) ?_
    show own_Fin p e below s _ _ _ (s₁.setTop (mkF m 26 #[.val (.long q1), .second, .val (.int p2), .val (.int p3), .val (.int p4), .val (.int p5), .val (.int p6), .val (.int ((8 : Int32) * p6)), .val (.long (((q1.toUInt64 >>> (((8 : Int32) * p6) &&& 0x3f).toInt64.toUInt64).toInt64) &&& (255 : Int64))), .second, .unset, .unset] []))
    refine own_Fin.step (fun _ => XS.iloadN X0.here hx rfl (hb hby d1_26) rfl) ?_
    show own_Fin p e below s _ _ _ (s₁.setTop (mkF m 27 #[.val (.long q1), .second, .val (.int p2), .val (.int p3), .val (.int p4), .val (.int p5), .val (.int p6), .val (.int ((8 : Int32) * p6)), .val (.long (((q1.toUInt64 >>> (((8 : Int32) * p6) &&& 0x3f).toInt64.toUInt64).toInt64) &&& (255 : Int64))), .second, .unset, .unset] [(.int p2)]))
    refine own_Fin.step (fun _ => XS.i2l X0.here hx rfl (hb hby d1_27) rfl) ?_
    show own_Fin p e below s _ _ _ (s₁.setTop (mkF m 28 #[.val (.long q1), .second, .val (.int p2), .val (.int p3), .val (.int p4), .val (.int p5), .val (.int p6), .val (.int ((8 : Int32) * p6)), .val (.long (((q1.toUInt64 >>> (((8 : Int32) * p6) &&& 0x3f).toInt64.toUInt64).toInt64) &&& (255 : Int64))), .second, .unset, .unset] [(.long (p2.toInt64))]))
    refine own_Fin.step (fun _ => XS.lstore X0.here hx rfl (hb hby d1_28) rfl (l' := #[.val (.long q1), .second, .val (.int p2), .val (.int p3), .val (.int p4), .val (.int p5), .val (.int p6), .val (.int ((8 : Int32) * p6)), .val (.long (((q1.toUInt64 >>> (((8 : Int32) * p6) &&& 0x3f).toInt64.toUInt64).toInt64) &&& (255 : Int64))), .second, .val (.long (p2.toInt64)), .second]) rfl) ?_
    show own_Fin p e below s _ _ _ (s₁.setTop (mkF m 30 #[.val (.long q1), .second, .val (.int p2), .val (.int p3), .val (.int p4), .val (.int p5), .val (.int p6), .val (.int ((8 : Int32) * p6)), .val (.long (((q1.toUInt64 >>> (((8 : Int32) * p6) &&& 0x3f).toInt64.toUInt64).toInt64) &&& (255 : Int64))), .second, .val (.long (p2.toInt64)), .second] []))
    refine own_Fin.step (fun _ => XS.goto X0.here hx rfl (pc0 := 30) (pc' := 61) rfl (hb hby d1_30) (by decide) (by decide)) ?_
    show own_Fin p e below s _ _ _ (s₁.setTop (mkF m 61 #[.val (.long q1), .second, .val (.int p2), .val (.int p3), .val (.int p4), .val (.int p5), .val (.int p6), .val (.int ((8 : Int32) * p6)), .val (.long (((q1.toUInt64 >>> (((8 : Int32) * p6) &&& 0x3f).toInt64.toUInt64).toInt64) &&& (255 : Int64))), .second, .val (.long (p2.toInt64)), .second] []))
    refine own_Fin.step (fun _ => XS.lload X0.here hx rfl (hb hby d1_61) rfl) ?_
    show own_Fin p e below s _ _ _ (s₁.setTop (mkF m 63 #[.val (.long q1), .second, .val (.int p2), .val (.int p3), .val (.int p4), .val (.int p5), .val (.int p6), .val (.int ((8 : Int32) * p6)), .val (.long (((q1.toUInt64 >>> (((8 : Int32) * p6) &&& 0x3f).toInt64.toUInt64).toInt64) &&& (255 : Int64))), .second, .val (.long (p2.toInt64)), .second] [(.long (p2.toInt64))]))
    refine own_Fin.step (fun _ => XS.iload X0.here hx rfl (hb hby d1_63) rfl) ?_
    show own_Fin p e below s _ _ _ (s₁.setTop (mkF m 65 #[.val (.long q1), .second, .val (.int p2), .val (.int p3), .val (.int p4), .val (.int p5), .val (.int p6), .val (.int ((8 : Int32) * p6)), .val (.long (((q1.toUInt64 >>> (((8 : Int32) * p6) &&& 0x3f).toInt64.toUInt64).toInt64) &&& (255 : Int64))), .second, .val (.long (p2.toInt64)), .second] [(.int ((8 : Int32) * p6)), (.long (p2.toInt64))]))
    refine own_Fin.step (fun _ => XS.lshl X0.here hx rfl (hb hby d1_65) rfl) ?_
    show own_Fin p e below s _ _ _ (s₁.setTop (mkF m 66 #[.val (.long q1), .second, .val (.int p2), .val (.int p3), .val (.int p4), .val (.int p5), .val (.int p6), .val (.int ((8 : Int32) * p6)), .val (.long (((q1.toUInt64 >>> (((8 : Int32) * p6) &&& 0x3f).toInt64.toUInt64).toInt64) &&& (255 : Int64))), .second, .val (.long (p2.toInt64)), .second] [(.long ((p2.toInt64) <<< (((8 : Int32) * p6) &&& 0x3f).toInt64))]))
    exact own_retJ X0 hx hlk hret (hb hby d1_66) ⟨_, rfl, N0, e0⟩ (by decide) (by decide)
theorem d2_0 : decode method_3_code 0 = .ok (.bipush 8, 2) := by decide +kernel
theorem d2_2 : decode method_3_code 2 = .ok (.iload_n 3, 1) := by decide +kernel
theorem d2_3 : decode method_3_code 3 = .ok (.imul, 1) := by decide +kernel
theorem d2_4 : decode method_3_code 4 = .ok (.istore 4, 2) := by decide +kernel
theorem d2_6 : decode method_3_code 6 = .ok (.lload_n 0, 1) := by decide +kernel
theorem d2_7 : decode method_3_code 7 = .ok (.iload 4, 2) := by decide +kernel
theorem d2_9 : decode method_3_code 9 = .ok (.lushr, 1) := by decide +kernel
theorem d2_10 : decode method_3_code 10 = .ok (.ldc2_w 7, 3) := by decide +kernel
theorem d2_13 : decode method_3_code 13 = .ok (.land, 1) := by decide +kernel
theorem d2_14 : decode method_3_code 14 = .ok (.iload_n 2, 1) := by decide +kernel
theorem d2_15 : decode method_3_code 15 = .ok (.i2l, 1) := by decide +kernel
theorem d2_16 : decode method_3_code 16 = .ok (.lcmp, 1) := by decide +kernel
theorem d2_17 : decode method_3_code 17 = .ok (.ifCond .ne 10, 3) := by decide +kernel
theorem d2_20 : decode method_3_code 20 = .ok (.ldc2_w 9, 3) := by decide +kernel
theorem d2_23 : decode method_3_code 23 = .ok (.iload 4, 2) := by decide +kernel
theorem d2_25 : decode method_3_code 25 = .ok (.lshl, 1) := by decide +kernel
theorem d2_26 : decode method_3_code 26 = .ok (.lreturn, 1) := by decide +kernel
theorem d2_27 : decode method_3_code 27 = .ok (.lconst 0, 1) := by decide +kernel
theorem d2_28 : decode method_3_code 28 = .ok (.lreturn, 1) := by decide +kernel
theorem pn_2 : plainFor (⟨"com/example/covenantry/covenantry/input/BytesEqualToPinLaw", "hit", "(JII)J"⟩ : MethodName) = true := plainFor_of_name (by first | (simp [plainName, overriddenIn]; done) | decide +kernel)
theorem ef_2 (m : MethodId) (x0 : Int64) (x1 : Int32) (x2 : Int32) : entryFrame m #[(.long x0), (.int x1), (.int x2)] 5 = mkF m 0 #[.val (.long x0), .second, .val (.int x1), .val (.int x2), .unset] [] := by first | (simp [entryFrame, mkF, argsToLocals, Value.category]; done) | rfl
set_option maxRecDepth 65536 in
set_option maxHeartbeats 40000000 in
theorem rm2 (l : Launch) (Z : State) (a0 : Array Value) (hw : ∀ d ∈ tables_1, d.before a0 Z = true) (q1 : Int64) (p2 : Int32) (p3 : Int32)  (h0 : Heap) (n0 : Nat) (Z0 : n0 ≤ h0.size)  :
    own_Met l Z [] (⟨"com/example/covenantry/covenantry/input/BytesEqualToPinLaw", "hit", "(JII)J"⟩ : MethodName) method_3_code 5 (some .long) ({ frames := 0, cells := 0, slots := 0, locals := 0 } : Room) #[(.long q1), (.int p2), (.int p3)] h0 (own_QP (some (.long (own_hit q1 p2 p3))) h0 n0) := by
  refine own_enter pn_2 ?_
  intro p e s m below meth c s₁ X0 hx hby hml hown hret hlk hnm hZ e0
  have hml : c.maxLocals = 5 := hml
  have N0 := Fr.nil n0
  rw [ef_2 m q1 p2 p3]
  show own_Fin p e below s _ _ _ (s₁.setTop (mkF m 0 #[.val (.long q1), .second, .val (.int p2), .val (.int p3), .unset] []))
  refine own_Fin.step (fun _ => XS.bipush X0.here hx rfl (hb hby d2_0)) ?_
  show own_Fin p e below s _ _ _ (s₁.setTop (mkF m 2 #[.val (.long q1), .second, .val (.int p2), .val (.int p3), .unset] [(.int (8 : Int32))]))
  refine own_Fin.step (fun _ => XS.iloadN X0.here hx rfl (hb hby d2_2) rfl) ?_
  show own_Fin p e below s _ _ _ (s₁.setTop (mkF m 3 #[.val (.long q1), .second, .val (.int p2), .val (.int p3), .unset] [(.int p3), (.int (8 : Int32))]))
  refine own_Fin.step (fun _ => XS.imul X0.here hx rfl (hb hby d2_3) rfl) ?_
  show own_Fin p e below s _ _ _ (s₁.setTop (mkF m 4 #[.val (.long q1), .second, .val (.int p2), .val (.int p3), .unset] [(.int ((8 : Int32) * p3))]))
  refine own_Fin.step (fun _ => XS.istore X0.here hx rfl (hb hby d2_4) rfl (l' := #[.val (.long q1), .second, .val (.int p2), .val (.int p3), .val (.int ((8 : Int32) * p3))]) rfl) ?_
  show own_Fin p e below s _ _ _ (s₁.setTop (mkF m 6 #[.val (.long q1), .second, .val (.int p2), .val (.int p3), .val (.int ((8 : Int32) * p3))] []))
  refine own_Fin.step (fun _ => XS.lloadN X0.here hx rfl (hb hby d2_6) rfl) ?_
  show own_Fin p e below s _ _ _ (s₁.setTop (mkF m 7 #[.val (.long q1), .second, .val (.int p2), .val (.int p3), .val (.int ((8 : Int32) * p3))] [(.long q1)]))
  refine own_Fin.step (fun _ => XS.iload X0.here hx rfl (hb hby d2_7) rfl) ?_
  show own_Fin p e below s _ _ _ (s₁.setTop (mkF m 9 #[.val (.long q1), .second, .val (.int p2), .val (.int p3), .val (.int ((8 : Int32) * p3))] [(.int ((8 : Int32) * p3)), (.long q1)]))
  refine own_Fin.step (fun _ => XS.lushr X0.here hx rfl (hb hby d2_9) rfl) ?_
  show own_Fin p e below s _ _ _ (s₁.setTop (mkF m 10 #[.val (.long q1), .second, .val (.int p2), .val (.int p3), .val (.int ((8 : Int32) * p3))] [(.long ((q1.toUInt64 >>> (((8 : Int32) * p3) &&& 0x3f).toInt64.toUInt64).toInt64))]))
  refine own_Fin.step (X0.ldc2Long hx hown (mvT hZ (own_w hw 4 rfl)) (g := (mkF m 10 #[.val (.long q1), .second, .val (.int p2), .val (.int p3), .val (.int ((8 : Int32) * p3))] [(.long ((q1.toUInt64 >>> (((8 : Int32) * p3) &&& 0x3f).toInt64.toUInt64).toInt64))])) rfl (hb hby d2_10)) ?_
  show own_Fin p e below s _ _ _ (s₁.setTop (mkF m 13 #[.val (.long q1), .second, .val (.int p2), .val (.int p3), .val (.int ((8 : Int32) * p3))] [(.long (255 : Int64)), (.long ((q1.toUInt64 >>> (((8 : Int32) * p3) &&& 0x3f).toInt64.toUInt64).toInt64))]))
  refine own_Fin.step (fun _ => XS.land X0.here hx rfl (hb hby d2_13) rfl) ?_
  show own_Fin p e below s _ _ _ (s₁.setTop (mkF m 14 #[.val (.long q1), .second, .val (.int p2), .val (.int p3), .val (.int ((8 : Int32) * p3))] [(.long (((q1.toUInt64 >>> (((8 : Int32) * p3) &&& 0x3f).toInt64.toUInt64).toInt64) &&& (255 : Int64)))]))
  refine own_Fin.step (fun _ => XS.iloadN X0.here hx rfl (hb hby d2_14) rfl) ?_
  show own_Fin p e below s _ _ _ (s₁.setTop (mkF m 15 #[.val (.long q1), .second, .val (.int p2), .val (.int p3), .val (.int ((8 : Int32) * p3))] [(.int p2), (.long (((q1.toUInt64 >>> (((8 : Int32) * p3) &&& 0x3f).toInt64.toUInt64).toInt64) &&& (255 : Int64)))]))
  refine own_Fin.step (fun _ => XS.i2l X0.here hx rfl (hb hby d2_15) rfl) ?_
  show own_Fin p e below s _ _ _ (s₁.setTop (mkF m 16 #[.val (.long q1), .second, .val (.int p2), .val (.int p3), .val (.int ((8 : Int32) * p3))] [(.long (p2.toInt64)), (.long (((q1.toUInt64 >>> (((8 : Int32) * p3) &&& 0x3f).toInt64.toUInt64).toInt64) &&& (255 : Int64)))]))
  refine own_Fin.step (fun _ => XS.lcmp X0.here hx rfl (hb hby d2_16) rfl) ?_
  show own_Fin p e below s _ _ _ (s₁.setTop (mkF m 17 #[.val (.long q1), .second, .val (.int p2), .val (.int p3), .val (.int ((8 : Int32) * p3))] [(.int (XT.cmpL (((q1.toUInt64 >>> (((8 : Int32) * p3) &&& 0x3f).toInt64.toUInt64).toInt64) &&& (255 : Int64)) (p2.toInt64)))]))
  by_cases hc17_1 : (((q1.toUInt64 >>> (((8 : Int32) * p3) &&& 0x3f).toInt64.toUInt64).toInt64) &&& (255 : Int64)) = (p2.toInt64)
  ·
    refine own_Fin.step (fun _ => XS.ifNo X0.here hx rfl (hb hby d2_17) rfl (XT.ll_ne_f hc17_1)) ?_
    show own_Fin p e below s _ _ _ (s₁.setTop (mkF m 20 #[.val (.long q1), .second, .val (.int p2), .val (.int p3), .val (.int ((8 : Int32) * p3))] []))
    refine own_Fin.step (X0.ldc2Long hx hown (mvT hZ (own_w hw 8 rfl)) (g := (mkF m 20 #[.val (.long q1), .second, .val (.int p2), .val (.int p3), .val (.int ((8 : Int32) * p3))] [])) rfl (hb hby d2_20)) ?_
    show own_Fin p e below s _ _ _ (s₁.setTop (mkF m 23 #[.val (.long q1), .second, .val (.int p2), .val (.int p3), .val (.int ((8 : Int32) * p3))] [(.long (128 : Int64))]))
    refine own_Fin.step (fun _ => XS.iload X0.here hx rfl (hb hby d2_23) rfl) ?_
    show own_Fin p e below s _ _ _ (s₁.setTop (mkF m 25 #[.val (.long q1), .second, .val (.int p2), .val (.int p3), .val (.int ((8 : Int32) * p3))] [(.int ((8 : Int32) * p3)), (.long (128 : Int64))]))
    refine own_Fin.step (fun _ => XS.lshl X0.here hx rfl (hb hby d2_25) rfl) ?_
    show own_Fin p e below s _ _ _ (s₁.setTop (mkF m 26 #[.val (.long q1), .second, .val (.int p2), .val (.int p3), .val (.int ((8 : Int32) * p3))] [(.long ((128 : Int64) <<< (((8 : Int32) * p3) &&& 0x3f).toInt64))]))
    exact own_retJ X0 hx hlk hret (hb hby d2_26) ⟨by rw [own_hit, if_pos hc17_1], N0, e0⟩ (by decide) (by decide)
  ·
    refine own_Fin.step (fun _ => XS.ifYes X0.here hx rfl (pc0 := 17) (pc' := 27) rfl (hb hby d2_17) rfl (XT.ll_ne_t hc17_1) (by decide) (by decide)) ?_
    show own_Fin p e below s _ _ _ (s₁.setTop (mkF m 27 #[.val (.long q1), .second, .val (.int p2), .val (.int p3), .val (.int ((8 : Int32) * p3))] []))
    refine own_Fin.step (fun _ => XS.lconst X0.here hx rfl (hb hby d2_27)) ?_
    show own_Fin p e below s _ _ _ (s₁.setTop (mkF m 28 #[.val (.long q1), .second, .val (.int p2), .val (.int p3), .val (.int ((8 : Int32) * p3))] [(.long (0 : Int64))]))
    exact own_retJ X0 hx hlk hret (hb hby d2_28) ⟨by rw [own_hit, if_neg hc17_1], N0, e0⟩ (by decide) (by decide)
theorem d3_0 : decode prog_121_method_3_code 0 = .ok (.lload_n 0, 1) := by decide +kernel
theorem d3_1 : decode prog_121_method_3_code 1 = .ok (.ldc2_w 19, 3) := by decide +kernel
theorem d3_4 : decode prog_121_method_3_code 4 = .ok (.iload_n 2, 1) := by decide +kernel
theorem d3_5 : decode prog_121_method_3_code 5 = .ok (.sipush 255, 3) := by decide +kernel
theorem d3_8 : decode prog_121_method_3_code 8 = .ok (.iand, 1) := by decide +kernel
theorem d3_9 : decode prog_121_method_3_code 9 = .ok (.i2l, 1) := by decide +kernel
theorem d3_10 : decode prog_121_method_3_code 10 = .ok (.lmul, 1) := by decide +kernel
theorem d3_11 : decode prog_121_method_3_code 11 = .ok (.lxor, 1) := by decide +kernel
theorem d3_12 : decode prog_121_method_3_code 12 = .ok (.lstore_n 3, 1) := by decide +kernel
theorem d3_13 : decode prog_121_method_3_code 13 = .ok (.lload_n 3, 1) := by decide +kernel
theorem d3_14 : decode prog_121_method_3_code 14 = .ok (.ldc2_w 21, 3) := by decide +kernel
theorem d3_17 : decode prog_121_method_3_code 17 = .ok (.land, 1) := by decide +kernel
theorem d3_18 : decode prog_121_method_3_code 18 = .ok (.ldc2_w 21, 3) := by decide +kernel
theorem d3_21 : decode prog_121_method_3_code 21 = .ok (.ladd, 1) := by decide +kernel
theorem d3_22 : decode prog_121_method_3_code 22 = .ok (.lload_n 3, 1) := by decide +kernel
theorem d3_23 : decode prog_121_method_3_code 23 = .ok (.lor, 1) := by decide +kernel
theorem d3_24 : decode prog_121_method_3_code 24 = .ok (.ldc2_w 21, 3) := by decide +kernel
theorem d3_27 : decode prog_121_method_3_code 27 = .ok (.lor, 1) := by decide +kernel
theorem d3_28 : decode prog_121_method_3_code 28 = .ok (.ldc2_w 23, 3) := by decide +kernel
theorem d3_31 : decode prog_121_method_3_code 31 = .ok (.lxor, 1) := by decide +kernel
theorem d3_32 : decode prog_121_method_3_code 32 = .ok (.lreturn, 1) := by decide +kernel
theorem pn_3 : plainFor (⟨"com/example/covenantry/covenantry/input/Bytes", "equalTo", "(JB)J"⟩ : MethodName) = true := plainFor_of_name (by first | (simp [plainName, overriddenIn]; done) | decide +kernel)
theorem ef_3 (m : MethodId) (x0 : Int64) (x1 : Int32) : entryFrame m #[(.long x0), (.int x1)] 5 = mkF m 0 #[.val (.long x0), .second, .val (.int x1), .unset, .unset] [] := by first | (simp [entryFrame, mkF, argsToLocals, Value.category]; done) | rfl
set_option maxRecDepth 65536 in
set_option maxHeartbeats 40000000 in
theorem rm3 (l : Launch) (Z : State) (a0 : Array Value) (hw : ∀ d ∈ tables_1, d.before a0 Z = true) (q1 : Int64) (p2 : Int32)  (h0 : Heap) (n0 : Nat) (Z0 : n0 ≤ h0.size)  :
    own_Met l Z [] (⟨"com/example/covenantry/covenantry/input/Bytes", "equalTo", "(JB)J"⟩ : MethodName) prog_121_method_3_code 5 (some .long) ({ frames := 0, cells := 0, slots := 0, locals := 0 } : Room) #[(.long q1), (.int p2)] h0 (own_QP (some (.long (own_eqt q1 p2))) h0 n0) := by
  refine own_enter pn_3 ?_
  intro p e s m below meth c s₁ X0 hx hby hml hown hret hlk hnm hZ e0
  have hml : c.maxLocals = 5 := hml
  have N0 := Fr.nil n0
  rw [ef_3 m q1 p2]
  show own_Fin p e below s _ _ _ (s₁.setTop (mkF m 0 #[.val (.long q1), .second, .val (.int p2), .unset, .unset] []))
  refine own_Fin.step (fun _ => XS.lloadN X0.here hx rfl (hb hby d3_0) rfl) ?_
  show own_Fin p e below s _ _ _ (s₁.setTop (mkF m 1 #[.val (.long q1), .second, .val (.int p2), .unset, .unset] [(.long q1)]))
  refine own_Fin.step (X0.ldc2Long hx hown (mvT hZ (own_w hw 13 rfl)) (g := (mkF m 1 #[.val (.long q1), .second, .val (.int p2), .unset, .unset] [(.long q1)])) rfl (hb hby d3_1)) ?_
  show own_Fin p e below s _ _ _ (s₁.setTop (mkF m 4 #[.val (.long q1), .second, .val (.int p2), .unset, .unset] [(.long (72340172838076673 : Int64)), (.long q1)]))
  refine own_Fin.step (fun _ => XS.iloadN X0.here hx rfl (hb hby d3_4) rfl) ?_
  show own_Fin p e below s _ _ _ (s₁.setTop (mkF m 5 #[.val (.long q1), .second, .val (.int p2), .unset, .unset] [(.int p2), (.long (72340172838076673 : Int64)), (.long q1)]))
  refine own_Fin.step (fun _ => XS.sipush X0.here hx rfl (hb hby d3_5)) ?_
  show own_Fin p e below s _ _ _ (s₁.setTop (mkF m 8 #[.val (.long q1), .second, .val (.int p2), .unset, .unset] [(.int (255 : Int32)), (.int p2), (.long (72340172838076673 : Int64)), (.long q1)]))
  refine own_Fin.step (fun _ => XS.iand X0.here hx rfl (hb hby d3_8) rfl) ?_
  show own_Fin p e below s _ _ _ (s₁.setTop (mkF m 9 #[.val (.long q1), .second, .val (.int p2), .unset, .unset] [(.int (p2 &&& (255 : Int32))), (.long (72340172838076673 : Int64)), (.long q1)]))
  refine own_Fin.step (fun _ => XS.i2l X0.here hx rfl (hb hby d3_9) rfl) ?_
  show own_Fin p e below s _ _ _ (s₁.setTop (mkF m 10 #[.val (.long q1), .second, .val (.int p2), .unset, .unset] [(.long ((p2 &&& (255 : Int32)).toInt64)), (.long (72340172838076673 : Int64)), (.long q1)]))
  refine own_Fin.step (fun _ => XS.lmul X0.here hx rfl (hb hby d3_10) rfl) ?_
  show own_Fin p e below s _ _ _ (s₁.setTop (mkF m 11 #[.val (.long q1), .second, .val (.int p2), .unset, .unset] [(.long ((72340172838076673 : Int64) * ((p2 &&& (255 : Int32)).toInt64))), (.long q1)]))
  refine own_Fin.step (fun _ => XS.lxor X0.here hx rfl (hb hby d3_11) rfl) ?_
  show own_Fin p e below s _ _ _ (s₁.setTop (mkF m 12 #[.val (.long q1), .second, .val (.int p2), .unset, .unset] [(.long (q1 ^^^ ((72340172838076673 : Int64) * ((p2 &&& (255 : Int32)).toInt64))))]))
  refine own_Fin.step (fun _ => XS.lstoreN X0.here hx rfl (hb hby d3_12) rfl (l' := #[.val (.long q1), .second, .val (.int p2), .val (.long (q1 ^^^ ((72340172838076673 : Int64) * ((p2 &&& (255 : Int32)).toInt64)))), .second]) rfl) ?_
  show own_Fin p e below s _ _ _ (s₁.setTop (mkF m 13 #[.val (.long q1), .second, .val (.int p2), .val (.long (q1 ^^^ ((72340172838076673 : Int64) * ((p2 &&& (255 : Int32)).toInt64)))), .second] []))
  refine own_Fin.step (fun _ => XS.lloadN X0.here hx rfl (hb hby d3_13) rfl) ?_
  show own_Fin p e below s _ _ _ (s₁.setTop (mkF m 14 #[.val (.long q1), .second, .val (.int p2), .val (.long (q1 ^^^ ((72340172838076673 : Int64) * ((p2 &&& (255 : Int32)).toInt64)))), .second] [(.long (q1 ^^^ ((72340172838076673 : Int64) * ((p2 &&& (255 : Int32)).toInt64))))]))
  refine own_Fin.step (X0.ldc2Long hx hown (mvT hZ (own_w hw 14 rfl)) (g := (mkF m 14 #[.val (.long q1), .second, .val (.int p2), .val (.long (q1 ^^^ ((72340172838076673 : Int64) * ((p2 &&& (255 : Int32)).toInt64)))), .second] [(.long (q1 ^^^ ((72340172838076673 : Int64) * ((p2 &&& (255 : Int32)).toInt64))))])) rfl (hb hby d3_14)) ?_
  show own_Fin p e below s _ _ _ (s₁.setTop (mkF m 17 #[.val (.long q1), .second, .val (.int p2), .val (.long (q1 ^^^ ((72340172838076673 : Int64) * ((p2 &&& (255 : Int32)).toInt64)))), .second] [(.long (9187201950435737471 : Int64)), (.long (q1 ^^^ ((72340172838076673 : Int64) * ((p2 &&& (255 : Int32)).toInt64))))]))
  refine own_Fin.step (fun _ => XS.land X0.here hx rfl (hb hby d3_17) rfl) ?_
  show own_Fin p e below s _ _ _ (s₁.setTop (mkF m 18 #[.val (.long q1), .second, .val (.int p2), .val (.long (q1 ^^^ ((72340172838076673 : Int64) * ((p2 &&& (255 : Int32)).toInt64)))), .second] [(.long ((q1 ^^^ ((72340172838076673 : Int64) * ((p2 &&& (255 : Int32)).toInt64))) &&& (9187201950435737471 : Int64)))]))
  refine own_Fin.step (X0.ldc2Long hx hown (mvT hZ (own_w hw 14 rfl)) (g := (mkF m 18 #[.val (.long q1), .second, .val (.int p2), .val (.long (q1 ^^^ ((72340172838076673 : Int64) * ((p2 &&& (255 : Int32)).toInt64)))), .second] [(.long ((q1 ^^^ ((72340172838076673 : Int64) * ((p2 &&& (255 : Int32)).toInt64))) &&& (9187201950435737471 : Int64)))])) rfl (hb hby d3_18)) ?_
  show own_Fin p e below s _ _ _ (s₁.setTop (mkF m 21 #[.val (.long q1), .second, .val (.int p2), .val (.long (q1 ^^^ ((72340172838076673 : Int64) * ((p2 &&& (255 : Int32)).toInt64)))), .second] [(.long (9187201950435737471 : Int64)), (.long ((q1 ^^^ ((72340172838076673 : Int64) * ((p2 &&& (255 : Int32)).toInt64))) &&& (9187201950435737471 : Int64)))]))
  refine own_Fin.step (fun _ => XS.ladd X0.here hx rfl (hb hby d3_21) rfl) ?_
  show own_Fin p e below s _ _ _ (s₁.setTop (mkF m 22 #[.val (.long q1), .second, .val (.int p2), .val (.long (q1 ^^^ ((72340172838076673 : Int64) * ((p2 &&& (255 : Int32)).toInt64)))), .second] [(.long (((q1 ^^^ ((72340172838076673 : Int64) * ((p2 &&& (255 : Int32)).toInt64))) &&& (9187201950435737471 : Int64)) + (9187201950435737471 : Int64)))]))
  refine own_Fin.step (fun _ => XS.lloadN X0.here hx rfl (hb hby d3_22) rfl) ?_
  show own_Fin p e below s _ _ _ (s₁.setTop (mkF m 23 #[.val (.long q1), .second, .val (.int p2), .val (.long (q1 ^^^ ((72340172838076673 : Int64) * ((p2 &&& (255 : Int32)).toInt64)))), .second] [(.long (q1 ^^^ ((72340172838076673 : Int64) * ((p2 &&& (255 : Int32)).toInt64)))), (.long (((q1 ^^^ ((72340172838076673 : Int64) * ((p2 &&& (255 : Int32)).toInt64))) &&& (9187201950435737471 : Int64)) + (9187201950435737471 : Int64)))]))
  refine own_Fin.step (fun _ => XS.lor X0.here hx rfl (hb hby d3_23) rfl) ?_
  show own_Fin p e below s _ _ _ (s₁.setTop (mkF m 24 #[.val (.long q1), .second, .val (.int p2), .val (.long (q1 ^^^ ((72340172838076673 : Int64) * ((p2 &&& (255 : Int32)).toInt64)))), .second] [(.long ((((q1 ^^^ ((72340172838076673 : Int64) * ((p2 &&& (255 : Int32)).toInt64))) &&& (9187201950435737471 : Int64)) + (9187201950435737471 : Int64)) ||| (q1 ^^^ ((72340172838076673 : Int64) * ((p2 &&& (255 : Int32)).toInt64)))))]))
  refine own_Fin.step (X0.ldc2Long hx hown (mvT hZ (own_w hw 14 rfl)) (g := (mkF m 24 #[.val (.long q1), .second, .val (.int p2), .val (.long (q1 ^^^ ((72340172838076673 : Int64) * ((p2 &&& (255 : Int32)).toInt64)))), .second] [(.long ((((q1 ^^^ ((72340172838076673 : Int64) * ((p2 &&& (255 : Int32)).toInt64))) &&& (9187201950435737471 : Int64)) + (9187201950435737471 : Int64)) ||| (q1 ^^^ ((72340172838076673 : Int64) * ((p2 &&& (255 : Int32)).toInt64)))))])) rfl (hb hby d3_24)) ?_
  show own_Fin p e below s _ _ _ (s₁.setTop (mkF m 27 #[.val (.long q1), .second, .val (.int p2), .val (.long (q1 ^^^ ((72340172838076673 : Int64) * ((p2 &&& (255 : Int32)).toInt64)))), .second] [(.long (9187201950435737471 : Int64)), (.long ((((q1 ^^^ ((72340172838076673 : Int64) * ((p2 &&& (255 : Int32)).toInt64))) &&& (9187201950435737471 : Int64)) + (9187201950435737471 : Int64)) ||| (q1 ^^^ ((72340172838076673 : Int64) * ((p2 &&& (255 : Int32)).toInt64)))))]))
  refine own_Fin.step (fun _ => XS.lor X0.here hx rfl (hb hby d3_27) rfl) ?_
  show own_Fin p e below s _ _ _ (s₁.setTop (mkF m 28 #[.val (.long q1), .second, .val (.int p2), .val (.long (q1 ^^^ ((72340172838076673 : Int64) * ((p2 &&& (255 : Int32)).toInt64)))), .second] [(.long (((((q1 ^^^ ((72340172838076673 : Int64) * ((p2 &&& (255 : Int32)).toInt64))) &&& (9187201950435737471 : Int64)) + (9187201950435737471 : Int64)) ||| (q1 ^^^ ((72340172838076673 : Int64) * ((p2 &&& (255 : Int32)).toInt64)))) ||| (9187201950435737471 : Int64)))]))
  refine own_Fin.step (X0.ldc2Long hx hown (mvT hZ (own_w hw 15 rfl)) (g := (mkF m 28 #[.val (.long q1), .second, .val (.int p2), .val (.long (q1 ^^^ ((72340172838076673 : Int64) * ((p2 &&& (255 : Int32)).toInt64)))), .second] [(.long (((((q1 ^^^ ((72340172838076673 : Int64) * ((p2 &&& (255 : Int32)).toInt64))) &&& (9187201950435737471 : Int64)) + (9187201950435737471 : Int64)) ||| (q1 ^^^ ((72340172838076673 : Int64) * ((p2 &&& (255 : Int32)).toInt64)))) ||| (9187201950435737471 : Int64)))])) rfl (hb hby d3_28)) ?_
  show own_Fin p e below s _ _ _ (s₁.setTop (mkF m 31 #[.val (.long q1), .second, .val (.int p2), .val (.long (q1 ^^^ ((72340172838076673 : Int64) * ((p2 &&& (255 : Int32)).toInt64)))), .second] [(.long (-1 : Int64)), (.long (((((q1 ^^^ ((72340172838076673 : Int64) * ((p2 &&& (255 : Int32)).toInt64))) &&& (9187201950435737471 : Int64)) + (9187201950435737471 : Int64)) ||| (q1 ^^^ ((72340172838076673 : Int64) * ((p2 &&& (255 : Int32)).toInt64)))) ||| (9187201950435737471 : Int64)))]))
  refine own_Fin.step (fun _ => XS.lxor X0.here hx rfl (hb hby d3_31) rfl) ?_
  show own_Fin p e below s _ _ _ (s₁.setTop (mkF m 32 #[.val (.long q1), .second, .val (.int p2), .val (.long (q1 ^^^ ((72340172838076673 : Int64) * ((p2 &&& (255 : Int32)).toInt64)))), .second] [(.long ((((((q1 ^^^ ((72340172838076673 : Int64) * ((p2 &&& (255 : Int32)).toInt64))) &&& (9187201950435737471 : Int64)) + (9187201950435737471 : Int64)) ||| (q1 ^^^ ((72340172838076673 : Int64) * ((p2 &&& (255 : Int32)).toInt64)))) ||| (9187201950435737471 : Int64)) ^^^ (-1 : Int64)))]))
  exact own_retJ X0 hx hlk hret (hb hby d3_32) ⟨rfl, N0, e0⟩ (by decide) (by decide)
theorem pn_0 : plainFor (⟨"com/example/covenantry/covenantry/input/BytesEqualToPinLaw", "law", "(JIIII)Z"⟩ : MethodName) = true := plainFor_of_name (by first | (simp [plainName, overriddenIn]; done) | decide +kernel)
theorem ef_0 (m : MethodId) (x0 : Int64) (x1 : Int32) (x2 : Int32) (x3 : Int32) (x4 : Int32) : entryFrame m #[(.long x0), (.int x1), (.int x2), (.int x3), (.int x4)] maxLocals = mkF m 0 #[.val (.long x0), .second, .val (.int x1), .val (.int x2), .val (.int x3), .val (.int x4), .unset, .unset, .unset, .unset, .unset, .unset, .unset, .unset] [] := by first | (simp [entryFrame, mkF, argsToLocals, Value.category, maxLocals]; done) | rfl
theorem pd_0 : parseMethodDescriptor "(JIIIII)J" = some ⟨[.long, .int, .int, .int, .int, .int], some .long⟩ := by decide +kernel
theorem pd_1 : parseMethodDescriptor "(JII)J" = some ⟨[.long, .int, .int], some .long⟩ := by decide +kernel
theorem pd_2 : parseMethodDescriptor "(JB)J" = some ⟨[.long, .byte], some .long⟩ := by decide +kernel
set_option maxRecDepth 65536 in
set_option maxHeartbeats 40000000 in
theorem rm0 (l : Launch) (Z : State) (a0 : Array Value) (hw : ∀ d ∈ tables_1, d.before a0 Z = true) (q1 : Int64) (p2 : Int32) (p3 : Int32) (p4 : Int32) (p5 : Int32)  (h0 : Heap) (n0 : Nat) (Z0 : n0 ≤ h0.size)  :
    own_Met l Z tables_1 x code maxLocals ret room_1 #[(.long q1), (.int p2), (.int p3), (.int p4), (.int p5)] h0 (own_Q0 n0) := by
  refine own_enter pn_0 ?_
  intro p e s m below meth c s₁ X0 hx hby hml hown hret hlk hnm hZ e0
  have hml : c.maxLocals = 14 := hml
  have N0 := Fr.nil n0
  rw [ef_0 m q1 p2 p3 p4 p5]
  show own_Fin p e below s _ _ _ (s₁.setTop (mkF m 0 #[.val (.long q1), .second, .val (.int p2), .val (.int p3), .val (.int p4), .val (.int p5), .unset, .unset, .unset, .unset, .unset, .unset, .unset, .unset] []))
  refine own_Fin.step (fun _ => XS.iloadN X0.here hx rfl (hb hby at_0) rfl) ?_
  show own_Fin p e below s _ _ _ (s₁.setTop (mkF m 1 #[.val (.long q1), .second, .val (.int p2), .val (.int p3), .val (.int p4), .val (.int p5), .unset, .unset, .unset, .unset, .unset, .unset, .unset, .unset] [(.int p2)]))
  refine own_Fin.step (fun _ => XS.sipush X0.here hx rfl (hb hby at_1)) ?_
  show own_Fin p e below s _ _ _ (s₁.setTop (mkF m 4 #[.val (.long q1), .second, .val (.int p2), .val (.int p3), .val (.int p4), .val (.int p5), .unset, .unset, .unset, .unset, .unset, .unset, .unset, .unset] [(.int (255 : Int32)), (.int p2)]))
  refine own_Fin.step (fun _ => XS.iand X0.here hx rfl (hb hby at_4) rfl) ?_
  show own_Fin p e below s _ _ _ (s₁.setTop (mkF m 5 #[.val (.long q1), .second, .val (.int p2), .val (.int p3), .val (.int p4), .val (.int p5), .unset, .unset, .unset, .unset, .unset, .unset, .unset, .unset] [(.int (p2 &&& (255 : Int32)))]))
  refine own_Fin.step (fun _ => XS.istore X0.here hx rfl (hb hby at_5) rfl (l' := #[.val (.long q1), .second, .val (.int p2), .val (.int p3), .val (.int p4), .val (.int p5), .val (.int (p2 &&& (255 : Int32))), .unset, .unset, .unset, .unset, .unset, .unset, .unset]) rfl) ?_
  show own_Fin p e below s _ _ _ (s₁.setTop (mkF m 7 #[.val (.long q1), .second, .val (.int p2), .val (.int p3), .val (.int p4), .val (.int p5), .val (.int (p2 &&& (255 : Int32))), .unset, .unset, .unset, .unset, .unset, .unset, .unset] []))
  refine own_Fin.step (fun _ => XS.iconst X0.here hx rfl (hb hby at_7)) ?_
  show own_Fin p e below s _ _ _ (s₁.setTop (mkF m 8 #[.val (.long q1), .second, .val (.int p2), .val (.int p3), .val (.int p4), .val (.int p5), .val (.int (p2 &&& (255 : Int32))), .unset, .unset, .unset, .unset, .unset, .unset, .unset] [(.int (1 : Int32))]))
  refine own_Fin.step (fun _ => XS.iload X0.here hx rfl (hb hby at_8) rfl) ?_
  show own_Fin p e below s _ _ _ (s₁.setTop (mkF m 10 #[.val (.long q1), .second, .val (.int p2), .val (.int p3), .val (.int p4), .val (.int p5), .val (.int (p2 &&& (255 : Int32))), .unset, .unset, .unset, .unset, .unset, .unset, .unset] [(.int p5), (.int (1 : Int32))]))
  refine own_Fin.step (fun _ => XS.bipush X0.here hx rfl (hb hby at_10)) ?_
  show own_Fin p e below s _ _ _ (s₁.setTop (mkF m 12 #[.val (.long q1), .second, .val (.int p2), .val (.int p3), .val (.int p4), .val (.int p5), .val (.int (p2 &&& (255 : Int32))), .unset, .unset, .unset, .unset, .unset, .unset, .unset] [(.int (7 : Int32)), (.int p5), (.int (1 : Int32))]))
  refine own_Fin.step (fun _ => XS.iand X0.here hx rfl (hb hby at_12) rfl) ?_
  show own_Fin p e below s _ _ _ (s₁.setTop (mkF m 13 #[.val (.long q1), .second, .val (.int p2), .val (.int p3), .val (.int p4), .val (.int p5), .val (.int (p2 &&& (255 : Int32))), .unset, .unset, .unset, .unset, .unset, .unset, .unset] [(.int (p5 &&& (7 : Int32))), (.int (1 : Int32))]))
  refine own_Fin.step (fun _ => XS.ishl X0.here hx rfl (hb hby at_13) rfl) ?_
  show own_Fin p e below s _ _ _ (s₁.setTop (mkF m 14 #[.val (.long q1), .second, .val (.int p2), .val (.int p3), .val (.int p4), .val (.int p5), .val (.int (p2 &&& (255 : Int32))), .unset, .unset, .unset, .unset, .unset, .unset, .unset] [(.int ((1 : Int32) <<< ((p5 &&& (7 : Int32)) &&& 31)))]))
  refine own_Fin.step (fun _ => XS.istore X0.here hx rfl (hb hby at_14) rfl (l' := #[.val (.long q1), .second, .val (.int p2), .val (.int p3), .val (.int p4), .val (.int p5), .val (.int (p2 &&& (255 : Int32))), .val (.int ((1 : Int32) <<< ((p5 &&& (7 : Int32)) &&& 31))), .unset, .unset, .unset, .unset, .unset, .unset]) rfl) ?_
  show own_Fin p e below s _ _ _ (s₁.setTop (mkF m 16 #[.val (.long q1), .second, .val (.int p2), .val (.int p3), .val (.int p4), .val (.int p5), .val (.int (p2 &&& (255 : Int32))), .val (.int ((1 : Int32) <<< ((p5 &&& (7 : Int32)) &&& 31))), .unset, .unset, .unset, .unset, .unset, .unset] []))
  refine own_Fin.step (fun _ => XS.lloadN X0.here hx rfl (hb hby at_16) rfl) ?_
  show own_Fin p e below s _ _ _ (s₁.setTop (mkF m 17 #[.val (.long q1), .second, .val (.int p2), .val (.int p3), .val (.int p4), .val (.int p5), .val (.int (p2 &&& (255 : Int32))), .val (.int ((1 : Int32) <<< ((p5 &&& (7 : Int32)) &&& 31))), .unset, .unset, .unset, .unset, .unset, .unset] [(.long q1)]))
  refine own_Fin.step (fun _ => XS.iload X0.here hx rfl (hb hby at_17) rfl) ?_
  show own_Fin p e below s _ _ _ (s₁.setTop (mkF m 19 #[.val (.long q1), .second, .val (.int p2), .val (.int p3), .val (.int p4), .val (.int p5), .val (.int (p2 &&& (255 : Int32))), .val (.int ((1 : Int32) <<< ((p5 &&& (7 : Int32)) &&& 31))), .unset, .unset, .unset, .unset, .unset, .unset] [(.int (p2 &&& (255 : Int32))), (.long q1)]))
  refine own_Fin.step (fun _ => XS.iloadN X0.here hx rfl (hb hby at_19) rfl) ?_
  show own_Fin p e below s _ _ _ (s₁.setTop (mkF m 20 #[.val (.long q1), .second, .val (.int p2), .val (.int p3), .val (.int p4), .val (.int p5), .val (.int (p2 &&& (255 : Int32))), .val (.int ((1 : Int32) <<< ((p5 &&& (7 : Int32)) &&& 31))), .unset, .unset, .unset, .unset, .unset, .unset] [(.int p3), (.int (p2 &&& (255 : Int32))), (.long q1)]))
  refine own_Fin.step (fun _ => XS.iload X0.here hx rfl (hb hby at_20) rfl) ?_
  show own_Fin p e below s _ _ _ (s₁.setTop (mkF m 22 #[.val (.long q1), .second, .val (.int p2), .val (.int p3), .val (.int p4), .val (.int p5), .val (.int (p2 &&& (255 : Int32))), .val (.int ((1 : Int32) <<< ((p5 &&& (7 : Int32)) &&& 31))), .unset, .unset, .unset, .unset, .unset, .unset] [(.int p4), (.int p3), (.int (p2 &&& (255 : Int32))), (.long q1)]))
  refine own_Fin.step (fun _ => XS.iload X0.here hx rfl (hb hby at_22) rfl) ?_
  show own_Fin p e below s _ _ _ (s₁.setTop (mkF m 24 #[.val (.long q1), .second, .val (.int p2), .val (.int p3), .val (.int p4), .val (.int p5), .val (.int (p2 &&& (255 : Int32))), .val (.int ((1 : Int32) <<< ((p5 &&& (7 : Int32)) &&& 31))), .unset, .unset, .unset, .unset, .unset, .unset] [(.int ((1 : Int32) <<< ((p5 &&& (7 : Int32)) &&& 31))), (.int p4), (.int p3), (.int (p2 &&& (255 : Int32))), (.long q1)]))
  refine own_Fin.step (fun _ => XS.iconst X0.here hx rfl (hb hby at_24)) ?_
  show own_Fin p e below s _ _ _ (s₁.setTop (mkF m 25 #[.val (.long q1), .second, .val (.int p2), .val (.int p3), .val (.int p4), .val (.int p5), .val (.int (p2 &&& (255 : Int32))), .val (.int ((1 : Int32) <<< ((p5 &&& (7 : Int32)) &&& 31))), .unset, .unset, .unset, .unset, .unset, .unset] [(.int (0 : Int32)), (.int ((1 : Int32) <<< ((p5 &&& (7 : Int32)) &&& 31))), (.int p4), (.int p3), (.int (p2 &&& (255 : Int32))), (.long q1)]))
  obtain ⟨_, T1, L1, X1, ⟨z1, rfl, N1q, e1⟩, st1⟩ := own_callS X0 hx hZ hown (own_w hw 0 rfl) (own_w hw 1 rfl) (own_w hw 2 rfl) (own_w hw 3 rfl) (by decide) (rm1 l Z a0 hw q1 (p2 &&& (255 : Int32)) p3 p4 ((1 : Int32) <<< ((p5 &&& (7 : Int32)) &&& 31)) (0 : Int32) h0 n0 Z0) (by decide) (by decide) e0 (W := 0) (g := (mkF m 25 #[.val (.long q1), .second, .val (.int p2), .val (.int p3), .val (.int p4), .val (.int p5), .val (.int (p2 &&& (255 : Int32))), .val (.int ((1 : Int32) <<< ((p5 &&& (7 : Int32)) &&& 31))), .unset, .unset, .unset, .unset, .unset, .unset] [(.int (0 : Int32)), (.int ((1 : Int32) <<< ((p5 &&& (7 : Int32)) &&& 31))), (.int p4), (.int p3), (.int (p2 &&& (255 : Int32))), (.long q1)])) rfl (by rw [hml]; rfl) (argsL := [(.long q1), (.int (p2 &&& (255 : Int32))), (.int p3), (.int p4), (.int ((1 : Int32) <<< ((p5 &&& (7 : Int32)) &&& 31))), (.int (0 : Int32))]) (rest := []) (lenOf pd_0 rfl) rfl rfl (by show 2 * 0 + _ ≤ _; exact Nat.le_of_eq rfl) (hb hby at_25) (by decide) (by decide)
  have N1 := Fr.app N0 N1q
  refine own_Fin.step st1 ?_
  show own_Fin p e below s _ _ _ (T1.setTop (mkF m 28 #[.val (.long q1), .second, .val (.int p2), .val (.int p3), .val (.int p4), .val (.int p5), .val (.int (p2 &&& (255 : Int32))), .val (.int ((1 : Int32) <<< ((p5 &&& (7 : Int32)) &&& 31))), .unset, .unset, .unset, .unset, .unset, .unset] [(.long z1)]))
  refine own_Fin.step (fun _ => XS.lloadN X1.here hx rfl (hb hby at_28) rfl) ?_
  show own_Fin p e below s _ _ _ (T1.setTop (mkF m 29 #[.val (.long q1), .second, .val (.int p2), .val (.int p3), .val (.int p4), .val (.int p5), .val (.int (p2 &&& (255 : Int32))), .val (.int ((1 : Int32) <<< ((p5 &&& (7 : Int32)) &&& 31))), .unset, .unset, .unset, .unset, .unset, .unset] [(.long q1), (.long z1)]))
  refine own_Fin.step (fun _ => XS.iload X1.here hx rfl (hb hby at_29) rfl) ?_
  show own_Fin p e below s _ _ _ (T1.setTop (mkF m 31 #[.val (.long q1), .second, .val (.int p2), .val (.int p3), .val (.int p4), .val (.int p5), .val (.int (p2 &&& (255 : Int32))), .val (.int ((1 : Int32) <<< ((p5 &&& (7 : Int32)) &&& 31))), .unset, .unset, .unset, .unset, .unset, .unset] [(.int (p2 &&& (255 : Int32))), (.long q1), (.long z1)]))
  refine own_Fin.step (fun _ => XS.iloadN X1.here hx rfl (hb hby at_31) rfl) ?_
  show own_Fin p e below s _ _ _ (T1.setTop (mkF m 32 #[.val (.long q1), .second, .val (.int p2), .val (.int p3), .val (.int p4), .val (.int p5), .val (.int (p2 &&& (255 : Int32))), .val (.int ((1 : Int32) <<< ((p5 &&& (7 : Int32)) &&& 31))), .unset, .unset, .unset, .unset, .unset, .unset] [(.int p3), (.int (p2 &&& (255 : Int32))), (.long q1), (.long z1)]))
  refine own_Fin.step (fun _ => XS.iload X1.here hx rfl (hb hby at_32) rfl) ?_
  show own_Fin p e below s _ _ _ (T1.setTop (mkF m 34 #[.val (.long q1), .second, .val (.int p2), .val (.int p3), .val (.int p4), .val (.int p5), .val (.int (p2 &&& (255 : Int32))), .val (.int ((1 : Int32) <<< ((p5 &&& (7 : Int32)) &&& 31))), .unset, .unset, .unset, .unset, .unset, .unset] [(.int p4), (.int p3), (.int (p2 &&& (255 : Int32))), (.long q1), (.long z1)]))
  refine own_Fin.step (fun _ => XS.iload X1.here hx rfl (hb hby at_34) rfl) ?_
  show own_Fin p e below s _ _ _ (T1.setTop (mkF m 36 #[.val (.long q1), .second, .val (.int p2), .val (.int p3), .val (.int p4), .val (.int p5), .val (.int (p2 &&& (255 : Int32))), .val (.int ((1 : Int32) <<< ((p5 &&& (7 : Int32)) &&& 31))), .unset, .unset, .unset, .unset, .unset, .unset] [(.int ((1 : Int32) <<< ((p5 &&& (7 : Int32)) &&& 31))), (.int p4), (.int p3), (.int (p2 &&& (255 : Int32))), (.long q1), (.long z1)]))
  refine own_Fin.step (fun _ => XS.iconst X1.here hx rfl (hb hby at_36)) ?_
  show own_Fin p e below s _ _ _ (T1.setTop (mkF m 37 #[.val (.long q1), .second, .val (.int p2), .val (.int p3), .val (.int p4), .val (.int p5), .val (.int (p2 &&& (255 : Int32))), .val (.int ((1 : Int32) <<< ((p5 &&& (7 : Int32)) &&& 31))), .unset, .unset, .unset, .unset, .unset, .unset] [(.int (1 : Int32)), (.int ((1 : Int32) <<< ((p5 &&& (7 : Int32)) &&& 31))), (.int p4), (.int p3), (.int (p2 &&& (255 : Int32))), (.long q1), (.long z1)]))
  obtain ⟨_, T2, L2, X2, ⟨z2, rfl, N2q, e2⟩, st2⟩ := own_callS X1 hx hZ hown (own_w hw 0 rfl) (own_w hw 1 rfl) (own_w hw 2 rfl) (own_w hw 3 rfl) (by decide) (rm1 l Z a0 hw q1 (p2 &&& (255 : Int32)) p3 p4 ((1 : Int32) <<< ((p5 &&& (7 : Int32)) &&& 31)) (1 : Int32) h0 n0 Z0) (by decide) (by decide) e1 (W := 2) (g := (mkF m 37 #[.val (.long q1), .second, .val (.int p2), .val (.int p3), .val (.int p4), .val (.int p5), .val (.int (p2 &&& (255 : Int32))), .val (.int ((1 : Int32) <<< ((p5 &&& (7 : Int32)) &&& 31))), .unset, .unset, .unset, .unset, .unset, .unset] [(.int (1 : Int32)), (.int ((1 : Int32) <<< ((p5 &&& (7 : Int32)) &&& 31))), (.int p4), (.int p3), (.int (p2 &&& (255 : Int32))), (.long q1), (.long z1)])) rfl (by rw [hml]; rfl) (argsL := [(.long q1), (.int (p2 &&& (255 : Int32))), (.int p3), (.int p4), (.int ((1 : Int32) <<< ((p5 &&& (7 : Int32)) &&& 31))), (.int (1 : Int32))]) (rest := [(.long z1)]) (lenOf pd_0 rfl) rfl rfl (by show 2 * 0 + _ ≤ _; exact Nat.le_of_eq rfl) (hb hby at_37) (by decide) (by decide)
  have N2 := Fr.app N1 N2q
  refine own_Fin.step st2 ?_
  show own_Fin p e below s _ _ _ (T2.setTop (mkF m 40 #[.val (.long q1), .second, .val (.int p2), .val (.int p3), .val (.int p4), .val (.int p5), .val (.int (p2 &&& (255 : Int32))), .val (.int ((1 : Int32) <<< ((p5 &&& (7 : Int32)) &&& 31))), .unset, .unset, .unset, .unset, .unset, .unset] [(.long z2), (.long z1)]))
  refine own_Fin.step (fun _ => XS.lor X2.here hx rfl (hb hby at_40) rfl) ?_
  show own_Fin p e below s _ _ _ (T2.setTop (mkF m 41 #[.val (.long q1), .second, .val (.int p2), .val (.int p3), .val (.int p4), .val (.int p5), .val (.int (p2 &&& (255 : Int32))), .val (.int ((1 : Int32) <<< ((p5 &&& (7 : Int32)) &&& 31))), .unset, .unset, .unset, .unset, .unset, .unset] [(.long (z1 ||| z2))]))
  refine own_Fin.step (fun _ => XS.lloadN X2.here hx rfl (hb hby at_41) rfl) ?_
  show own_Fin p e below s _ _ _ (T2.setTop (mkF m 42 #[.val (.long q1), .second, .val (.int p2), .val (.int p3), .val (.int p4), .val (.int p5), .val (.int (p2 &&& (255 : Int32))), .val (.int ((1 : Int32) <<< ((p5 &&& (7 : Int32)) &&& 31))), .unset, .unset, .unset, .unset, .unset, .unset] [(.long q1), (.long (z1 ||| z2))]))
  refine own_Fin.step (fun _ => XS.iload X2.here hx rfl (hb hby at_42) rfl) ?_
  show own_Fin p e below s _ _ _ (T2.setTop (mkF m 44 #[.val (.long q1), .second, .val (.int p2), .val (.int p3), .val (.int p4), .val (.int p5), .val (.int (p2 &&& (255 : Int32))), .val (.int ((1 : Int32) <<< ((p5 &&& (7 : Int32)) &&& 31))), .unset, .unset, .unset, .unset, .unset, .unset] [(.int (p2 &&& (255 : Int32))), (.long q1), (.long (z1 ||| z2))]))
  refine own_Fin.step (fun _ => XS.iloadN X2.here hx rfl (hb hby at_44) rfl) ?_
  show own_Fin p e below s _ _ _ (T2.setTop (mkF m 45 #[.val (.long q1), .second, .val (.int p2), .val (.int p3), .val (.int p4), .val (.int p5), .val (.int (p2 &&& (255 : Int32))), .val (.int ((1 : Int32) <<< ((p5 &&& (7 : Int32)) &&& 31))), .unset, .unset, .unset, .unset, .unset, .unset] [(.int p3), (.int (p2 &&& (255 : Int32))), (.long q1), (.long (z1 ||| z2))]))
  refine own_Fin.step (fun _ => XS.iload X2.here hx rfl (hb hby at_45) rfl) ?_
  show own_Fin p e below s _ _ _ (T2.setTop (mkF m 47 #[.val (.long q1), .second, .val (.int p2), .val (.int p3), .val (.int p4), .val (.int p5), .val (.int (p2 &&& (255 : Int32))), .val (.int ((1 : Int32) <<< ((p5 &&& (7 : Int32)) &&& 31))), .unset, .unset, .unset, .unset, .unset, .unset] [(.int p4), (.int p3), (.int (p2 &&& (255 : Int32))), (.long q1), (.long (z1 ||| z2))]))
  refine own_Fin.step (fun _ => XS.iload X2.here hx rfl (hb hby at_47) rfl) ?_
  show own_Fin p e below s _ _ _ (T2.setTop (mkF m 49 #[.val (.long q1), .second, .val (.int p2), .val (.int p3), .val (.int p4), .val (.int p5), .val (.int (p2 &&& (255 : Int32))), .val (.int ((1 : Int32) <<< ((p5 &&& (7 : Int32)) &&& 31))), .unset, .unset, .unset, .unset, .unset, .unset] [(.int ((1 : Int32) <<< ((p5 &&& (7 : Int32)) &&& 31))), (.int p4), (.int p3), (.int (p2 &&& (255 : Int32))), (.long q1), (.long (z1 ||| z2))]))
  refine own_Fin.step (fun _ => XS.iconst X2.here hx rfl (hb hby at_49)) ?_
  show own_Fin p e below s _ _ _ (T2.setTop (mkF m 50 #[.val (.long q1), .second, .val (.int p2), .val (.int p3), .val (.int p4), .val (.int p5), .val (.int (p2 &&& (255 : Int32))), .val (.int ((1 : Int32) <<< ((p5 &&& (7 : Int32)) &&& 31))), .unset, .unset, .unset, .unset, .unset, .unset] [(.int (2 : Int32)), (.int ((1 : Int32) <<< ((p5 &&& (7 : Int32)) &&& 31))), (.int p4), (.int p3), (.int (p2 &&& (255 : Int32))), (.long q1), (.long (z1 ||| z2))]))
  obtain ⟨_, T3, L3, X3, ⟨z3, rfl, N3q, e3⟩, st3⟩ := own_callS X2 hx hZ hown (own_w hw 0 rfl) (own_w hw 1 rfl) (own_w hw 2 rfl) (own_w hw 3 rfl) (by decide) (rm1 l Z a0 hw q1 (p2 &&& (255 : Int32)) p3 p4 ((1 : Int32) <<< ((p5 &&& (7 : Int32)) &&& 31)) (2 : Int32) h0 n0 Z0) (by decide) (by decide) e2 (W := 2) (g := (mkF m 50 #[.val (.long q1), .second, .val (.int p2), .val (.int p3), .val (.int p4), .val (.int p5), .val (.int (p2 &&& (255 : Int32))), .val (.int ((1 : Int32) <<< ((p5 &&& (7 : Int32)) &&& 31))), .unset, .unset, .unset, .unset, .unset, .unset] [(.int (2 : Int32)), (.int ((1 : Int32) <<< ((p5 &&& (7 : Int32)) &&& 31))), (.int p4), (.int p3), (.int (p2 &&& (255 : Int32))), (.long q1), (.long (z1 ||| z2))])) rfl (by rw [hml]; rfl) (argsL := [(.long q1), (.int (p2 &&& (255 : Int32))), (.int p3), (.int p4), (.int ((1 : Int32) <<< ((p5 &&& (7 : Int32)) &&& 31))), (.int (2 : Int32))]) (rest := [(.long (z1 ||| z2))]) (lenOf pd_0 rfl) rfl rfl (by show 2 * 0 + _ ≤ _; exact Nat.le_of_eq rfl) (hb hby at_50) (by decide) (by decide)
  have N3 := Fr.app N2 N3q
  refine own_Fin.step st3 ?_
  show own_Fin p e below s _ _ _ (T3.setTop (mkF m 53 #[.val (.long q1), .second, .val (.int p2), .val (.int p3), .val (.int p4), .val (.int p5), .val (.int (p2 &&& (255 : Int32))), .val (.int ((1 : Int32) <<< ((p5 &&& (7 : Int32)) &&& 31))), .unset, .unset, .unset, .unset, .unset, .unset] [(.long z3), (.long (z1 ||| z2))]))
  refine own_Fin.step (fun _ => XS.lor X3.here hx rfl (hb hby at_53) rfl) ?_
  show own_Fin p e below s _ _ _ (T3.setTop (mkF m 54 #[.val (.long q1), .second, .val (.int p2), .val (.int p3), .val (.int p4), .val (.int p5), .val (.int (p2 &&& (255 : Int32))), .val (.int ((1 : Int32) <<< ((p5 &&& (7 : Int32)) &&& 31))), .unset, .unset, .unset, .unset, .unset, .unset] [(.long ((z1 ||| z2) ||| z3))]))
  refine own_Fin.step (fun _ => XS.lloadN X3.here hx rfl (hb hby at_54) rfl) ?_
  show own_Fin p e below s _ _ _ (T3.setTop (mkF m 55 #[.val (.long q1), .second, .val (.int p2), .val (.int p3), .val (.int p4), .val (.int p5), .val (.int (p2 &&& (255 : Int32))), .val (.int ((1 : Int32) <<< ((p5 &&& (7 : Int32)) &&& 31))), .unset, .unset, .unset, .unset, .unset, .unset] [(.long q1), (.long ((z1 ||| z2) ||| z3))]))
  refine own_Fin.step (fun _ => XS.iload X3.here hx rfl (hb hby at_55) rfl) ?_
  show own_Fin p e below s _ _ _ (T3.setTop (mkF m 57 #[.val (.long q1), .second, .val (.int p2), .val (.int p3), .val (.int p4), .val (.int p5), .val (.int (p2 &&& (255 : Int32))), .val (.int ((1 : Int32) <<< ((p5 &&& (7 : Int32)) &&& 31))), .unset, .unset, .unset, .unset, .unset, .unset] [(.int (p2 &&& (255 : Int32))), (.long q1), (.long ((z1 ||| z2) ||| z3))]))
  refine own_Fin.step (fun _ => XS.iloadN X3.here hx rfl (hb hby at_57) rfl) ?_
  show own_Fin p e below s _ _ _ (T3.setTop (mkF m 58 #[.val (.long q1), .second, .val (.int p2), .val (.int p3), .val (.int p4), .val (.int p5), .val (.int (p2 &&& (255 : Int32))), .val (.int ((1 : Int32) <<< ((p5 &&& (7 : Int32)) &&& 31))), .unset, .unset, .unset, .unset, .unset, .unset] [(.int p3), (.int (p2 &&& (255 : Int32))), (.long q1), (.long ((z1 ||| z2) ||| z3))]))
  refine own_Fin.step (fun _ => XS.iload X3.here hx rfl (hb hby at_58) rfl) ?_
  show own_Fin p e below s _ _ _ (T3.setTop (mkF m 60 #[.val (.long q1), .second, .val (.int p2), .val (.int p3), .val (.int p4), .val (.int p5), .val (.int (p2 &&& (255 : Int32))), .val (.int ((1 : Int32) <<< ((p5 &&& (7 : Int32)) &&& 31))), .unset, .unset, .unset, .unset, .unset, .unset] [(.int p4), (.int p3), (.int (p2 &&& (255 : Int32))), (.long q1), (.long ((z1 ||| z2) ||| z3))]))
  refine own_Fin.step (fun _ => XS.iload X3.here hx rfl (hb hby at_60) rfl) ?_
  show own_Fin p e below s _ _ _ (T3.setTop (mkF m 62 #[.val (.long q1), .second, .val (.int p2), .val (.int p3), .val (.int p4), .val (.int p5), .val (.int (p2 &&& (255 : Int32))), .val (.int ((1 : Int32) <<< ((p5 &&& (7 : Int32)) &&& 31))), .unset, .unset, .unset, .unset, .unset, .unset] [(.int ((1 : Int32) <<< ((p5 &&& (7 : Int32)) &&& 31))), (.int p4), (.int p3), (.int (p2 &&& (255 : Int32))), (.long q1), (.long ((z1 ||| z2) ||| z3))]))
  refine own_Fin.step (fun _ => XS.iconst X3.here hx rfl (hb hby at_62)) ?_
  show own_Fin p e below s _ _ _ (T3.setTop (mkF m 63 #[.val (.long q1), .second, .val (.int p2), .val (.int p3), .val (.int p4), .val (.int p5), .val (.int (p2 &&& (255 : Int32))), .val (.int ((1 : Int32) <<< ((p5 &&& (7 : Int32)) &&& 31))), .unset, .unset, .unset, .unset, .unset, .unset] [(.int (3 : Int32)), (.int ((1 : Int32) <<< ((p5 &&& (7 : Int32)) &&& 31))), (.int p4), (.int p3), (.int (p2 &&& (255 : Int32))), (.long q1), (.long ((z1 ||| z2) ||| z3))]))
  obtain ⟨_, T4, L4, X4, ⟨z4, rfl, N4q, e4⟩, st4⟩ := own_callS X3 hx hZ hown (own_w hw 0 rfl) (own_w hw 1 rfl) (own_w hw 2 rfl) (own_w hw 3 rfl) (by decide) (rm1 l Z a0 hw q1 (p2 &&& (255 : Int32)) p3 p4 ((1 : Int32) <<< ((p5 &&& (7 : Int32)) &&& 31)) (3 : Int32) h0 n0 Z0) (by decide) (by decide) e3 (W := 2) (g := (mkF m 63 #[.val (.long q1), .second, .val (.int p2), .val (.int p3), .val (.int p4), .val (.int p5), .val (.int (p2 &&& (255 : Int32))), .val (.int ((1 : Int32) <<< ((p5 &&& (7 : Int32)) &&& 31))), .unset, .unset, .unset, .unset, .unset, .unset] [(.int (3 : Int32)), (.int ((1 : Int32) <<< ((p5 &&& (7 : Int32)) &&& 31))), (.int p4), (.int p3), (.int (p2 &&& (255 : Int32))), (.long q1), (.long ((z1 ||| z2) ||| z3))])) rfl (by rw [hml]; rfl) (argsL := [(.long q1), (.int (p2 &&& (255 : Int32))), (.int p3), (.int p4), (.int ((1 : Int32) <<< ((p5 &&& (7 : Int32)) &&& 31))), (.int (3 : Int32))]) (rest := [(.long ((z1 ||| z2) ||| z3))]) (lenOf pd_0 rfl) rfl rfl (by show 2 * 0 + _ ≤ _; exact Nat.le_of_eq rfl) (hb hby at_63) (by decide) (by decide)
  have N4 := Fr.app N3 N4q
  refine own_Fin.step st4 ?_
  show own_Fin p e below s _ _ _ (T4.setTop (mkF m 66 #[.val (.long q1), .second, .val (.int p2), .val (.int p3), .val (.int p4), .val (.int p5), .val (.int (p2 &&& (255 : Int32))), .val (.int ((1 : Int32) <<< ((p5 &&& (7 : Int32)) &&& 31))), .unset, .unset, .unset, .unset, .unset, .unset] [(.long z4), (.long ((z1 ||| z2) ||| z3))]))
  refine own_Fin.step (fun _ => XS.lor X4.here hx rfl (hb hby at_66) rfl) ?_
  show own_Fin p e below s _ _ _ (T4.setTop (mkF m 67 #[.val (.long q1), .second, .val (.int p2), .val (.int p3), .val (.int p4), .val (.int p5), .val (.int (p2 &&& (255 : Int32))), .val (.int ((1 : Int32) <<< ((p5 &&& (7 : Int32)) &&& 31))), .unset, .unset, .unset, .unset, .unset, .unset] [(.long (((z1 ||| z2) ||| z3) ||| z4))]))
  refine own_Fin.step (fun _ => XS.lloadN X4.here hx rfl (hb hby at_67) rfl) ?_
  show own_Fin p e below s _ _ _ (T4.setTop (mkF m 68 #[.val (.long q1), .second, .val (.int p2), .val (.int p3), .val (.int p4), .val (.int p5), .val (.int (p2 &&& (255 : Int32))), .val (.int ((1 : Int32) <<< ((p5 &&& (7 : Int32)) &&& 31))), .unset, .unset, .unset, .unset, .unset, .unset] [(.long q1), (.long (((z1 ||| z2) ||| z3) ||| z4))]))
  refine own_Fin.step (fun _ => XS.iload X4.here hx rfl (hb hby at_68) rfl) ?_
  show own_Fin p e below s _ _ _ (T4.setTop (mkF m 70 #[.val (.long q1), .second, .val (.int p2), .val (.int p3), .val (.int p4), .val (.int p5), .val (.int (p2 &&& (255 : Int32))), .val (.int ((1 : Int32) <<< ((p5 &&& (7 : Int32)) &&& 31))), .unset, .unset, .unset, .unset, .unset, .unset] [(.int (p2 &&& (255 : Int32))), (.long q1), (.long (((z1 ||| z2) ||| z3) ||| z4))]))
  refine own_Fin.step (fun _ => XS.iloadN X4.here hx rfl (hb hby at_70) rfl) ?_
  show own_Fin p e below s _ _ _ (T4.setTop (mkF m 71 #[.val (.long q1), .second, .val (.int p2), .val (.int p3), .val (.int p4), .val (.int p5), .val (.int (p2 &&& (255 : Int32))), .val (.int ((1 : Int32) <<< ((p5 &&& (7 : Int32)) &&& 31))), .unset, .unset, .unset, .unset, .unset, .unset] [(.int p3), (.int (p2 &&& (255 : Int32))), (.long q1), (.long (((z1 ||| z2) ||| z3) ||| z4))]))
  refine own_Fin.step (fun _ => XS.iload X4.here hx rfl (hb hby at_71) rfl) ?_
  show own_Fin p e below s _ _ _ (T4.setTop (mkF m 73 #[.val (.long q1), .second, .val (.int p2), .val (.int p3), .val (.int p4), .val (.int p5), .val (.int (p2 &&& (255 : Int32))), .val (.int ((1 : Int32) <<< ((p5 &&& (7 : Int32)) &&& 31))), .unset, .unset, .unset, .unset, .unset, .unset] [(.int p4), (.int p3), (.int (p2 &&& (255 : Int32))), (.long q1), (.long (((z1 ||| z2) ||| z3) ||| z4))]))
  refine own_Fin.step (fun _ => XS.iload X4.here hx rfl (hb hby at_73) rfl) ?_
  show own_Fin p e below s _ _ _ (T4.setTop (mkF m 75 #[.val (.long q1), .second, .val (.int p2), .val (.int p3), .val (.int p4), .val (.int p5), .val (.int (p2 &&& (255 : Int32))), .val (.int ((1 : Int32) <<< ((p5 &&& (7 : Int32)) &&& 31))), .unset, .unset, .unset, .unset, .unset, .unset] [(.int ((1 : Int32) <<< ((p5 &&& (7 : Int32)) &&& 31))), (.int p4), (.int p3), (.int (p2 &&& (255 : Int32))), (.long q1), (.long (((z1 ||| z2) ||| z3) ||| z4))]))
  refine own_Fin.step (fun _ => XS.iconst X4.here hx rfl (hb hby at_75)) ?_
  show own_Fin p e below s _ _ _ (T4.setTop (mkF m 76 #[.val (.long q1), .second, .val (.int p2), .val (.int p3), .val (.int p4), .val (.int p5), .val (.int (p2 &&& (255 : Int32))), .val (.int ((1 : Int32) <<< ((p5 &&& (7 : Int32)) &&& 31))), .unset, .unset, .unset, .unset, .unset, .unset] [(.int (4 : Int32)), (.int ((1 : Int32) <<< ((p5 &&& (7 : Int32)) &&& 31))), (.int p4), (.int p3), (.int (p2 &&& (255 : Int32))), (.long q1), (.long (((z1 ||| z2) ||| z3) ||| z4))]))
  obtain ⟨_, T5, L5, X5, ⟨z5, rfl, N5q, e5⟩, st5⟩ := own_callS X4 hx hZ hown (own_w hw 0 rfl) (own_w hw 1 rfl) (own_w hw 2 rfl) (own_w hw 3 rfl) (by decide) (rm1 l Z a0 hw q1 (p2 &&& (255 : Int32)) p3 p4 ((1 : Int32) <<< ((p5 &&& (7 : Int32)) &&& 31)) (4 : Int32) h0 n0 Z0) (by decide) (by decide) e4 (W := 2) (g := (mkF m 76 #[.val (.long q1), .second, .val (.int p2), .val (.int p3), .val (.int p4), .val (.int p5), .val (.int (p2 &&& (255 : Int32))), .val (.int ((1 : Int32) <<< ((p5 &&& (7 : Int32)) &&& 31))), .unset, .unset, .unset, .unset, .unset, .unset] [(.int (4 : Int32)), (.int ((1 : Int32) <<< ((p5 &&& (7 : Int32)) &&& 31))), (.int p4), (.int p3), (.int (p2 &&& (255 : Int32))), (.long q1), (.long (((z1 ||| z2) ||| z3) ||| z4))])) rfl (by rw [hml]; rfl) (argsL := [(.long q1), (.int (p2 &&& (255 : Int32))), (.int p3), (.int p4), (.int ((1 : Int32) <<< ((p5 &&& (7 : Int32)) &&& 31))), (.int (4 : Int32))]) (rest := [(.long (((z1 ||| z2) ||| z3) ||| z4))]) (lenOf pd_0 rfl) rfl rfl (by show 2 * 0 + _ ≤ _; exact Nat.le_of_eq rfl) (hb hby at_76) (by decide) (by decide)
  have N5 := Fr.app N4 N5q
  refine own_Fin.step st5 ?_
  show own_Fin p e below s _ _ _ (T5.setTop (mkF m 79 #[.val (.long q1), .second, .val (.int p2), .val (.int p3), .val (.int p4), .val (.int p5), .val (.int (p2 &&& (255 : Int32))), .val (.int ((1 : Int32) <<< ((p5 &&& (7 : Int32)) &&& 31))), .unset, .unset, .unset, .unset, .unset, .unset] [(.long z5), (.long (((z1 ||| z2) ||| z3) ||| z4))]))
  refine own_Fin.step (fun _ => XS.lor X5.here hx rfl (hb hby at_79) rfl) ?_
  show own_Fin p e below s _ _ _ (T5.setTop (mkF m 80 #[.val (.long q1), .second, .val (.int p2), .val (.int p3), .val (.int p4), .val (.int p5), .val (.int (p2 &&& (255 : Int32))), .val (.int ((1 : Int32) <<< ((p5 &&& (7 : Int32)) &&& 31))), .unset, .unset, .unset, .unset, .unset, .unset] [(.long ((((z1 ||| z2) ||| z3) ||| z4) ||| z5))]))
  refine own_Fin.step (fun _ => XS.lloadN X5.here hx rfl (hb hby at_80) rfl) ?_
  show own_Fin p e below s _ _ _ (T5.setTop (mkF m 81 #[.val (.long q1), .second, .val (.int p2), .val (.int p3), .val (.int p4), .val (.int p5), .val (.int (p2 &&& (255 : Int32))), .val (.int ((1 : Int32) <<< ((p5 &&& (7 : Int32)) &&& 31))), .unset, .unset, .unset, .unset, .unset, .unset] [(.long q1), (.long ((((z1 ||| z2) ||| z3) ||| z4) ||| z5))]))
  refine own_Fin.step (fun _ => XS.iload X5.here hx rfl (hb hby at_81) rfl) ?_
  show own_Fin p e below s _ _ _ (T5.setTop (mkF m 83 #[.val (.long q1), .second, .val (.int p2), .val (.int p3), .val (.int p4), .val (.int p5), .val (.int (p2 &&& (255 : Int32))), .val (.int ((1 : Int32) <<< ((p5 &&& (7 : Int32)) &&& 31))), .unset, .unset, .unset, .unset, .unset, .unset] [(.int (p2 &&& (255 : Int32))), (.long q1), (.long ((((z1 ||| z2) ||| z3) ||| z4) ||| z5))]))
  refine own_Fin.step (fun _ => XS.iloadN X5.here hx rfl (hb hby at_83) rfl) ?_
  show own_Fin p e below s _ _ _ (T5.setTop (mkF m 84 #[.val (.long q1), .second, .val (.int p2), .val (.int p3), .val (.int p4), .val (.int p5), .val (.int (p2 &&& (255 : Int32))), .val (.int ((1 : Int32) <<< ((p5 &&& (7 : Int32)) &&& 31))), .unset, .unset, .unset, .unset, .unset, .unset] [(.int p3), (.int (p2 &&& (255 : Int32))), (.long q1), (.long ((((z1 ||| z2) ||| z3) ||| z4) ||| z5))]))
  refine own_Fin.step (fun _ => XS.iload X5.here hx rfl (hb hby at_84) rfl) ?_
  show own_Fin p e below s _ _ _ (T5.setTop (mkF m 86 #[.val (.long q1), .second, .val (.int p2), .val (.int p3), .val (.int p4), .val (.int p5), .val (.int (p2 &&& (255 : Int32))), .val (.int ((1 : Int32) <<< ((p5 &&& (7 : Int32)) &&& 31))), .unset, .unset, .unset, .unset, .unset, .unset] [(.int p4), (.int p3), (.int (p2 &&& (255 : Int32))), (.long q1), (.long ((((z1 ||| z2) ||| z3) ||| z4) ||| z5))]))
  refine own_Fin.step (fun _ => XS.iload X5.here hx rfl (hb hby at_86) rfl) ?_
  show own_Fin p e below s _ _ _ (T5.setTop (mkF m 88 #[.val (.long q1), .second, .val (.int p2), .val (.int p3), .val (.int p4), .val (.int p5), .val (.int (p2 &&& (255 : Int32))), .val (.int ((1 : Int32) <<< ((p5 &&& (7 : Int32)) &&& 31))), .unset, .unset, .unset, .unset, .unset, .unset] [(.int ((1 : Int32) <<< ((p5 &&& (7 : Int32)) &&& 31))), (.int p4), (.int p3), (.int (p2 &&& (255 : Int32))), (.long q1), (.long ((((z1 ||| z2) ||| z3) ||| z4) ||| z5))]))
  refine own_Fin.step (fun _ => XS.iconst X5.here hx rfl (hb hby at_88)) ?_
  show own_Fin p e below s _ _ _ (T5.setTop (mkF m 89 #[.val (.long q1), .second, .val (.int p2), .val (.int p3), .val (.int p4), .val (.int p5), .val (.int (p2 &&& (255 : Int32))), .val (.int ((1 : Int32) <<< ((p5 &&& (7 : Int32)) &&& 31))), .unset, .unset, .unset, .unset, .unset, .unset] [(.int (5 : Int32)), (.int ((1 : Int32) <<< ((p5 &&& (7 : Int32)) &&& 31))), (.int p4), (.int p3), (.int (p2 &&& (255 : Int32))), (.long q1), (.long ((((z1 ||| z2) ||| z3) ||| z4) ||| z5))]))
  obtain ⟨_, T6, L6, X6, ⟨z6, rfl, N6q, e6⟩, st6⟩ := own_callS X5 hx hZ hown (own_w hw 0 rfl) (own_w hw 1 rfl) (own_w hw 2 rfl) (own_w hw 3 rfl) (by decide) (rm1 l Z a0 hw q1 (p2 &&& (255 : Int32)) p3 p4 ((1 : Int32) <<< ((p5 &&& (7 : Int32)) &&& 31)) (5 : Int32) h0 n0 Z0) (by decide) (by decide) e5 (W := 2) (g := (mkF m 89 #[.val (.long q1), .second, .val (.int p2), .val (.int p3), .val (.int p4), .val (.int p5), .val (.int (p2 &&& (255 : Int32))), .val (.int ((1 : Int32) <<< ((p5 &&& (7 : Int32)) &&& 31))), .unset, .unset, .unset, .unset, .unset, .unset] [(.int (5 : Int32)), (.int ((1 : Int32) <<< ((p5 &&& (7 : Int32)) &&& 31))), (.int p4), (.int p3), (.int (p2 &&& (255 : Int32))), (.long q1), (.long ((((z1 ||| z2) ||| z3) ||| z4) ||| z5))])) rfl (by rw [hml]; rfl) (argsL := [(.long q1), (.int (p2 &&& (255 : Int32))), (.int p3), (.int p4), (.int ((1 : Int32) <<< ((p5 &&& (7 : Int32)) &&& 31))), (.int (5 : Int32))]) (rest := [(.long ((((z1 ||| z2) ||| z3) ||| z4) ||| z5))]) (lenOf pd_0 rfl) rfl rfl (by show 2 * 0 + _ ≤ _; exact Nat.le_of_eq rfl) (hb hby at_89) (by decide) (by decide)
  have N6 := Fr.app N5 N6q
  refine own_Fin.step st6 ?_
  show own_Fin p e below s _ _ _ (T6.setTop (mkF m 92 #[.val (.long q1), .second, .val (.int p2), .val (.int p3), .val (.int p4), .val (.int p5), .val (.int (p2 &&& (255 : Int32))), .val (.int ((1 : Int32) <<< ((p5 &&& (7 : Int32)) &&& 31))), .unset, .unset, .unset, .unset, .unset, .unset] [(.long z6), (.long ((((z1 ||| z2) ||| z3) ||| z4) ||| z5))]))
  refine own_Fin.step (fun _ => XS.lor X6.here hx rfl (hb hby at_92) rfl) ?_
  show own_Fin p e below s _ _ _ (T6.setTop (mkF m 93 #[.val (.long q1), .second, .val (.int p2), .val (.int p3), .val (.int p4), .val (.int p5), .val (.int (p2 &&& (255 : Int32))), .val (.int ((1 : Int32) <<< ((p5 &&& (7 : Int32)) &&& 31))), .unset, .unset, .unset, .unset, .unset, .unset] [(.long (((((z1 ||| z2) ||| z3) ||| z4) ||| z5) ||| z6))]))
  refine own_Fin.step (fun _ => XS.lloadN X6.here hx rfl (hb hby at_93) rfl) ?_
  show own_Fin p e below s _ _ _ (T6.setTop (mkF m 94 #[.val (.long q1), .second, .val (.int p2), .val (.int p3), .val (.int p4), .val (.int p5), .val (.int (p2 &&& (255 : Int32))), .val (.int ((1 : Int32) <<< ((p5 &&& (7 : Int32)) &&& 31))), .unset, .unset, .unset, .unset, .unset, .unset] [(.long q1), (.long (((((z1 ||| z2) ||| z3) ||| z4) ||| z5) ||| z6))]))
  refine own_Fin.step (fun _ => XS.iload X6.here hx rfl (hb hby at_94) rfl) ?_
  show own_Fin p e below s _ _ _ (T6.setTop (mkF m 96 #[.val (.long q1), .second, .val (.int p2), .val (.int p3), .val (.int p4), .val (.int p5), .val (.int (p2 &&& (255 : Int32))), .val (.int ((1 : Int32) <<< ((p5 &&& (7 : Int32)) &&& 31))), .unset, .unset, .unset, .unset, .unset, .unset] [(.int (p2 &&& (255 : Int32))), (.long q1), (.long (((((z1 ||| z2) ||| z3) ||| z4) ||| z5) ||| z6))]))
  refine own_Fin.step (fun _ => XS.iloadN X6.here hx rfl (hb hby at_96) rfl) ?_
  show own_Fin p e below s _ _ _ (T6.setTop (mkF m 97 #[.val (.long q1), .second, .val (.int p2), .val (.int p3), .val (.int p4), .val (.int p5), .val (.int (p2 &&& (255 : Int32))), .val (.int ((1 : Int32) <<< ((p5 &&& (7 : Int32)) &&& 31))), .unset, .unset, .unset, .unset, .unset, .unset] [(.int p3), (.int (p2 &&& (255 : Int32))), (.long q1), (.long (((((z1 ||| z2) ||| z3) ||| z4) ||| z5) ||| z6))]))
  refine own_Fin.step (fun _ => XS.iload X6.here hx rfl (hb hby at_97) rfl) ?_
  show own_Fin p e below s _ _ _ (T6.setTop (mkF m 99 #[.val (.long q1), .second, .val (.int p2), .val (.int p3), .val (.int p4), .val (.int p5), .val (.int (p2 &&& (255 : Int32))), .val (.int ((1 : Int32) <<< ((p5 &&& (7 : Int32)) &&& 31))), .unset, .unset, .unset, .unset, .unset, .unset] [(.int p4), (.int p3), (.int (p2 &&& (255 : Int32))), (.long q1), (.long (((((z1 ||| z2) ||| z3) ||| z4) ||| z5) ||| z6))]))
  refine own_Fin.step (fun _ => XS.iload X6.here hx rfl (hb hby at_99) rfl) ?_
  show own_Fin p e below s _ _ _ (T6.setTop (mkF m 101 #[.val (.long q1), .second, .val (.int p2), .val (.int p3), .val (.int p4), .val (.int p5), .val (.int (p2 &&& (255 : Int32))), .val (.int ((1 : Int32) <<< ((p5 &&& (7 : Int32)) &&& 31))), .unset, .unset, .unset, .unset, .unset, .unset] [(.int ((1 : Int32) <<< ((p5 &&& (7 : Int32)) &&& 31))), (.int p4), (.int p3), (.int (p2 &&& (255 : Int32))), (.long q1), (.long (((((z1 ||| z2) ||| z3) ||| z4) ||| z5) ||| z6))]))
  refine own_Fin.step (fun _ => XS.bipush X6.here hx rfl (hb hby at_101)) ?_
  show own_Fin p e below s _ _ _ (T6.setTop (mkF m 103 #[.val (.long q1), .second, .val (.int p2), .val (.int p3), .val (.int p4), .val (.int p5), .val (.int (p2 &&& (255 : Int32))), .val (.int ((1 : Int32) <<< ((p5 &&& (7 : Int32)) &&& 31))), .unset, .unset, .unset, .unset, .unset, .unset] [(.int (6 : Int32)), (.int ((1 : Int32) <<< ((p5 &&& (7 : Int32)) &&& 31))), (.int p4), (.int p3), (.int (p2 &&& (255 : Int32))), (.long q1), (.long (((((z1 ||| z2) ||| z3) ||| z4) ||| z5) ||| z6))]))
  obtain ⟨_, T7, L7, X7, ⟨z7, rfl, N7q, e7⟩, st7⟩ := own_callS X6 hx hZ hown (own_w hw 0 rfl) (own_w hw 1 rfl) (own_w hw 2 rfl) (own_w hw 3 rfl) (by decide) (rm1 l Z a0 hw q1 (p2 &&& (255 : Int32)) p3 p4 ((1 : Int32) <<< ((p5 &&& (7 : Int32)) &&& 31)) (6 : Int32) h0 n0 Z0) (by decide) (by decide) e6 (W := 2) (g := (mkF m 103 #[.val (.long q1), .second, .val (.int p2), .val (.int p3), .val (.int p4), .val (.int p5), .val (.int (p2 &&& (255 : Int32))), .val (.int ((1 : Int32) <<< ((p5 &&& (7 : Int32)) &&& 31))), .unset, .unset, .unset, .unset, .unset, .unset] [(.int (6 : Int32)), (.int ((1 : Int32) <<< ((p5 &&& (7 : Int32)) &&& 31))), (.int p4), (.int p3), (.int (p2 &&& (255 : Int32))), (.long q1), (.long (((((z1 ||| z2) ||| z3) ||| z4) ||| z5) ||| z6))])) rfl (by rw [hml]; rfl) (argsL := [(.long q1), (.int (p2 &&& (255 : Int32))), (.int p3), (.int p4), (.int ((1 : Int32) <<< ((p5 &&& (7 : Int32)) &&& 31))), (.int (6 : Int32))]) (rest := [(.long (((((z1 ||| z2) ||| z3) ||| z4) ||| z5) ||| z6))]) (lenOf pd_0 rfl) rfl rfl (by show 2 * 0 + _ ≤ _; exact Nat.le_of_eq rfl) (hb hby at_103) (by decide) (by decide)
  have N7 := Fr.app N6 N7q
  refine own_Fin.step st7 ?_
  show own_Fin p e below s _ _ _ (T7.setTop (mkF m 106 #[.val (.long q1), .second, .val (.int p2), .val (.int p3), .val (.int p4), .val (.int p5), .val (.int (p2 &&& (255 : Int32))), .val (.int ((1 : Int32) <<< ((p5 &&& (7 : Int32)) &&& 31))), .unset, .unset, .unset, .unset, .unset, .unset] [(.long z7), (.long (((((z1 ||| z2) ||| z3) ||| z4) ||| z5) ||| z6))]))
  refine own_Fin.step (fun _ => XS.lor X7.here hx rfl (hb hby at_106) rfl) ?_
  show own_Fin p e below s _ _ _ (T7.setTop (mkF m 107 #[.val (.long q1), .second, .val (.int p2), .val (.int p3), .val (.int p4), .val (.int p5), .val (.int (p2 &&& (255 : Int32))), .val (.int ((1 : Int32) <<< ((p5 &&& (7 : Int32)) &&& 31))), .unset, .unset, .unset, .unset, .unset, .unset] [(.long ((((((z1 ||| z2) ||| z3) ||| z4) ||| z5) ||| z6) ||| z7))]))
  refine own_Fin.step (fun _ => XS.lloadN X7.here hx rfl (hb hby at_107) rfl) ?_
  show own_Fin p e below s _ _ _ (T7.setTop (mkF m 108 #[.val (.long q1), .second, .val (.int p2), .val (.int p3), .val (.int p4), .val (.int p5), .val (.int (p2 &&& (255 : Int32))), .val (.int ((1 : Int32) <<< ((p5 &&& (7 : Int32)) &&& 31))), .unset, .unset, .unset, .unset, .unset, .unset] [(.long q1), (.long ((((((z1 ||| z2) ||| z3) ||| z4) ||| z5) ||| z6) ||| z7))]))
  refine own_Fin.step (fun _ => XS.iload X7.here hx rfl (hb hby at_108) rfl) ?_
  show own_Fin p e below s _ _ _ (T7.setTop (mkF m 110 #[.val (.long q1), .second, .val (.int p2), .val (.int p3), .val (.int p4), .val (.int p5), .val (.int (p2 &&& (255 : Int32))), .val (.int ((1 : Int32) <<< ((p5 &&& (7 : Int32)) &&& 31))), .unset, .unset, .unset, .unset, .unset, .unset] [(.int (p2 &&& (255 : Int32))), (.long q1), (.long ((((((z1 ||| z2) ||| z3) ||| z4) ||| z5) ||| z6) ||| z7))]))
  refine own_Fin.step (fun _ => XS.iloadN X7.here hx rfl (hb hby at_110) rfl) ?_
  show own_Fin p e below s _ _ _ (T7.setTop (mkF m 111 #[.val (.long q1), .second, .val (.int p2), .val (.int p3), .val (.int p4), .val (.int p5), .val (.int (p2 &&& (255 : Int32))), .val (.int ((1 : Int32) <<< ((p5 &&& (7 : Int32)) &&& 31))), .unset, .unset, .unset, .unset, .unset, .unset] [(.int p3), (.int (p2 &&& (255 : Int32))), (.long q1), (.long ((((((z1 ||| z2) ||| z3) ||| z4) ||| z5) ||| z6) ||| z7))]))
  refine own_Fin.step (fun _ => XS.iload X7.here hx rfl (hb hby at_111) rfl) ?_
  show own_Fin p e below s _ _ _ (T7.setTop (mkF m 113 #[.val (.long q1), .second, .val (.int p2), .val (.int p3), .val (.int p4), .val (.int p5), .val (.int (p2 &&& (255 : Int32))), .val (.int ((1 : Int32) <<< ((p5 &&& (7 : Int32)) &&& 31))), .unset, .unset, .unset, .unset, .unset, .unset] [(.int p4), (.int p3), (.int (p2 &&& (255 : Int32))), (.long q1), (.long ((((((z1 ||| z2) ||| z3) ||| z4) ||| z5) ||| z6) ||| z7))]))
  refine own_Fin.step (fun _ => XS.iload X7.here hx rfl (hb hby at_113) rfl) ?_
  show own_Fin p e below s _ _ _ (T7.setTop (mkF m 115 #[.val (.long q1), .second, .val (.int p2), .val (.int p3), .val (.int p4), .val (.int p5), .val (.int (p2 &&& (255 : Int32))), .val (.int ((1 : Int32) <<< ((p5 &&& (7 : Int32)) &&& 31))), .unset, .unset, .unset, .unset, .unset, .unset] [(.int ((1 : Int32) <<< ((p5 &&& (7 : Int32)) &&& 31))), (.int p4), (.int p3), (.int (p2 &&& (255 : Int32))), (.long q1), (.long ((((((z1 ||| z2) ||| z3) ||| z4) ||| z5) ||| z6) ||| z7))]))
  refine own_Fin.step (fun _ => XS.bipush X7.here hx rfl (hb hby at_115)) ?_
  show own_Fin p e below s _ _ _ (T7.setTop (mkF m 117 #[.val (.long q1), .second, .val (.int p2), .val (.int p3), .val (.int p4), .val (.int p5), .val (.int (p2 &&& (255 : Int32))), .val (.int ((1 : Int32) <<< ((p5 &&& (7 : Int32)) &&& 31))), .unset, .unset, .unset, .unset, .unset, .unset] [(.int (7 : Int32)), (.int ((1 : Int32) <<< ((p5 &&& (7 : Int32)) &&& 31))), (.int p4), (.int p3), (.int (p2 &&& (255 : Int32))), (.long q1), (.long ((((((z1 ||| z2) ||| z3) ||| z4) ||| z5) ||| z6) ||| z7))]))
  obtain ⟨_, T8, L8, X8, ⟨z8, rfl, N8q, e8⟩, st8⟩ := own_callS X7 hx hZ hown (own_w hw 0 rfl) (own_w hw 1 rfl) (own_w hw 2 rfl) (own_w hw 3 rfl) (by decide) (rm1 l Z a0 hw q1 (p2 &&& (255 : Int32)) p3 p4 ((1 : Int32) <<< ((p5 &&& (7 : Int32)) &&& 31)) (7 : Int32) h0 n0 Z0) (by decide) (by decide) e7 (W := 2) (g := (mkF m 117 #[.val (.long q1), .second, .val (.int p2), .val (.int p3), .val (.int p4), .val (.int p5), .val (.int (p2 &&& (255 : Int32))), .val (.int ((1 : Int32) <<< ((p5 &&& (7 : Int32)) &&& 31))), .unset, .unset, .unset, .unset, .unset, .unset] [(.int (7 : Int32)), (.int ((1 : Int32) <<< ((p5 &&& (7 : Int32)) &&& 31))), (.int p4), (.int p3), (.int (p2 &&& (255 : Int32))), (.long q1), (.long ((((((z1 ||| z2) ||| z3) ||| z4) ||| z5) ||| z6) ||| z7))])) rfl (by rw [hml]; rfl) (argsL := [(.long q1), (.int (p2 &&& (255 : Int32))), (.int p3), (.int p4), (.int ((1 : Int32) <<< ((p5 &&& (7 : Int32)) &&& 31))), (.int (7 : Int32))]) (rest := [(.long ((((((z1 ||| z2) ||| z3) ||| z4) ||| z5) ||| z6) ||| z7))]) (lenOf pd_0 rfl) rfl rfl (by show 2 * 0 + _ ≤ _; exact Nat.le_of_eq rfl) (hb hby at_117) (by decide) (by decide)
  have N8 := Fr.app N7 N8q
  refine own_Fin.step st8 ?_
  show own_Fin p e below s _ _ _ (T8.setTop (mkF m 120 #[.val (.long q1), .second, .val (.int p2), .val (.int p3), .val (.int p4), .val (.int p5), .val (.int (p2 &&& (255 : Int32))), .val (.int ((1 : Int32) <<< ((p5 &&& (7 : Int32)) &&& 31))), .unset, .unset, .unset, .unset, .unset, .unset] [(.long z8), (.long ((((((z1 ||| z2) ||| z3) ||| z4) ||| z5) ||| z6) ||| z7))]))
  refine own_Fin.step (fun _ => XS.lor X8.here hx rfl (hb hby at_120) rfl) ?_
  show own_Fin p e below s _ _ _ (T8.setTop (mkF m 121 #[.val (.long q1), .second, .val (.int p2), .val (.int p3), .val (.int p4), .val (.int p5), .val (.int (p2 &&& (255 : Int32))), .val (.int ((1 : Int32) <<< ((p5 &&& (7 : Int32)) &&& 31))), .unset, .unset, .unset, .unset, .unset, .unset] [(.long (((((((z1 ||| z2) ||| z3) ||| z4) ||| z5) ||| z6) ||| z7) ||| z8))]))
  generalize hwd : (((((((z1 ||| z2) ||| z3) ||| z4) ||| z5) ||| z6) ||| z7) ||| z8) = wd
  refine own_Fin.step (fun _ => XS.lstore X8.here hx rfl (hb hby at_121) rfl (l' := #[.val (.long q1), .second, .val (.int p2), .val (.int p3), .val (.int p4), .val (.int p5), .val (.int (p2 &&& (255 : Int32))), .val (.int ((1 : Int32) <<< ((p5 &&& (7 : Int32)) &&& 31))), .val (.long wd), .second, .unset, .unset, .unset, .unset]) rfl) ?_
  show own_Fin p e below s _ _ _ (T8.setTop (mkF m 123 #[.val (.long q1), .second, .val (.int p2), .val (.int p3), .val (.int p4), .val (.int p5), .val (.int (p2 &&& (255 : Int32))), .val (.int ((1 : Int32) <<< ((p5 &&& (7 : Int32)) &&& 31))), .val (.long wd), .second, .unset, .unset, .unset, .unset] []))
  refine own_Fin.step (fun _ => XS.lload X8.here hx rfl (hb hby at_123) rfl) ?_
  show own_Fin p e below s _ _ _ (T8.setTop (mkF m 125 #[.val (.long q1), .second, .val (.int p2), .val (.int p3), .val (.int p4), .val (.int p5), .val (.int (p2 &&& (255 : Int32))), .val (.int ((1 : Int32) <<< ((p5 &&& (7 : Int32)) &&& 31))), .val (.long wd), .second, .unset, .unset, .unset, .unset] [(.long wd)]))
  refine own_Fin.step (fun _ => XS.iload X8.here hx rfl (hb hby at_125) rfl) ?_
  show own_Fin p e below s _ _ _ (T8.setTop (mkF m 127 #[.val (.long q1), .second, .val (.int p2), .val (.int p3), .val (.int p4), .val (.int p5), .val (.int (p2 &&& (255 : Int32))), .val (.int ((1 : Int32) <<< ((p5 &&& (7 : Int32)) &&& 31))), .val (.long wd), .second, .unset, .unset, .unset, .unset] [(.int (p2 &&& (255 : Int32))), (.long wd)]))
  refine own_Fin.step (fun _ => XS.iconst X8.here hx rfl (hb hby at_127)) ?_
  show own_Fin p e below s _ _ _ (T8.setTop (mkF m 128 #[.val (.long q1), .second, .val (.int p2), .val (.int p3), .val (.int p4), .val (.int p5), .val (.int (p2 &&& (255 : Int32))), .val (.int ((1 : Int32) <<< ((p5 &&& (7 : Int32)) &&& 31))), .val (.long wd), .second, .unset, .unset, .unset, .unset] [(.int (0 : Int32)), (.int (p2 &&& (255 : Int32))), (.long wd)]))
  obtain ⟨_, T9, L9, X9, ⟨rfl, N9q, e9⟩, st9⟩ := own_callS X8 hx hZ hown (own_w hw 5 rfl) (own_w hw 6 rfl) (own_w hw 2 rfl) (own_w hw 7 rfl) (by decide) (rm2 l Z a0 hw wd (p2 &&& (255 : Int32)) (0 : Int32) h0 n0 Z0) (by decide) (by decide) e8 (W := 0) (g := (mkF m 128 #[.val (.long q1), .second, .val (.int p2), .val (.int p3), .val (.int p4), .val (.int p5), .val (.int (p2 &&& (255 : Int32))), .val (.int ((1 : Int32) <<< ((p5 &&& (7 : Int32)) &&& 31))), .val (.long wd), .second, .unset, .unset, .unset, .unset] [(.int (0 : Int32)), (.int (p2 &&& (255 : Int32))), (.long wd)])) rfl (by rw [hml]; rfl) (argsL := [(.long wd), (.int (p2 &&& (255 : Int32))), (.int (0 : Int32))]) (rest := []) (lenOf pd_1 rfl) rfl rfl (by show 2 * 0 + _ ≤ _; exact Nat.le_of_eq rfl) (hb hby at_128) (by decide) (by decide)
  have N9 := Fr.app N8 N9q
  refine own_Fin.step st9 ?_
  show own_Fin p e below s _ _ _ (T9.setTop (mkF m 131 #[.val (.long q1), .second, .val (.int p2), .val (.int p3), .val (.int p4), .val (.int p5), .val (.int (p2 &&& (255 : Int32))), .val (.int ((1 : Int32) <<< ((p5 &&& (7 : Int32)) &&& 31))), .val (.long wd), .second, .unset, .unset, .unset, .unset] [(.long (own_hit wd (p2 &&& (255 : Int32)) (0 : Int32)))]))
  refine own_Fin.step (fun _ => XS.lload X9.here hx rfl (hb hby at_131) rfl) ?_
  show own_Fin p e below s _ _ _ (T9.setTop (mkF m 133 #[.val (.long q1), .second, .val (.int p2), .val (.int p3), .val (.int p4), .val (.int p5), .val (.int (p2 &&& (255 : Int32))), .val (.int ((1 : Int32) <<< ((p5 &&& (7 : Int32)) &&& 31))), .val (.long wd), .second, .unset, .unset, .unset, .unset] [(.long wd), (.long (own_hit wd (p2 &&& (255 : Int32)) (0 : Int32)))]))
  refine own_Fin.step (fun _ => XS.iload X9.here hx rfl (hb hby at_133) rfl) ?_
  show own_Fin p e below s _ _ _ (T9.setTop (mkF m 135 #[.val (.long q1), .second, .val (.int p2), .val (.int p3), .val (.int p4), .val (.int p5), .val (.int (p2 &&& (255 : Int32))), .val (.int ((1 : Int32) <<< ((p5 &&& (7 : Int32)) &&& 31))), .val (.long wd), .second, .unset, .unset, .unset, .unset] [(.int (p2 &&& (255 : Int32))), (.long wd), (.long (own_hit wd (p2 &&& (255 : Int32)) (0 : Int32)))]))
  refine own_Fin.step (fun _ => XS.iconst X9.here hx rfl (hb hby at_135)) ?_
  show own_Fin p e below s _ _ _ (T9.setTop (mkF m 136 #[.val (.long q1), .second, .val (.int p2), .val (.int p3), .val (.int p4), .val (.int p5), .val (.int (p2 &&& (255 : Int32))), .val (.int ((1 : Int32) <<< ((p5 &&& (7 : Int32)) &&& 31))), .val (.long wd), .second, .unset, .unset, .unset, .unset] [(.int (1 : Int32)), (.int (p2 &&& (255 : Int32))), (.long wd), (.long (own_hit wd (p2 &&& (255 : Int32)) (0 : Int32)))]))
  obtain ⟨_, T10, L10, X10, ⟨rfl, N10q, e10⟩, st10⟩ := own_callS X9 hx hZ hown (own_w hw 5 rfl) (own_w hw 6 rfl) (own_w hw 2 rfl) (own_w hw 7 rfl) (by decide) (rm2 l Z a0 hw wd (p2 &&& (255 : Int32)) (1 : Int32) h0 n0 Z0) (by decide) (by decide) e9 (W := 2) (g := (mkF m 136 #[.val (.long q1), .second, .val (.int p2), .val (.int p3), .val (.int p4), .val (.int p5), .val (.int (p2 &&& (255 : Int32))), .val (.int ((1 : Int32) <<< ((p5 &&& (7 : Int32)) &&& 31))), .val (.long wd), .second, .unset, .unset, .unset, .unset] [(.int (1 : Int32)), (.int (p2 &&& (255 : Int32))), (.long wd), (.long (own_hit wd (p2 &&& (255 : Int32)) (0 : Int32)))])) rfl (by rw [hml]; rfl) (argsL := [(.long wd), (.int (p2 &&& (255 : Int32))), (.int (1 : Int32))]) (rest := [(.long (own_hit wd (p2 &&& (255 : Int32)) (0 : Int32)))]) (lenOf pd_1 rfl) rfl rfl (by show 2 * 0 + _ ≤ _; exact Nat.le_of_eq rfl) (hb hby at_136) (by decide) (by decide)
  have N10 := Fr.app N9 N10q
  refine own_Fin.step st10 ?_
  show own_Fin p e below s _ _ _ (T10.setTop (mkF m 139 #[.val (.long q1), .second, .val (.int p2), .val (.int p3), .val (.int p4), .val (.int p5), .val (.int (p2 &&& (255 : Int32))), .val (.int ((1 : Int32) <<< ((p5 &&& (7 : Int32)) &&& 31))), .val (.long wd), .second, .unset, .unset, .unset, .unset] [(.long (own_hit wd (p2 &&& (255 : Int32)) (1 : Int32))), (.long (own_hit wd (p2 &&& (255 : Int32)) (0 : Int32)))]))
  refine own_Fin.step (fun _ => XS.lor X10.here hx rfl (hb hby at_139) rfl) ?_
  show own_Fin p e below s _ _ _ (T10.setTop (mkF m 140 #[.val (.long q1), .second, .val (.int p2), .val (.int p3), .val (.int p4), .val (.int p5), .val (.int (p2 &&& (255 : Int32))), .val (.int ((1 : Int32) <<< ((p5 &&& (7 : Int32)) &&& 31))), .val (.long wd), .second, .unset, .unset, .unset, .unset] [(.long ((own_hit wd (p2 &&& (255 : Int32)) (0 : Int32)) ||| (own_hit wd (p2 &&& (255 : Int32)) (1 : Int32))))]))
  refine own_Fin.step (fun _ => XS.lload X10.here hx rfl (hb hby at_140) rfl) ?_
  show own_Fin p e below s _ _ _ (T10.setTop (mkF m 142 #[.val (.long q1), .second, .val (.int p2), .val (.int p3), .val (.int p4), .val (.int p5), .val (.int (p2 &&& (255 : Int32))), .val (.int ((1 : Int32) <<< ((p5 &&& (7 : Int32)) &&& 31))), .val (.long wd), .second, .unset, .unset, .unset, .unset] [(.long wd), (.long ((own_hit wd (p2 &&& (255 : Int32)) (0 : Int32)) ||| (own_hit wd (p2 &&& (255 : Int32)) (1 : Int32))))]))
  refine own_Fin.step (fun _ => XS.iload X10.here hx rfl (hb hby at_142) rfl) ?_
  show own_Fin p e below s _ _ _ (T10.setTop (mkF m 144 #[.val (.long q1), .second, .val (.int p2), .val (.int p3), .val (.int p4), .val (.int p5), .val (.int (p2 &&& (255 : Int32))), .val (.int ((1 : Int32) <<< ((p5 &&& (7 : Int32)) &&& 31))), .val (.long wd), .second, .unset, .unset, .unset, .unset] [(.int (p2 &&& (255 : Int32))), (.long wd), (.long ((own_hit wd (p2 &&& (255 : Int32)) (0 : Int32)) ||| (own_hit wd (p2 &&& (255 : Int32)) (1 : Int32))))]))
  refine own_Fin.step (fun _ => XS.iconst X10.here hx rfl (hb hby at_144)) ?_
  show own_Fin p e below s _ _ _ (T10.setTop (mkF m 145 #[.val (.long q1), .second, .val (.int p2), .val (.int p3), .val (.int p4), .val (.int p5), .val (.int (p2 &&& (255 : Int32))), .val (.int ((1 : Int32) <<< ((p5 &&& (7 : Int32)) &&& 31))), .val (.long wd), .second, .unset, .unset, .unset, .unset] [(.int (2 : Int32)), (.int (p2 &&& (255 : Int32))), (.long wd), (.long ((own_hit wd (p2 &&& (255 : Int32)) (0 : Int32)) ||| (own_hit wd (p2 &&& (255 : Int32)) (1 : Int32))))]))
  obtain ⟨_, T11, L11, X11, ⟨rfl, N11q, e11⟩, st11⟩ := own_callS X10 hx hZ hown (own_w hw 5 rfl) (own_w hw 6 rfl) (own_w hw 2 rfl) (own_w hw 7 rfl) (by decide) (rm2 l Z a0 hw wd (p2 &&& (255 : Int32)) (2 : Int32) h0 n0 Z0) (by decide) (by decide) e10 (W := 2) (g := (mkF m 145 #[.val (.long q1), .second, .val (.int p2), .val (.int p3), .val (.int p4), .val (.int p5), .val (.int (p2 &&& (255 : Int32))), .val (.int ((1 : Int32) <<< ((p5 &&& (7 : Int32)) &&& 31))), .val (.long wd), .second, .unset, .unset, .unset, .unset] [(.int (2 : Int32)), (.int (p2 &&& (255 : Int32))), (.long wd), (.long ((own_hit wd (p2 &&& (255 : Int32)) (0 : Int32)) ||| (own_hit wd (p2 &&& (255 : Int32)) (1 : Int32))))])) rfl (by rw [hml]; rfl) (argsL := [(.long wd), (.int (p2 &&& (255 : Int32))), (.int (2 : Int32))]) (rest := [(.long ((own_hit wd (p2 &&& (255 : Int32)) (0 : Int32)) ||| (own_hit wd (p2 &&& (255 : Int32)) (1 : Int32))))]) (lenOf pd_1 rfl) rfl rfl (by show 2 * 0 + _ ≤ _; exact Nat.le_of_eq rfl) (hb hby at_145) (by decide) (by decide)
  have N11 := Fr.app N10 N11q
  refine own_Fin.step st11 ?_
  show own_Fin p e below s _ _ _ (T11.setTop (mkF m 148 #[.val (.long q1), .second, .val (.int p2), .val (.int p3), .val (.int p4), .val (.int p5), .val (.int (p2 &&& (255 : Int32))), .val (.int ((1 : Int32) <<< ((p5 &&& (7 : Int32)) &&& 31))), .val (.long wd), .second, .unset, .unset, .unset, .unset] [(.long (own_hit wd (p2 &&& (255 : Int32)) (2 : Int32))), (.long ((own_hit wd (p2 &&& (255 : Int32)) (0 : Int32)) ||| (own_hit wd (p2 &&& (255 : Int32)) (1 : Int32))))]))
  refine own_Fin.step (fun _ => XS.lor X11.here hx rfl (hb hby at_148) rfl) ?_
  show own_Fin p e below s _ _ _ (T11.setTop (mkF m 149 #[.val (.long q1), .second, .val (.int p2), .val (.int p3), .val (.int p4), .val (.int p5), .val (.int (p2 &&& (255 : Int32))), .val (.int ((1 : Int32) <<< ((p5 &&& (7 : Int32)) &&& 31))), .val (.long wd), .second, .unset, .unset, .unset, .unset] [(.long (((own_hit wd (p2 &&& (255 : Int32)) (0 : Int32)) ||| (own_hit wd (p2 &&& (255 : Int32)) (1 : Int32))) ||| (own_hit wd (p2 &&& (255 : Int32)) (2 : Int32))))]))
  refine own_Fin.step (fun _ => XS.lload X11.here hx rfl (hb hby at_149) rfl) ?_
  show own_Fin p e below s _ _ _ (T11.setTop (mkF m 151 #[.val (.long q1), .second, .val (.int p2), .val (.int p3), .val (.int p4), .val (.int p5), .val (.int (p2 &&& (255 : Int32))), .val (.int ((1 : Int32) <<< ((p5 &&& (7 : Int32)) &&& 31))), .val (.long wd), .second, .unset, .unset, .unset, .unset] [(.long wd), (.long (((own_hit wd (p2 &&& (255 : Int32)) (0 : Int32)) ||| (own_hit wd (p2 &&& (255 : Int32)) (1 : Int32))) ||| (own_hit wd (p2 &&& (255 : Int32)) (2 : Int32))))]))
  refine own_Fin.step (fun _ => XS.iload X11.here hx rfl (hb hby at_151) rfl) ?_
  show own_Fin p e below s _ _ _ (T11.setTop (mkF m 153 #[.val (.long q1), .second, .val (.int p2), .val (.int p3), .val (.int p4), .val (.int p5), .val (.int (p2 &&& (255 : Int32))), .val (.int ((1 : Int32) <<< ((p5 &&& (7 : Int32)) &&& 31))), .val (.long wd), .second, .unset, .unset, .unset, .unset] [(.int (p2 &&& (255 : Int32))), (.long wd), (.long (((own_hit wd (p2 &&& (255 : Int32)) (0 : Int32)) ||| (own_hit wd (p2 &&& (255 : Int32)) (1 : Int32))) ||| (own_hit wd (p2 &&& (255 : Int32)) (2 : Int32))))]))
  refine own_Fin.step (fun _ => XS.iconst X11.here hx rfl (hb hby at_153)) ?_
  show own_Fin p e below s _ _ _ (T11.setTop (mkF m 154 #[.val (.long q1), .second, .val (.int p2), .val (.int p3), .val (.int p4), .val (.int p5), .val (.int (p2 &&& (255 : Int32))), .val (.int ((1 : Int32) <<< ((p5 &&& (7 : Int32)) &&& 31))), .val (.long wd), .second, .unset, .unset, .unset, .unset] [(.int (3 : Int32)), (.int (p2 &&& (255 : Int32))), (.long wd), (.long (((own_hit wd (p2 &&& (255 : Int32)) (0 : Int32)) ||| (own_hit wd (p2 &&& (255 : Int32)) (1 : Int32))) ||| (own_hit wd (p2 &&& (255 : Int32)) (2 : Int32))))]))
  obtain ⟨_, T12, L12, X12, ⟨rfl, N12q, e12⟩, st12⟩ := own_callS X11 hx hZ hown (own_w hw 5 rfl) (own_w hw 6 rfl) (own_w hw 2 rfl) (own_w hw 7 rfl) (by decide) (rm2 l Z a0 hw wd (p2 &&& (255 : Int32)) (3 : Int32) h0 n0 Z0) (by decide) (by decide) e11 (W := 2) (g := (mkF m 154 #[.val (.long q1), .second, .val (.int p2), .val (.int p3), .val (.int p4), .val (.int p5), .val (.int (p2 &&& (255 : Int32))), .val (.int ((1 : Int32) <<< ((p5 &&& (7 : Int32)) &&& 31))), .val (.long wd), .second, .unset, .unset, .unset, .unset] [(.int (3 : Int32)), (.int (p2 &&& (255 : Int32))), (.long wd), (.long (((own_hit wd (p2 &&& (255 : Int32)) (0 : Int32)) ||| (own_hit wd (p2 &&& (255 : Int32)) (1 : Int32))) ||| (own_hit wd (p2 &&& (255 : Int32)) (2 : Int32))))])) rfl (by rw [hml]; rfl) (argsL := [(.long wd), (.int (p2 &&& (255 : Int32))), (.int (3 : Int32))]) (rest := [(.long (((own_hit wd (p2 &&& (255 : Int32)) (0 : Int32)) ||| (own_hit wd (p2 &&& (255 : Int32)) (1 : Int32))) ||| (own_hit wd (p2 &&& (255 : Int32)) (2 : Int32))))]) (lenOf pd_1 rfl) rfl rfl (by show 2 * 0 + _ ≤ _; exact Nat.le_of_eq rfl) (hb hby at_154) (by decide) (by decide)
  have N12 := Fr.app N11 N12q
  refine own_Fin.step st12 ?_
  show own_Fin p e below s _ _ _ (T12.setTop (mkF m 157 #[.val (.long q1), .second, .val (.int p2), .val (.int p3), .val (.int p4), .val (.int p5), .val (.int (p2 &&& (255 : Int32))), .val (.int ((1 : Int32) <<< ((p5 &&& (7 : Int32)) &&& 31))), .val (.long wd), .second, .unset, .unset, .unset, .unset] [(.long (own_hit wd (p2 &&& (255 : Int32)) (3 : Int32))), (.long (((own_hit wd (p2 &&& (255 : Int32)) (0 : Int32)) ||| (own_hit wd (p2 &&& (255 : Int32)) (1 : Int32))) ||| (own_hit wd (p2 &&& (255 : Int32)) (2 : Int32))))]))
  refine own_Fin.step (fun _ => XS.lor X12.here hx rfl (hb hby at_157) rfl) ?_
  show own_Fin p e below s _ _ _ (T12.setTop (mkF m 158 #[.val (.long q1), .second, .val (.int p2), .val (.int p3), .val (.int p4), .val (.int p5), .val (.int (p2 &&& (255 : Int32))), .val (.int ((1 : Int32) <<< ((p5 &&& (7 : Int32)) &&& 31))), .val (.long wd), .second, .unset, .unset, .unset, .unset] [(.long ((((own_hit wd (p2 &&& (255 : Int32)) (0 : Int32)) ||| (own_hit wd (p2 &&& (255 : Int32)) (1 : Int32))) ||| (own_hit wd (p2 &&& (255 : Int32)) (2 : Int32))) ||| (own_hit wd (p2 &&& (255 : Int32)) (3 : Int32))))]))
  refine own_Fin.step (fun _ => XS.lload X12.here hx rfl (hb hby at_158) rfl) ?_
  show own_Fin p e below s _ _ _ (T12.setTop (mkF m 160 #[.val (.long q1), .second, .val (.int p2), .val (.int p3), .val (.int p4), .val (.int p5), .val (.int (p2 &&& (255 : Int32))), .val (.int ((1 : Int32) <<< ((p5 &&& (7 : Int32)) &&& 31))), .val (.long wd), .second, .unset, .unset, .unset, .unset] [(.long wd), (.long ((((own_hit wd (p2 &&& (255 : Int32)) (0 : Int32)) ||| (own_hit wd (p2 &&& (255 : Int32)) (1 : Int32))) ||| (own_hit wd (p2 &&& (255 : Int32)) (2 : Int32))) ||| (own_hit wd (p2 &&& (255 : Int32)) (3 : Int32))))]))
  refine own_Fin.step (fun _ => XS.iload X12.here hx rfl (hb hby at_160) rfl) ?_
  show own_Fin p e below s _ _ _ (T12.setTop (mkF m 162 #[.val (.long q1), .second, .val (.int p2), .val (.int p3), .val (.int p4), .val (.int p5), .val (.int (p2 &&& (255 : Int32))), .val (.int ((1 : Int32) <<< ((p5 &&& (7 : Int32)) &&& 31))), .val (.long wd), .second, .unset, .unset, .unset, .unset] [(.int (p2 &&& (255 : Int32))), (.long wd), (.long ((((own_hit wd (p2 &&& (255 : Int32)) (0 : Int32)) ||| (own_hit wd (p2 &&& (255 : Int32)) (1 : Int32))) ||| (own_hit wd (p2 &&& (255 : Int32)) (2 : Int32))) ||| (own_hit wd (p2 &&& (255 : Int32)) (3 : Int32))))]))
  refine own_Fin.step (fun _ => XS.iconst X12.here hx rfl (hb hby at_162)) ?_
  show own_Fin p e below s _ _ _ (T12.setTop (mkF m 163 #[.val (.long q1), .second, .val (.int p2), .val (.int p3), .val (.int p4), .val (.int p5), .val (.int (p2 &&& (255 : Int32))), .val (.int ((1 : Int32) <<< ((p5 &&& (7 : Int32)) &&& 31))), .val (.long wd), .second, .unset, .unset, .unset, .unset] [(.int (4 : Int32)), (.int (p2 &&& (255 : Int32))), (.long wd), (.long ((((own_hit wd (p2 &&& (255 : Int32)) (0 : Int32)) ||| (own_hit wd (p2 &&& (255 : Int32)) (1 : Int32))) ||| (own_hit wd (p2 &&& (255 : Int32)) (2 : Int32))) ||| (own_hit wd (p2 &&& (255 : Int32)) (3 : Int32))))]))
  obtain ⟨_, T13, L13, X13, ⟨rfl, N13q, e13⟩, st13⟩ := own_callS X12 hx hZ hown (own_w hw 5 rfl) (own_w hw 6 rfl) (own_w hw 2 rfl) (own_w hw 7 rfl) (by decide) (rm2 l Z a0 hw wd (p2 &&& (255 : Int32)) (4 : Int32) h0 n0 Z0) (by decide) (by decide) e12 (W := 2) (g := (mkF m 163 #[.val (.long q1), .second, .val (.int p2), .val (.int p3), .val (.int p4), .val (.int p5), .val (.int (p2 &&& (255 : Int32))), .val (.int ((1 : Int32) <<< ((p5 &&& (7 : Int32)) &&& 31))), .val (.long wd), .second, .unset, .unset, .unset, .unset] [(.int (4 : Int32)), (.int (p2 &&& (255 : Int32))), (.long wd), (.long ((((own_hit wd (p2 &&& (255 : Int32)) (0 : Int32)) ||| (own_hit wd (p2 &&& (255 : Int32)) (1 : Int32))) ||| (own_hit wd (p2 &&& (255 : Int32)) (2 : Int32))) ||| (own_hit wd (p2 &&& (255 : Int32)) (3 : Int32))))])) rfl (by rw [hml]; rfl) (argsL := [(.long wd), (.int (p2 &&& (255 : Int32))), (.int (4 : Int32))]) (rest := [(.long ((((own_hit wd (p2 &&& (255 : Int32)) (0 : Int32)) ||| (own_hit wd (p2 &&& (255 : Int32)) (1 : Int32))) ||| (own_hit wd (p2 &&& (255 : Int32)) (2 : Int32))) ||| (own_hit wd (p2 &&& (255 : Int32)) (3 : Int32))))]) (lenOf pd_1 rfl) rfl rfl (by show 2 * 0 + _ ≤ _; exact Nat.le_of_eq rfl) (hb hby at_163) (by decide) (by decide)
  have N13 := Fr.app N12 N13q
  refine own_Fin.step st13 ?_
  show own_Fin p e below s _ _ _ (T13.setTop (mkF m 166 #[.val (.long q1), .second, .val (.int p2), .val (.int p3), .val (.int p4), .val (.int p5), .val (.int (p2 &&& (255 : Int32))), .val (.int ((1 : Int32) <<< ((p5 &&& (7 : Int32)) &&& 31))), .val (.long wd), .second, .unset, .unset, .unset, .unset] [(.long (own_hit wd (p2 &&& (255 : Int32)) (4 : Int32))), (.long ((((own_hit wd (p2 &&& (255 : Int32)) (0 : Int32)) ||| (own_hit wd (p2 &&& (255 : Int32)) (1 : Int32))) ||| (own_hit wd (p2 &&& (255 : Int32)) (2 : Int32))) ||| (own_hit wd (p2 &&& (255 : Int32)) (3 : Int32))))]))
  refine own_Fin.step (fun _ => XS.lor X13.here hx rfl (hb hby at_166) rfl) ?_
  show own_Fin p e below s _ _ _ (T13.setTop (mkF m 167 #[.val (.long q1), .second, .val (.int p2), .val (.int p3), .val (.int p4), .val (.int p5), .val (.int (p2 &&& (255 : Int32))), .val (.int ((1 : Int32) <<< ((p5 &&& (7 : Int32)) &&& 31))), .val (.long wd), .second, .unset, .unset, .unset, .unset] [(.long (((((own_hit wd (p2 &&& (255 : Int32)) (0 : Int32)) ||| (own_hit wd (p2 &&& (255 : Int32)) (1 : Int32))) ||| (own_hit wd (p2 &&& (255 : Int32)) (2 : Int32))) ||| (own_hit wd (p2 &&& (255 : Int32)) (3 : Int32))) ||| (own_hit wd (p2 &&& (255 : Int32)) (4 : Int32))))]))
  refine own_Fin.step (fun _ => XS.lload X13.here hx rfl (hb hby at_167) rfl) ?_
  show own_Fin p e below s _ _ _ (T13.setTop (mkF m 169 #[.val (.long q1), .second, .val (.int p2), .val (.int p3), .val (.int p4), .val (.int p5), .val (.int (p2 &&& (255 : Int32))), .val (.int ((1 : Int32) <<< ((p5 &&& (7 : Int32)) &&& 31))), .val (.long wd), .second, .unset, .unset, .unset, .unset] [(.long wd), (.long (((((own_hit wd (p2 &&& (255 : Int32)) (0 : Int32)) ||| (own_hit wd (p2 &&& (255 : Int32)) (1 : Int32))) ||| (own_hit wd (p2 &&& (255 : Int32)) (2 : Int32))) ||| (own_hit wd (p2 &&& (255 : Int32)) (3 : Int32))) ||| (own_hit wd (p2 &&& (255 : Int32)) (4 : Int32))))]))
  refine own_Fin.step (fun _ => XS.iload X13.here hx rfl (hb hby at_169) rfl) ?_
  show own_Fin p e below s _ _ _ (T13.setTop (mkF m 171 #[.val (.long q1), .second, .val (.int p2), .val (.int p3), .val (.int p4), .val (.int p5), .val (.int (p2 &&& (255 : Int32))), .val (.int ((1 : Int32) <<< ((p5 &&& (7 : Int32)) &&& 31))), .val (.long wd), .second, .unset, .unset, .unset, .unset] [(.int (p2 &&& (255 : Int32))), (.long wd), (.long (((((own_hit wd (p2 &&& (255 : Int32)) (0 : Int32)) ||| (own_hit wd (p2 &&& (255 : Int32)) (1 : Int32))) ||| (own_hit wd (p2 &&& (255 : Int32)) (2 : Int32))) ||| (own_hit wd (p2 &&& (255 : Int32)) (3 : Int32))) ||| (own_hit wd (p2 &&& (255 : Int32)) (4 : Int32))))]))
  refine own_Fin.step (fun _ => XS.iconst X13.here hx rfl (hb hby at_171)) ?_
  show own_Fin p e below s _ _ _ (T13.setTop (mkF m 172 #[.val (.long q1), .second, .val (.int p2), .val (.int p3), .val (.int p4), .val (.int p5), .val (.int (p2 &&& (255 : Int32))), .val (.int ((1 : Int32) <<< ((p5 &&& (7 : Int32)) &&& 31))), .val (.long wd), .second, .unset, .unset, .unset, .unset] [(.int (5 : Int32)), (.int (p2 &&& (255 : Int32))), (.long wd), (.long (((((own_hit wd (p2 &&& (255 : Int32)) (0 : Int32)) ||| (own_hit wd (p2 &&& (255 : Int32)) (1 : Int32))) ||| (own_hit wd (p2 &&& (255 : Int32)) (2 : Int32))) ||| (own_hit wd (p2 &&& (255 : Int32)) (3 : Int32))) ||| (own_hit wd (p2 &&& (255 : Int32)) (4 : Int32))))]))
  obtain ⟨_, T14, L14, X14, ⟨rfl, N14q, e14⟩, st14⟩ := own_callS X13 hx hZ hown (own_w hw 5 rfl) (own_w hw 6 rfl) (own_w hw 2 rfl) (own_w hw 7 rfl) (by decide) (rm2 l Z a0 hw wd (p2 &&& (255 : Int32)) (5 : Int32) h0 n0 Z0) (by decide) (by decide) e13 (W := 2) (g := (mkF m 172 #[.val (.long q1), .second, .val (.int p2), .val (.int p3), .val (.int p4), .val (.int p5), .val (.int (p2 &&& (255 : Int32))), .val (.int ((1 : Int32) <<< ((p5 &&& (7 : Int32)) &&& 31))), .val (.long wd), .second, .unset, .unset, .unset, .unset] [(.int (5 : Int32)), (.int (p2 &&& (255 : Int32))), (.long wd), (.long (((((own_hit wd (p2 &&& (255 : Int32)) (0 : Int32)) ||| (own_hit wd (p2 &&& (255 : Int32)) (1 : Int32))) ||| (own_hit wd (p2 &&& (255 : Int32)) (2 : Int32))) ||| (own_hit wd (p2 &&& (255 : Int32)) (3 : Int32))) ||| (own_hit wd (p2 &&& (255 : Int32)) (4 : Int32))))])) rfl (by rw [hml]; rfl) (argsL := [(.long wd), (.int (p2 &&& (255 : Int32))), (.int (5 : Int32))]) (rest := [(.long (((((own_hit wd (p2 &&& (255 : Int32)) (0 : Int32)) ||| (own_hit wd (p2 &&& (255 : Int32)) (1 : Int32))) ||| (own_hit wd (p2 &&& (255 : Int32)) (2 : Int32))) ||| (own_hit wd (p2 &&& (255 : Int32)) (3 : Int32))) ||| (own_hit wd (p2 &&& (255 : Int32)) (4 : Int32))))]) (lenOf pd_1 rfl) rfl rfl (by show 2 * 0 + _ ≤ _; exact Nat.le_of_eq rfl) (hb hby at_172) (by decide) (by decide)
  have N14 := Fr.app N13 N14q
  refine own_Fin.step st14 ?_
  show own_Fin p e below s _ _ _ (T14.setTop (mkF m 175 #[.val (.long q1), .second, .val (.int p2), .val (.int p3), .val (.int p4), .val (.int p5), .val (.int (p2 &&& (255 : Int32))), .val (.int ((1 : Int32) <<< ((p5 &&& (7 : Int32)) &&& 31))), .val (.long wd), .second, .unset, .unset, .unset, .unset] [(.long (own_hit wd (p2 &&& (255 : Int32)) (5 : Int32))), (.long (((((own_hit wd (p2 &&& (255 : Int32)) (0 : Int32)) ||| (own_hit wd (p2 &&& (255 : Int32)) (1 : Int32))) ||| (own_hit wd (p2 &&& (255 : Int32)) (2 : Int32))) ||| (own_hit wd (p2 &&& (255 : Int32)) (3 : Int32))) ||| (own_hit wd (p2 &&& (255 : Int32)) (4 : Int32))))]))
  refine own_Fin.step (fun _ => XS.lor X14.here hx rfl (hb hby at_175) rfl) ?_
  show own_Fin p e below s _ _ _ (T14.setTop (mkF m 176 #[.val (.long q1), .second, .val (.int p2), .val (.int p3), .val (.int p4), .val (.int p5), .val (.int (p2 &&& (255 : Int32))), .val (.int ((1 : Int32) <<< ((p5 &&& (7 : Int32)) &&& 31))), .val (.long wd), .second, .unset, .unset, .unset, .unset] [(.long ((((((own_hit wd (p2 &&& (255 : Int32)) (0 : Int32)) ||| (own_hit wd (p2 &&& (255 : Int32)) (1 : Int32))) ||| (own_hit wd (p2 &&& (255 : Int32)) (2 : Int32))) ||| (own_hit wd (p2 &&& (255 : Int32)) (3 : Int32))) ||| (own_hit wd (p2 &&& (255 : Int32)) (4 : Int32))) ||| (own_hit wd (p2 &&& (255 : Int32)) (5 : Int32))))]))
  refine own_Fin.step (fun _ => XS.lload X14.here hx rfl (hb hby at_176) rfl) ?_
  show own_Fin p e below s _ _ _ (T14.setTop (mkF m 178 #[.val (.long q1), .second, .val (.int p2), .val (.int p3), .val (.int p4), .val (.int p5), .val (.int (p2 &&& (255 : Int32))), .val (.int ((1 : Int32) <<< ((p5 &&& (7 : Int32)) &&& 31))), .val (.long wd), .second, .unset, .unset, .unset, .unset] [(.long wd), (.long ((((((own_hit wd (p2 &&& (255 : Int32)) (0 : Int32)) ||| (own_hit wd (p2 &&& (255 : Int32)) (1 : Int32))) ||| (own_hit wd (p2 &&& (255 : Int32)) (2 : Int32))) ||| (own_hit wd (p2 &&& (255 : Int32)) (3 : Int32))) ||| (own_hit wd (p2 &&& (255 : Int32)) (4 : Int32))) ||| (own_hit wd (p2 &&& (255 : Int32)) (5 : Int32))))]))
  refine own_Fin.step (fun _ => XS.iload X14.here hx rfl (hb hby at_178) rfl) ?_
  show own_Fin p e below s _ _ _ (T14.setTop (mkF m 180 #[.val (.long q1), .second, .val (.int p2), .val (.int p3), .val (.int p4), .val (.int p5), .val (.int (p2 &&& (255 : Int32))), .val (.int ((1 : Int32) <<< ((p5 &&& (7 : Int32)) &&& 31))), .val (.long wd), .second, .unset, .unset, .unset, .unset] [(.int (p2 &&& (255 : Int32))), (.long wd), (.long ((((((own_hit wd (p2 &&& (255 : Int32)) (0 : Int32)) ||| (own_hit wd (p2 &&& (255 : Int32)) (1 : Int32))) ||| (own_hit wd (p2 &&& (255 : Int32)) (2 : Int32))) ||| (own_hit wd (p2 &&& (255 : Int32)) (3 : Int32))) ||| (own_hit wd (p2 &&& (255 : Int32)) (4 : Int32))) ||| (own_hit wd (p2 &&& (255 : Int32)) (5 : Int32))))]))
  refine own_Fin.step (fun _ => XS.bipush X14.here hx rfl (hb hby at_180)) ?_
  show own_Fin p e below s _ _ _ (T14.setTop (mkF m 182 #[.val (.long q1), .second, .val (.int p2), .val (.int p3), .val (.int p4), .val (.int p5), .val (.int (p2 &&& (255 : Int32))), .val (.int ((1 : Int32) <<< ((p5 &&& (7 : Int32)) &&& 31))), .val (.long wd), .second, .unset, .unset, .unset, .unset] [(.int (6 : Int32)), (.int (p2 &&& (255 : Int32))), (.long wd), (.long ((((((own_hit wd (p2 &&& (255 : Int32)) (0 : Int32)) ||| (own_hit wd (p2 &&& (255 : Int32)) (1 : Int32))) ||| (own_hit wd (p2 &&& (255 : Int32)) (2 : Int32))) ||| (own_hit wd (p2 &&& (255 : Int32)) (3 : Int32))) ||| (own_hit wd (p2 &&& (255 : Int32)) (4 : Int32))) ||| (own_hit wd (p2 &&& (255 : Int32)) (5 : Int32))))]))
  obtain ⟨_, T15, L15, X15, ⟨rfl, N15q, e15⟩, st15⟩ := own_callS X14 hx hZ hown (own_w hw 5 rfl) (own_w hw 6 rfl) (own_w hw 2 rfl) (own_w hw 7 rfl) (by decide) (rm2 l Z a0 hw wd (p2 &&& (255 : Int32)) (6 : Int32) h0 n0 Z0) (by decide) (by decide) e14 (W := 2) (g := (mkF m 182 #[.val (.long q1), .second, .val (.int p2), .val (.int p3), .val (.int p4), .val (.int p5), .val (.int (p2 &&& (255 : Int32))), .val (.int ((1 : Int32) <<< ((p5 &&& (7 : Int32)) &&& 31))), .val (.long wd), .second, .unset, .unset, .unset, .unset] [(.int (6 : Int32)), (.int (p2 &&& (255 : Int32))), (.long wd), (.long ((((((own_hit wd (p2 &&& (255 : Int32)) (0 : Int32)) ||| (own_hit wd (p2 &&& (255 : Int32)) (1 : Int32))) ||| (own_hit wd (p2 &&& (255 : Int32)) (2 : Int32))) ||| (own_hit wd (p2 &&& (255 : Int32)) (3 : Int32))) ||| (own_hit wd (p2 &&& (255 : Int32)) (4 : Int32))) ||| (own_hit wd (p2 &&& (255 : Int32)) (5 : Int32))))])) rfl (by rw [hml]; rfl) (argsL := [(.long wd), (.int (p2 &&& (255 : Int32))), (.int (6 : Int32))]) (rest := [(.long ((((((own_hit wd (p2 &&& (255 : Int32)) (0 : Int32)) ||| (own_hit wd (p2 &&& (255 : Int32)) (1 : Int32))) ||| (own_hit wd (p2 &&& (255 : Int32)) (2 : Int32))) ||| (own_hit wd (p2 &&& (255 : Int32)) (3 : Int32))) ||| (own_hit wd (p2 &&& (255 : Int32)) (4 : Int32))) ||| (own_hit wd (p2 &&& (255 : Int32)) (5 : Int32))))]) (lenOf pd_1 rfl) rfl rfl (by show 2 * 0 + _ ≤ _; exact Nat.le_of_eq rfl) (hb hby at_182) (by decide) (by decide)
  have N15 := Fr.app N14 N15q
  refine own_Fin.step st15 ?_
  show own_Fin p e below s _ _ _ (T15.setTop (mkF m 185 #[.val (.long q1), .second, .val (.int p2), .val (.int p3), .val (.int p4), .val (.int p5), .val (.int (p2 &&& (255 : Int32))), .val (.int ((1 : Int32) <<< ((p5 &&& (7 : Int32)) &&& 31))), .val (.long wd), .second, .unset, .unset, .unset, .unset] [(.long (own_hit wd (p2 &&& (255 : Int32)) (6 : Int32))), (.long ((((((own_hit wd (p2 &&& (255 : Int32)) (0 : Int32)) ||| (own_hit wd (p2 &&& (255 : Int32)) (1 : Int32))) ||| (own_hit wd (p2 &&& (255 : Int32)) (2 : Int32))) ||| (own_hit wd (p2 &&& (255 : Int32)) (3 : Int32))) ||| (own_hit wd (p2 &&& (255 : Int32)) (4 : Int32))) ||| (own_hit wd (p2 &&& (255 : Int32)) (5 : Int32))))]))
  refine own_Fin.step (fun _ => XS.lor X15.here hx rfl (hb hby at_185) rfl) ?_
  show own_Fin p e below s _ _ _ (T15.setTop (mkF m 186 #[.val (.long q1), .second, .val (.int p2), .val (.int p3), .val (.int p4), .val (.int p5), .val (.int (p2 &&& (255 : Int32))), .val (.int ((1 : Int32) <<< ((p5 &&& (7 : Int32)) &&& 31))), .val (.long wd), .second, .unset, .unset, .unset, .unset] [(.long (((((((own_hit wd (p2 &&& (255 : Int32)) (0 : Int32)) ||| (own_hit wd (p2 &&& (255 : Int32)) (1 : Int32))) ||| (own_hit wd (p2 &&& (255 : Int32)) (2 : Int32))) ||| (own_hit wd (p2 &&& (255 : Int32)) (3 : Int32))) ||| (own_hit wd (p2 &&& (255 : Int32)) (4 : Int32))) ||| (own_hit wd (p2 &&& (255 : Int32)) (5 : Int32))) ||| (own_hit wd (p2 &&& (255 : Int32)) (6 : Int32))))]))
  refine own_Fin.step (fun _ => XS.lload X15.here hx rfl (hb hby at_186) rfl) ?_
  show own_Fin p e below s _ _ _ (T15.setTop (mkF m 188 #[.val (.long q1), .second, .val (.int p2), .val (.int p3), .val (.int p4), .val (.int p5), .val (.int (p2 &&& (255 : Int32))), .val (.int ((1 : Int32) <<< ((p5 &&& (7 : Int32)) &&& 31))), .val (.long wd), .second, .unset, .unset, .unset, .unset] [(.long wd), (.long (((((((own_hit wd (p2 &&& (255 : Int32)) (0 : Int32)) ||| (own_hit wd (p2 &&& (255 : Int32)) (1 : Int32))) ||| (own_hit wd (p2 &&& (255 : Int32)) (2 : Int32))) ||| (own_hit wd (p2 &&& (255 : Int32)) (3 : Int32))) ||| (own_hit wd (p2 &&& (255 : Int32)) (4 : Int32))) ||| (own_hit wd (p2 &&& (255 : Int32)) (5 : Int32))) ||| (own_hit wd (p2 &&& (255 : Int32)) (6 : Int32))))]))
  refine own_Fin.step (fun _ => XS.iload X15.here hx rfl (hb hby at_188) rfl) ?_
  show own_Fin p e below s _ _ _ (T15.setTop (mkF m 190 #[.val (.long q1), .second, .val (.int p2), .val (.int p3), .val (.int p4), .val (.int p5), .val (.int (p2 &&& (255 : Int32))), .val (.int ((1 : Int32) <<< ((p5 &&& (7 : Int32)) &&& 31))), .val (.long wd), .second, .unset, .unset, .unset, .unset] [(.int (p2 &&& (255 : Int32))), (.long wd), (.long (((((((own_hit wd (p2 &&& (255 : Int32)) (0 : Int32)) ||| (own_hit wd (p2 &&& (255 : Int32)) (1 : Int32))) ||| (own_hit wd (p2 &&& (255 : Int32)) (2 : Int32))) ||| (own_hit wd (p2 &&& (255 : Int32)) (3 : Int32))) ||| (own_hit wd (p2 &&& (255 : Int32)) (4 : Int32))) ||| (own_hit wd (p2 &&& (255 : Int32)) (5 : Int32))) ||| (own_hit wd (p2 &&& (255 : Int32)) (6 : Int32))))]))
  refine own_Fin.step (fun _ => XS.bipush X15.here hx rfl (hb hby at_190)) ?_
  show own_Fin p e below s _ _ _ (T15.setTop (mkF m 192 #[.val (.long q1), .second, .val (.int p2), .val (.int p3), .val (.int p4), .val (.int p5), .val (.int (p2 &&& (255 : Int32))), .val (.int ((1 : Int32) <<< ((p5 &&& (7 : Int32)) &&& 31))), .val (.long wd), .second, .unset, .unset, .unset, .unset] [(.int (7 : Int32)), (.int (p2 &&& (255 : Int32))), (.long wd), (.long (((((((own_hit wd (p2 &&& (255 : Int32)) (0 : Int32)) ||| (own_hit wd (p2 &&& (255 : Int32)) (1 : Int32))) ||| (own_hit wd (p2 &&& (255 : Int32)) (2 : Int32))) ||| (own_hit wd (p2 &&& (255 : Int32)) (3 : Int32))) ||| (own_hit wd (p2 &&& (255 : Int32)) (4 : Int32))) ||| (own_hit wd (p2 &&& (255 : Int32)) (5 : Int32))) ||| (own_hit wd (p2 &&& (255 : Int32)) (6 : Int32))))]))
  obtain ⟨_, T16, L16, X16, ⟨rfl, N16q, e16⟩, st16⟩ := own_callS X15 hx hZ hown (own_w hw 5 rfl) (own_w hw 6 rfl) (own_w hw 2 rfl) (own_w hw 7 rfl) (by decide) (rm2 l Z a0 hw wd (p2 &&& (255 : Int32)) (7 : Int32) h0 n0 Z0) (by decide) (by decide) e15 (W := 2) (g := (mkF m 192 #[.val (.long q1), .second, .val (.int p2), .val (.int p3), .val (.int p4), .val (.int p5), .val (.int (p2 &&& (255 : Int32))), .val (.int ((1 : Int32) <<< ((p5 &&& (7 : Int32)) &&& 31))), .val (.long wd), .second, .unset, .unset, .unset, .unset] [(.int (7 : Int32)), (.int (p2 &&& (255 : Int32))), (.long wd), (.long (((((((own_hit wd (p2 &&& (255 : Int32)) (0 : Int32)) ||| (own_hit wd (p2 &&& (255 : Int32)) (1 : Int32))) ||| (own_hit wd (p2 &&& (255 : Int32)) (2 : Int32))) ||| (own_hit wd (p2 &&& (255 : Int32)) (3 : Int32))) ||| (own_hit wd (p2 &&& (255 : Int32)) (4 : Int32))) ||| (own_hit wd (p2 &&& (255 : Int32)) (5 : Int32))) ||| (own_hit wd (p2 &&& (255 : Int32)) (6 : Int32))))])) rfl (by rw [hml]; rfl) (argsL := [(.long wd), (.int (p2 &&& (255 : Int32))), (.int (7 : Int32))]) (rest := [(.long (((((((own_hit wd (p2 &&& (255 : Int32)) (0 : Int32)) ||| (own_hit wd (p2 &&& (255 : Int32)) (1 : Int32))) ||| (own_hit wd (p2 &&& (255 : Int32)) (2 : Int32))) ||| (own_hit wd (p2 &&& (255 : Int32)) (3 : Int32))) ||| (own_hit wd (p2 &&& (255 : Int32)) (4 : Int32))) ||| (own_hit wd (p2 &&& (255 : Int32)) (5 : Int32))) ||| (own_hit wd (p2 &&& (255 : Int32)) (6 : Int32))))]) (lenOf pd_1 rfl) rfl rfl (by show 2 * 0 + _ ≤ _; exact Nat.le_of_eq rfl) (hb hby at_192) (by decide) (by decide)
  have N16 := Fr.app N15 N16q
  refine own_Fin.step st16 ?_
  show own_Fin p e below s _ _ _ (T16.setTop (mkF m 195 #[.val (.long q1), .second, .val (.int p2), .val (.int p3), .val (.int p4), .val (.int p5), .val (.int (p2 &&& (255 : Int32))), .val (.int ((1 : Int32) <<< ((p5 &&& (7 : Int32)) &&& 31))), .val (.long wd), .second, .unset, .unset, .unset, .unset] [(.long (own_hit wd (p2 &&& (255 : Int32)) (7 : Int32))), (.long (((((((own_hit wd (p2 &&& (255 : Int32)) (0 : Int32)) ||| (own_hit wd (p2 &&& (255 : Int32)) (1 : Int32))) ||| (own_hit wd (p2 &&& (255 : Int32)) (2 : Int32))) ||| (own_hit wd (p2 &&& (255 : Int32)) (3 : Int32))) ||| (own_hit wd (p2 &&& (255 : Int32)) (4 : Int32))) ||| (own_hit wd (p2 &&& (255 : Int32)) (5 : Int32))) ||| (own_hit wd (p2 &&& (255 : Int32)) (6 : Int32))))]))
  refine own_Fin.step (fun _ => XS.lor X16.here hx rfl (hb hby at_195) rfl) ?_
  show own_Fin p e below s _ _ _ (T16.setTop (mkF m 196 #[.val (.long q1), .second, .val (.int p2), .val (.int p3), .val (.int p4), .val (.int p5), .val (.int (p2 &&& (255 : Int32))), .val (.int ((1 : Int32) <<< ((p5 &&& (7 : Int32)) &&& 31))), .val (.long wd), .second, .unset, .unset, .unset, .unset] [(.long ((((((((own_hit wd (p2 &&& (255 : Int32)) (0 : Int32)) ||| (own_hit wd (p2 &&& (255 : Int32)) (1 : Int32))) ||| (own_hit wd (p2 &&& (255 : Int32)) (2 : Int32))) ||| (own_hit wd (p2 &&& (255 : Int32)) (3 : Int32))) ||| (own_hit wd (p2 &&& (255 : Int32)) (4 : Int32))) ||| (own_hit wd (p2 &&& (255 : Int32)) (5 : Int32))) ||| (own_hit wd (p2 &&& (255 : Int32)) (6 : Int32))) ||| (own_hit wd (p2 &&& (255 : Int32)) (7 : Int32))))]))
  refine own_Fin.step (fun _ => XS.lstore X16.here hx rfl (hb hby at_196) rfl (l' := #[.val (.long q1), .second, .val (.int p2), .val (.int p3), .val (.int p4), .val (.int p5), .val (.int (p2 &&& (255 : Int32))), .val (.int ((1 : Int32) <<< ((p5 &&& (7 : Int32)) &&& 31))), .val (.long wd), .second, .val (.long ((((((((own_hit wd (p2 &&& (255 : Int32)) (0 : Int32)) ||| (own_hit wd (p2 &&& (255 : Int32)) (1 : Int32))) ||| (own_hit wd (p2 &&& (255 : Int32)) (2 : Int32))) ||| (own_hit wd (p2 &&& (255 : Int32)) (3 : Int32))) ||| (own_hit wd (p2 &&& (255 : Int32)) (4 : Int32))) ||| (own_hit wd (p2 &&& (255 : Int32)) (5 : Int32))) ||| (own_hit wd (p2 &&& (255 : Int32)) (6 : Int32))) ||| (own_hit wd (p2 &&& (255 : Int32)) (7 : Int32)))), .second, .unset, .unset]) rfl) ?_
  show own_Fin p e below s _ _ _ (T16.setTop (mkF m 198 #[.val (.long q1), .second, .val (.int p2), .val (.int p3), .val (.int p4), .val (.int p5), .val (.int (p2 &&& (255 : Int32))), .val (.int ((1 : Int32) <<< ((p5 &&& (7 : Int32)) &&& 31))), .val (.long wd), .second, .val (.long ((((((((own_hit wd (p2 &&& (255 : Int32)) (0 : Int32)) ||| (own_hit wd (p2 &&& (255 : Int32)) (1 : Int32))) ||| (own_hit wd (p2 &&& (255 : Int32)) (2 : Int32))) ||| (own_hit wd (p2 &&& (255 : Int32)) (3 : Int32))) ||| (own_hit wd (p2 &&& (255 : Int32)) (4 : Int32))) ||| (own_hit wd (p2 &&& (255 : Int32)) (5 : Int32))) ||| (own_hit wd (p2 &&& (255 : Int32)) (6 : Int32))) ||| (own_hit wd (p2 &&& (255 : Int32)) (7 : Int32)))), .second, .unset, .unset] []))
  refine own_Fin.step (fun _ => XS.lload X16.here hx rfl (hb hby at_198) rfl) ?_
  show own_Fin p e below s _ _ _ (T16.setTop (mkF m 200 #[.val (.long q1), .second, .val (.int p2), .val (.int p3), .val (.int p4), .val (.int p5), .val (.int (p2 &&& (255 : Int32))), .val (.int ((1 : Int32) <<< ((p5 &&& (7 : Int32)) &&& 31))), .val (.long wd), .second, .val (.long ((((((((own_hit wd (p2 &&& (255 : Int32)) (0 : Int32)) ||| (own_hit wd (p2 &&& (255 : Int32)) (1 : Int32))) ||| (own_hit wd (p2 &&& (255 : Int32)) (2 : Int32))) ||| (own_hit wd (p2 &&& (255 : Int32)) (3 : Int32))) ||| (own_hit wd (p2 &&& (255 : Int32)) (4 : Int32))) ||| (own_hit wd (p2 &&& (255 : Int32)) (5 : Int32))) ||| (own_hit wd (p2 &&& (255 : Int32)) (6 : Int32))) ||| (own_hit wd (p2 &&& (255 : Int32)) (7 : Int32)))), .second, .unset, .unset] [(.long wd)]))
  refine own_Fin.step (fun _ => XS.iloadN X16.here hx rfl (hb hby at_200) rfl) ?_
  show own_Fin p e below s _ _ _ (T16.setTop (mkF m 201 #[.val (.long q1), .second, .val (.int p2), .val (.int p3), .val (.int p4), .val (.int p5), .val (.int (p2 &&& (255 : Int32))), .val (.int ((1 : Int32) <<< ((p5 &&& (7 : Int32)) &&& 31))), .val (.long wd), .second, .val (.long ((((((((own_hit wd (p2 &&& (255 : Int32)) (0 : Int32)) ||| (own_hit wd (p2 &&& (255 : Int32)) (1 : Int32))) ||| (own_hit wd (p2 &&& (255 : Int32)) (2 : Int32))) ||| (own_hit wd (p2 &&& (255 : Int32)) (3 : Int32))) ||| (own_hit wd (p2 &&& (255 : Int32)) (4 : Int32))) ||| (own_hit wd (p2 &&& (255 : Int32)) (5 : Int32))) ||| (own_hit wd (p2 &&& (255 : Int32)) (6 : Int32))) ||| (own_hit wd (p2 &&& (255 : Int32)) (7 : Int32)))), .second, .unset, .unset] [(.int p2), (.long wd)]))
  refine own_Fin.step (fun _ => XS.i2b X16.here hx rfl (hb hby at_201) rfl) ?_
  show own_Fin p e below s _ _ _ (T16.setTop (mkF m 202 #[.val (.long q1), .second, .val (.int p2), .val (.int p3), .val (.int p4), .val (.int p5), .val (.int (p2 &&& (255 : Int32))), .val (.int ((1 : Int32) <<< ((p5 &&& (7 : Int32)) &&& 31))), .val (.long wd), .second, .val (.long ((((((((own_hit wd (p2 &&& (255 : Int32)) (0 : Int32)) ||| (own_hit wd (p2 &&& (255 : Int32)) (1 : Int32))) ||| (own_hit wd (p2 &&& (255 : Int32)) (2 : Int32))) ||| (own_hit wd (p2 &&& (255 : Int32)) (3 : Int32))) ||| (own_hit wd (p2 &&& (255 : Int32)) (4 : Int32))) ||| (own_hit wd (p2 &&& (255 : Int32)) (5 : Int32))) ||| (own_hit wd (p2 &&& (255 : Int32)) (6 : Int32))) ||| (own_hit wd (p2 &&& (255 : Int32)) (7 : Int32)))), .second, .unset, .unset] [(.int (p2.toInt8.toInt32)), (.long wd)]))
  obtain ⟨_, T17, L17, X17, ⟨rfl, N17q, e17⟩, st17⟩ := own_callS X16 hx hZ hown (own_w hw 9 rfl) (own_w hw 10 rfl) (own_w hw 11 rfl) (own_w hw 12 rfl) (by decide) (rm3 l Z a0 hw wd (p2.toInt8.toInt32) h0 n0 Z0) (by decide) (by decide) e16 (W := 0) (g := (mkF m 202 #[.val (.long q1), .second, .val (.int p2), .val (.int p3), .val (.int p4), .val (.int p5), .val (.int (p2 &&& (255 : Int32))), .val (.int ((1 : Int32) <<< ((p5 &&& (7 : Int32)) &&& 31))), .val (.long wd), .second, .val (.long ((((((((own_hit wd (p2 &&& (255 : Int32)) (0 : Int32)) ||| (own_hit wd (p2 &&& (255 : Int32)) (1 : Int32))) ||| (own_hit wd (p2 &&& (255 : Int32)) (2 : Int32))) ||| (own_hit wd (p2 &&& (255 : Int32)) (3 : Int32))) ||| (own_hit wd (p2 &&& (255 : Int32)) (4 : Int32))) ||| (own_hit wd (p2 &&& (255 : Int32)) (5 : Int32))) ||| (own_hit wd (p2 &&& (255 : Int32)) (6 : Int32))) ||| (own_hit wd (p2 &&& (255 : Int32)) (7 : Int32)))), .second, .unset, .unset] [(.int (p2.toInt8.toInt32)), (.long wd)])) rfl (by rw [hml]; rfl) (argsL := [(.long wd), (.int (p2.toInt8.toInt32))]) (rest := []) (lenOf pd_2 rfl) rfl rfl (by show 2 * 0 + _ ≤ _; exact Nat.le_of_eq rfl) (hb hby at_202) (by decide) (by decide)
  have N17 := Fr.app N16 N17q
  refine own_Fin.step st17 ?_
  show own_Fin p e below s _ _ _ (T17.setTop (mkF m 205 #[.val (.long q1), .second, .val (.int p2), .val (.int p3), .val (.int p4), .val (.int p5), .val (.int (p2 &&& (255 : Int32))), .val (.int ((1 : Int32) <<< ((p5 &&& (7 : Int32)) &&& 31))), .val (.long wd), .second, .val (.long ((((((((own_hit wd (p2 &&& (255 : Int32)) (0 : Int32)) ||| (own_hit wd (p2 &&& (255 : Int32)) (1 : Int32))) ||| (own_hit wd (p2 &&& (255 : Int32)) (2 : Int32))) ||| (own_hit wd (p2 &&& (255 : Int32)) (3 : Int32))) ||| (own_hit wd (p2 &&& (255 : Int32)) (4 : Int32))) ||| (own_hit wd (p2 &&& (255 : Int32)) (5 : Int32))) ||| (own_hit wd (p2 &&& (255 : Int32)) (6 : Int32))) ||| (own_hit wd (p2 &&& (255 : Int32)) (7 : Int32)))), .second, .unset, .unset] [(.long (own_eqt wd (p2.toInt8.toInt32)))]))
  refine own_Fin.step (fun _ => XS.lstore X17.here hx rfl (hb hby at_205) rfl (l' := #[.val (.long q1), .second, .val (.int p2), .val (.int p3), .val (.int p4), .val (.int p5), .val (.int (p2 &&& (255 : Int32))), .val (.int ((1 : Int32) <<< ((p5 &&& (7 : Int32)) &&& 31))), .val (.long wd), .second, .val (.long ((((((((own_hit wd (p2 &&& (255 : Int32)) (0 : Int32)) ||| (own_hit wd (p2 &&& (255 : Int32)) (1 : Int32))) ||| (own_hit wd (p2 &&& (255 : Int32)) (2 : Int32))) ||| (own_hit wd (p2 &&& (255 : Int32)) (3 : Int32))) ||| (own_hit wd (p2 &&& (255 : Int32)) (4 : Int32))) ||| (own_hit wd (p2 &&& (255 : Int32)) (5 : Int32))) ||| (own_hit wd (p2 &&& (255 : Int32)) (6 : Int32))) ||| (own_hit wd (p2 &&& (255 : Int32)) (7 : Int32)))), .second, .val (.long (own_eqt wd (p2.toInt8.toInt32))), .second]) rfl) ?_
  show own_Fin p e below s _ _ _ (T17.setTop (mkF m 207 #[.val (.long q1), .second, .val (.int p2), .val (.int p3), .val (.int p4), .val (.int p5), .val (.int (p2 &&& (255 : Int32))), .val (.int ((1 : Int32) <<< ((p5 &&& (7 : Int32)) &&& 31))), .val (.long wd), .second, .val (.long ((((((((own_hit wd (p2 &&& (255 : Int32)) (0 : Int32)) ||| (own_hit wd (p2 &&& (255 : Int32)) (1 : Int32))) ||| (own_hit wd (p2 &&& (255 : Int32)) (2 : Int32))) ||| (own_hit wd (p2 &&& (255 : Int32)) (3 : Int32))) ||| (own_hit wd (p2 &&& (255 : Int32)) (4 : Int32))) ||| (own_hit wd (p2 &&& (255 : Int32)) (5 : Int32))) ||| (own_hit wd (p2 &&& (255 : Int32)) (6 : Int32))) ||| (own_hit wd (p2 &&& (255 : Int32)) (7 : Int32)))), .second, .val (.long (own_eqt wd (p2.toInt8.toInt32))), .second] []))
  refine own_Fin.step (fun _ => XS.lload X17.here hx rfl (hb hby at_207) rfl) ?_
  show own_Fin p e below s _ _ _ (T17.setTop (mkF m 209 #[.val (.long q1), .second, .val (.int p2), .val (.int p3), .val (.int p4), .val (.int p5), .val (.int (p2 &&& (255 : Int32))), .val (.int ((1 : Int32) <<< ((p5 &&& (7 : Int32)) &&& 31))), .val (.long wd), .second, .val (.long ((((((((own_hit wd (p2 &&& (255 : Int32)) (0 : Int32)) ||| (own_hit wd (p2 &&& (255 : Int32)) (1 : Int32))) ||| (own_hit wd (p2 &&& (255 : Int32)) (2 : Int32))) ||| (own_hit wd (p2 &&& (255 : Int32)) (3 : Int32))) ||| (own_hit wd (p2 &&& (255 : Int32)) (4 : Int32))) ||| (own_hit wd (p2 &&& (255 : Int32)) (5 : Int32))) ||| (own_hit wd (p2 &&& (255 : Int32)) (6 : Int32))) ||| (own_hit wd (p2 &&& (255 : Int32)) (7 : Int32)))), .second, .val (.long (own_eqt wd (p2.toInt8.toInt32))), .second] [(.long (own_eqt wd (p2.toInt8.toInt32)))]))
  refine own_Fin.step (fun _ => XS.lload X17.here hx rfl (hb hby at_209) rfl) ?_
  show own_Fin p e below s _ _ _ (T17.setTop (mkF m 211 #[.val (.long q1), .second, .val (.int p2), .val (.int p3), .val (.int p4), .val (.int p5), .val (.int (p2 &&& (255 : Int32))), .val (.int ((1 : Int32) <<< ((p5 &&& (7 : Int32)) &&& 31))), .val (.long wd), .second, .val (.long ((((((((own_hit wd (p2 &&& (255 : Int32)) (0 : Int32)) ||| (own_hit wd (p2 &&& (255 : Int32)) (1 : Int32))) ||| (own_hit wd (p2 &&& (255 : Int32)) (2 : Int32))) ||| (own_hit wd (p2 &&& (255 : Int32)) (3 : Int32))) ||| (own_hit wd (p2 &&& (255 : Int32)) (4 : Int32))) ||| (own_hit wd (p2 &&& (255 : Int32)) (5 : Int32))) ||| (own_hit wd (p2 &&& (255 : Int32)) (6 : Int32))) ||| (own_hit wd (p2 &&& (255 : Int32)) (7 : Int32)))), .second, .val (.long (own_eqt wd (p2.toInt8.toInt32))), .second] [(.long ((((((((own_hit wd (p2 &&& (255 : Int32)) (0 : Int32)) ||| (own_hit wd (p2 &&& (255 : Int32)) (1 : Int32))) ||| (own_hit wd (p2 &&& (255 : Int32)) (2 : Int32))) ||| (own_hit wd (p2 &&& (255 : Int32)) (3 : Int32))) ||| (own_hit wd (p2 &&& (255 : Int32)) (4 : Int32))) ||| (own_hit wd (p2 &&& (255 : Int32)) (5 : Int32))) ||| (own_hit wd (p2 &&& (255 : Int32)) (6 : Int32))) ||| (own_hit wd (p2 &&& (255 : Int32)) (7 : Int32)))), (.long (own_eqt wd (p2.toInt8.toInt32)))]))
  refine own_Fin.step (fun _ => XS.lcmp X17.here hx rfl (hb hby at_211) rfl) ?_
  show own_Fin p e below s _ _ _ (T17.setTop (mkF m 212 #[.val (.long q1), .second, .val (.int p2), .val (.int p3), .val (.int p4), .val (.int p5), .val (.int (p2 &&& (255 : Int32))), .val (.int ((1 : Int32) <<< ((p5 &&& (7 : Int32)) &&& 31))), .val (.long wd), .second, .val (.long ((((((((own_hit wd (p2 &&& (255 : Int32)) (0 : Int32)) ||| (own_hit wd (p2 &&& (255 : Int32)) (1 : Int32))) ||| (own_hit wd (p2 &&& (255 : Int32)) (2 : Int32))) ||| (own_hit wd (p2 &&& (255 : Int32)) (3 : Int32))) ||| (own_hit wd (p2 &&& (255 : Int32)) (4 : Int32))) ||| (own_hit wd (p2 &&& (255 : Int32)) (5 : Int32))) ||| (own_hit wd (p2 &&& (255 : Int32)) (6 : Int32))) ||| (own_hit wd (p2 &&& (255 : Int32)) (7 : Int32)))), .second, .val (.long (own_eqt wd (p2.toInt8.toInt32))), .second] [(.int (XT.cmpL (own_eqt wd (p2.toInt8.toInt32)) ((((((((own_hit wd (p2 &&& (255 : Int32)) (0 : Int32)) ||| (own_hit wd (p2 &&& (255 : Int32)) (1 : Int32))) ||| (own_hit wd (p2 &&& (255 : Int32)) (2 : Int32))) ||| (own_hit wd (p2 &&& (255 : Int32)) (3 : Int32))) ||| (own_hit wd (p2 &&& (255 : Int32)) (4 : Int32))) ||| (own_hit wd (p2 &&& (255 : Int32)) (5 : Int32))) ||| (own_hit wd (p2 &&& (255 : Int32)) (6 : Int32))) ||| (own_hit wd (p2 &&& (255 : Int32)) (7 : Int32)))))]))
  refine own_Fin.step (fun _ => XS.ifNo X17.here hx rfl (hb hby at_212) rfl (XT.ll_ne_f (own_law wd p2))) ?_
  show own_Fin p e below s _ _ _ (T17.setTop (mkF m 215 #[.val (.long q1), .second, .val (.int p2), .val (.int p3), .val (.int p4), .val (.int p5), .val (.int (p2 &&& (255 : Int32))), .val (.int ((1 : Int32) <<< ((p5 &&& (7 : Int32)) &&& 31))), .val (.long wd), .second, .val (.long ((((((((own_hit wd (p2 &&& (255 : Int32)) (0 : Int32)) ||| (own_hit wd (p2 &&& (255 : Int32)) (1 : Int32))) ||| (own_hit wd (p2 &&& (255 : Int32)) (2 : Int32))) ||| (own_hit wd (p2 &&& (255 : Int32)) (3 : Int32))) ||| (own_hit wd (p2 &&& (255 : Int32)) (4 : Int32))) ||| (own_hit wd (p2 &&& (255 : Int32)) (5 : Int32))) ||| (own_hit wd (p2 &&& (255 : Int32)) (6 : Int32))) ||| (own_hit wd (p2 &&& (255 : Int32)) (7 : Int32)))), .second, .val (.long (own_eqt wd (p2.toInt8.toInt32))), .second] []))
  refine own_Fin.step (fun _ => XS.iconst X17.here hx rfl (hb hby at_215)) ?_
  show own_Fin p e below s _ _ _ (T17.setTop (mkF m 216 #[.val (.long q1), .second, .val (.int p2), .val (.int p3), .val (.int p4), .val (.int p5), .val (.int (p2 &&& (255 : Int32))), .val (.int ((1 : Int32) <<< ((p5 &&& (7 : Int32)) &&& 31))), .val (.long wd), .second, .val (.long ((((((((own_hit wd (p2 &&& (255 : Int32)) (0 : Int32)) ||| (own_hit wd (p2 &&& (255 : Int32)) (1 : Int32))) ||| (own_hit wd (p2 &&& (255 : Int32)) (2 : Int32))) ||| (own_hit wd (p2 &&& (255 : Int32)) (3 : Int32))) ||| (own_hit wd (p2 &&& (255 : Int32)) (4 : Int32))) ||| (own_hit wd (p2 &&& (255 : Int32)) (5 : Int32))) ||| (own_hit wd (p2 &&& (255 : Int32)) (6 : Int32))) ||| (own_hit wd (p2 &&& (255 : Int32)) (7 : Int32)))), .second, .val (.long (own_eqt wd (p2.toInt8.toInt32))), .second] [(.int (1 : Int32))]))
  refine own_Fin.step (fun _ => XS.goto X17.here hx rfl (pc0 := 216) (pc' := 220) rfl (hb hby at_216) (by decide) (by decide)) ?_
  show own_Fin p e below s _ _ _ (T17.setTop (mkF m 220 #[.val (.long q1), .second, .val (.int p2), .val (.int p3), .val (.int p4), .val (.int p5), .val (.int (p2 &&& (255 : Int32))), .val (.int ((1 : Int32) <<< ((p5 &&& (7 : Int32)) &&& 31))), .val (.long wd), .second, .val (.long ((((((((own_hit wd (p2 &&& (255 : Int32)) (0 : Int32)) ||| (own_hit wd (p2 &&& (255 : Int32)) (1 : Int32))) ||| (own_hit wd (p2 &&& (255 : Int32)) (2 : Int32))) ||| (own_hit wd (p2 &&& (255 : Int32)) (3 : Int32))) ||| (own_hit wd (p2 &&& (255 : Int32)) (4 : Int32))) ||| (own_hit wd (p2 &&& (255 : Int32)) (5 : Int32))) ||| (own_hit wd (p2 &&& (255 : Int32)) (6 : Int32))) ||| (own_hit wd (p2 &&& (255 : Int32)) (7 : Int32)))), .second, .val (.long (own_eqt wd (p2.toInt8.toInt32))), .second] [(.int (1 : Int32))]))
  exact own_retN X17 hx hlk (t := .boolean) hret (by simp) (hb hby at_220) ⟨rfl, N17⟩ (by decide) (by decide)
set_option maxRecDepth 65536 in
set_option maxHeartbeats 40000000 in
theorem comes_1 {Post : Tables → Env → Array Value → State → Outcome → State → Prop} (hpost : ∀ tb e args s v u, (limb_1_1.after args s (.returned v) u = true ∧ limb_1_2.after args s (.returned v) u = true ∧ True) → FrameEnd s (.returned v) u (Jvm.fieldLocs frame_1_writes args s ++ Jvm.arrayLocs frame_1_arrays args s ++ Jvm.staticLocs frame_1_statics s) 0 0 → Post tb e args s (.returned v) u) :
    ArmFor flags0 classFile x code maxLocals ret World_1 tables_1 room_1 Calls_1 rest_1 Pre_1 Post := by
  intro l hfl _ _ p e ha hc hk s m args below hf hA hF happ hP
  obtain ⟨hcalls, hrest, hpre⟩ := hP
  obtain ⟨-, -, -, hnamed, -, -, -, hat⟩ := (Spec.applies_iff hf).mp happ
  obtain ⟨hg, hn⟩ := and_e (Cond.before_iff.mp (show (Jvm.Cond.and given_1 narrow_1).before args s = true from hpre))
  obtain ⟨hcount, g0⟩ := and_e hg
  obtain ⟨a0, g1⟩ := and_e g0
  obtain ⟨a1, g2⟩ := and_e g1
  obtain ⟨a2, g3⟩ := and_e g2
  obtain ⟨a3, g4⟩ := and_e g3
  have a4 := g4
  obtain ⟨w0, w1, w2, w3, w4, rfl⟩ : ∃ w0 w1 w2 w3 w4 : Value, args = #[w0, w1, w2, w3, w4] := by
    have hs : args.size = 5 := by simpa [Cond.value, given_1] using hcount
    obtain ⟨L⟩ := args
    match L, hs with
    | [w0, w1, w2, w3, w4], _ => exact ⟨w0, w1, w2, w3, w4, rfl⟩
  have hw := fun d (hd : d ∈ tables_1) => atoms_spec (ws := Jvm.Cond.code x code maxLocals ret :: tables_1) hat d (List.mem_cons_of_mem _ hd)
  obtain ⟨i0, ei0⟩ := isL_v a0
  obtain rfl : w0 = (.long i0) := Option.some.inj ei0
  obtain ⟨i1, ei1⟩ := is_v a1
  obtain rfl : w1 = (.int i1) := Option.some.inj ei1
  obtain ⟨i2, ei2⟩ := is_v a2
  obtain rfl : w2 = (.int i2) := Option.some.inj ei2
  obtain ⟨i3, ei3⟩ := is_v a3
  obtain rfl : w3 = (.int i3) := Option.some.inj ei3
  obtain ⟨i4, ei4⟩ := is_v a4
  obtain rfl : w4 = (.int i4) := Option.some.inj ei4
  obtain ⟨n, o, h1, h2, h3, _, L, rfl, ⟨rfl, N⟩, hq⟩ := rm0 l s _ hw i0 i1 i2 i3 i4 s.heap s.heap.size (Nat.le_refl _)  p e ha hc hk s m _ below hf ((Spec.applies_iff_loose hf).mp happ).1 ⟨rfl, State.Warmed39.refl s, rfl⟩ trivial
  refine ⟨n, _, h1, h2, h3, hpost _ _ _ _ _ _ ⟨Cond.after_iff.mpr rfl, Cond.after_iff.mpr (eq_i res_at (Term.int_eval (1)) rfl), trivial⟩ ⟨hq.1, hq.2.1, (hq.2.2.sift fun y hy => Or.inr (N y hy)).mono (by decide) (by decide)⟩⟩
theorem main_1_1 : Claimed_1_1 := comes_1 fun _ _ _ _ _ _ h hF => ⟨h.1, hF⟩
theorem main_1_2 : Claimed_1_2 := comes_1 fun _ _ _ _ _ _ h hF => ⟨h.2.1, hF⟩
end Jvm.Pilot.@@N@@
namespace Jvm.Pilot.@@N@@
open Jvm Jvm.ClassFile Sem Op Lib Jvm.Free Jvm.Stand Jvm.Pilot.@@N@@.Jvm.D
/-! MADE BY PROGRAM (witnessworld.py) out of the Statement's table words and the real class files: 9 classes; the members and pool entries that the words name. The judged class is class 1, her method 3. -/
namespace start1
open Jvm.ClassFile
def u (s : String) : CpInfo := .utf8 (stringToUtf16 s)
/-- a pool by its gaps: so many unusable entries, then the entry; so many at the end -/
def gap : Nat → List CpInfo → List CpInfo
  | 0, r => r
  | n + 1, r => .unusable :: gap n r
def poolList (es : List (Nat × CpInfo)) (last : Nat) : List CpInfo := es.foldr (fun e r => gap e.1 (e.2 :: r)) (gap last [])
def pool (es : List (Nat × CpInfo)) (last : Nat) : Array CpInfo := ⟨poolList es last⟩
def fileOf (pool : Array CpInfo) (this : Nat) (attrs : Array Attribute := #[]) (ms : Array MethodInfo := #[]) (fl : Nat := 33) (sup : Nat := 0) (ifs : Array Nat := #[]) (fds : Array FieldInfo := #[]) : ClassFile where
  minorVersion := 0
  majorVersion := 65
  constantPool := pool
  accessFlags := fl
  thisClass := this
  superClass := sup
  interfaces := ifs
  fields := fds
  methods := ms
  attributes := attrs
def plain (name : String) (sup : Option ClassId) : Class where
  name := name
  kind := .ordinary
  loader := none
  accessFlags := 33
  super := sup
  interfaces := #[]
  cf := none
  fields := #[]
  methods := #[]
  instanceTypes := #[]
  staticTypes := #[]
  resolved := #[]
  callSites := []
  init := .initialized
  statics := none
  mirror := none

def pool0 : Array CpInfo := pool [(5, u "<init>"), (0, u "()V"), (1, .class_ 10), (1, u "java/lang/Object")] 113

def k0m0 : Method := { name := "<init>", desc := "()V", sig := { parameters := [], returnType := none }, accessFlags := 1, code := none }
/-- java/lang/Object -/
def k0 : Class := { plain "java/lang/Object" none with
  accessFlags := 33
  interfaces := #[]
  cf := some (fileOf pool0 8 #[] #[{ accessFlags := 1, nameIndex := 5, descriptorIndex := 6, attributes := #[] }] 33 0 #[] #[])
  fields := #[]
  methods := #[k0m0]
  instanceTypes := #[]
  staticTypes := #[]
  resolved := Array.replicate 124 none
  statics := none }

def pool1 : Array CpInfo := pool [(2, .class_ 4), (1, u "java/lang/Object"), (0, u "<init>"), (0, u "()V"), (0, .long 255), (1, .long 128), (1, .methodref 12 13), (0, .class_ 14), (0, .nameAndType 15 16), (0, u "com/example/covenantry/covenantry/input/BytesEqualToPinLaw"), (0, u "pick"), (0, u "(JIIIII)J"), (0, .methodref 12 18), (0, .nameAndType 19 20), (0, u "hit"), (0, u "(JII)J"), (0, .methodref 22 23), (0, .class_ 24), (0, .nameAndType 25 26), (0, u "com/example/covenantry/covenantry/input/Bytes"), (0, u "equalTo"), (0, u "(JB)J"), (3, u "law"), (0, u "(JIIII)Z")] 2

def k1m0 : Method := { name := "<init>", desc := "()V", sig := { parameters := [], returnType := none }, accessFlags := 2, code := none }
def k1c1 : Code := { maxStack := 4, maxLocals := 12, code := method_2_code, exceptionTable := #[], attributes := #[] }
def k1m1 : Method := { name := "pick", desc := "(JIIIII)J", sig := { parameters := [.long, .int, .int, .int, .int, .int], returnType := some .long }, accessFlags := 10, code := some k1c1 }
def k1c2 : Code := { maxStack := 4, maxLocals := 5, code := method_3_code, exceptionTable := #[], attributes := #[] }
def k1m2 : Method := { name := "hit", desc := "(JII)J", sig := { parameters := [.long, .int, .int], returnType := some .long }, accessFlags := 10, code := some k1c2 }
def k1c3 : Code := { maxStack := 9, maxLocals := 14, code := code, exceptionTable := #[], attributes := #[] }
def k1m3 : Method := { name := "law", desc := "(JIIII)Z", sig := { parameters := [.long, .int, .int, .int, .int], returnType := some .boolean }, accessFlags := 9, code := some k1c3 }
/-- com/example/covenantry/covenantry/input/BytesEqualToPinLaw -/
def k1 : Class := { plain "com/example/covenantry/covenantry/input/BytesEqualToPinLaw" (some 0) with
  accessFlags := 49
  interfaces := #[]
  cf := some (fileOf pool1 12 #[] #[{ accessFlags := 2, nameIndex := 5, descriptorIndex := 6, attributes := #[] }, { accessFlags := 10, nameIndex := 15, descriptorIndex := 16, attributes := #[] }, { accessFlags := 10, nameIndex := 19, descriptorIndex := 20, attributes := #[] }, { accessFlags := 9, nameIndex := 30, descriptorIndex := 31, attributes := #[] }] 49 2 #[] #[])
  fields := #[]
  methods := #[k1m0, k1m1, k1m2, k1m3]
  instanceTypes := #[]
  staticTypes := #[]
  resolved := Array.replicate 34 none
  statics := none }

def pool2 : Array CpInfo := pool [(2, .class_ 4), (1, u "java/lang/Object"), (0, u "<init>"), (0, u "()V"), (1, .class_ 10), (1, u "com/example/covenantry/covenantry/input/Bytes"), (0, u "EIGHT"), (0, u "Ljava/lang/invoke/VarHandle;"), (6, .long 72340172838076673), (1, .long 9187201950435737471), (1, .long 18446744073709551615), (8, u "equalTo"), (0, u "(JB)J"), (28, u "LOW_BITS"), (0, u "J"), (1, u "HIGH_BITS")] 12

def k2m0 : Method := { name := "<init>", desc := "()V", sig := { parameters := [], returnType := none }, accessFlags := 2, code := none }
def k2c1 : Code := { maxStack := 6, maxLocals := 5, code := prog_121_method_3_code, exceptionTable := #[], attributes := #[] }
def k2m1 : Method := { name := "equalTo", desc := "(JB)J", sig := { parameters := [.long, .byte], returnType := some .long }, accessFlags := 8, code := some k2c1 }
/-- com/example/covenantry/covenantry/input/Bytes -/
def k2 : Class := { plain "com/example/covenantry/covenantry/input/Bytes" (some 0) with
  accessFlags := 48
  interfaces := #[]
  cf := some (fileOf pool2 8 #[] #[{ accessFlags := 2, nameIndex := 5, descriptorIndex := 6, attributes := #[] }, { accessFlags := 8, nameIndex := 32, descriptorIndex := 33, attributes := #[] }] 48 2 #[] #[{ accessFlags := 26, nameIndex := 11, descriptorIndex := 12, attributes := #[] }, { accessFlags := 26, nameIndex := 62, descriptorIndex := 63, attributes := #[] }, { accessFlags := 26, nameIndex := 65, descriptorIndex := 63, attributes := #[] }])
  fields := #[{ name := "EIGHT", type := (.object "java/lang/invoke/VarHandle"), accessFlags := 26, slot := 0, constantValue := 0 }, { name := "LOW_BITS", type := .long, accessFlags := 26, slot := 1, constantValue := 0 }, { name := "HIGH_BITS", type := .long, accessFlags := 26, slot := 2, constantValue := 0 }]
  methods := #[k2m0, k2m1]
  instanceTypes := #[]
  staticTypes := #[(.object "java/lang/invoke/VarHandle"), .long, .long]
  resolved := Array.replicate 78 none
  statics := none }

def pool3 : Array CpInfo := pool [(1, u "java/lang/Cloneable"), (0, .class_ 1), (0, u "java/lang/Object"), (0, .class_ 3)] 3

/-- java/lang/Cloneable -/
def k3 : Class := { plain "java/lang/Cloneable" (some 0) with
  accessFlags := 1537
  interfaces := #[]
  cf := some (fileOf pool3 2 #[] #[] 1537 4 #[] #[])
  fields := #[]
  methods := #[]
  instanceTypes := #[]
  staticTypes := #[]
  resolved := Array.replicate 8 none
  statics := none }

def pool4 : Array CpInfo := pool [(1, u "java/io/Serializable"), (0, .class_ 1), (0, u "java/lang/Object"), (0, .class_ 3)] 3

/-- java/io/Serializable -/
def k4 : Class := { plain "java/io/Serializable" (some 0) with
  accessFlags := 1537
  interfaces := #[]
  cf := some (fileOf pool4 2 #[] #[] 1537 4 #[] #[])
  fields := #[]
  methods := #[]
  instanceTypes := #[]
  staticTypes := #[]
  resolved := Array.replicate 8 none
  statics := none }

/-- the primitive byte -/
def k5 : Class := { plain "byte" none with kind := .primitive 'B', accessFlags := 0x411 }
/-- [B -/
def k6 : Class := { plain "[B" (some 0) with kind := .array 5 .byte, interfaces := #[3, 4], accessFlags := 1041 }

/-- the primitive int -/
def k7 : Class := { plain "int" none with kind := .primitive 'I', accessFlags := 0x411 }
/-- [I -/
def k8 : Class := { plain "[I" (some 0) with kind := .array 7 .int, interfaces := #[3, 4], accessFlags := 1041 }

def heap : Heap := #[]
def classes : Array Class := #[k0, k1, k2, k3, k4, k5, k6, k7, k8]
def interned : List (Array UInt16 × Addr) := []
def slotsUsed : Nat := 0
def theMethod : MethodId := ⟨1, 3⟩
def args0 : Array Value := #[.long 5, .int 1, .int 3, .int 4, .int 5]
def aboutOver (below : List Frame) : State where
  vm := { classes := classes, interned := interned.toArray }
  heap := heap
  slotsUsed := slotsUsed
  threads := #[{ frames := .invoking theMethod args0 :: below }]
def below0 : List Frame := [.native { method := ⟨0, 0⟩, args := #[] }]
def about1 : State := aboutOver below0
def p0 : Program := .bare "" "" ""
def e0 : Env := launch0.env 0 0 0
theorem w_frames : about1.frames = Frame.invoking theMethod args0 :: below0 := rfl
set_option maxRecDepth 65536 in
theorem w_args : argsFit about1.vm theMethod args0 = true := by decide +kernel
set_option maxRecDepth 65536 in
theorem w_heap : heapFits about1 = true := by decide +kernel
set_option maxRecDepth 65536 in
theorem w_runnable : about1.curStatus? = some .runnable := by decide +kernel
set_option maxRecDepth 65536 in
theorem w_alone : about1.alone = true := by decide +kernel
set_option maxRecDepth 65536 in
theorem w_named : about1.methodNamed? x = some theMethod := by decide +kernel
set_option maxRecDepth 65536 in
theorem w_hears : about1.hears theMethod below0 = true := by decide +kernel
set_option maxRecDepth 65536 in
theorem w_ripe : about1.ripe theMethod args0 below0 = true := by decide +kernel
theorem w_running : about1.status = .running := rfl
set_option maxRecDepth 65536 in
theorem w_room : about1.hasRoom e0.platform room_1 = true :=
  launch0.hasRoom_least _ room_1 (by decide +kernel) (by decide +kernel) (by decide +kernel) (by decide +kernel) (by decide +kernel) (by decide +kernel)
theorem allAtoms_all (ts : List Jvm.Cond) (a : Array Jvm.Value) (st : Jvm.State) : (allAtoms ts).before a st = ts.all (fun c => c.before a st) := by
  induction ts with
  | nil => rfl
  | cons c t ih =>
    show (Jvm.Cond.and c (allAtoms t)).before a st = _
    rw [Jvm.Cond.before_and, ih, List.all_cons]
def words1 : List Jvm.Cond := Jvm.Cond.code x code maxLocals ret :: tables_1
/-- a 'code' word, met by the world's own term for the bytes: nothing is compared byte by byte -/
theorem code_word {y : MethodName} {bytes : ByteArray} {mx : Nat} {rt : Option FieldType} {a : Array Value} {s : State} {m : MethodId} {meth : Method} {c : Code} (h1 : s.methodNamed? y = some m) (h2 : s.vm.method? m = some meth) (h3 : meth.code = some c) (h4 : c.code = bytes)
    (h5 : (c.maxLocals == mx && c.exceptionTable.isEmpty && decide (c.maxStack ≤ mostOperands) && decide (meth.sig.returnType = rt) && !meth.locks && decide (parseMethodDescriptor y.desc = some meth.sig)) = true) : (Jvm.Cond.code y bytes mx rt).before a s = true := by
  simp only [Bool.and_eq_true, beq_iff_eq, Bool.not_eq_true', decide_eq_true_eq] at h5
  obtain ⟨⟨⟨⟨⟨g1, g2⟩, g3⟩, g4⟩, g5⟩, g6⟩ := h5
  simp [Cond.before, Cond.holds, Cond.value, h1, h2, h3, h4, g1, g2, g3, g4, g5, g6]
def isCode : Jvm.Cond → Bool
  | .code _ _ _ _ => true
  | _ => false
theorem all_split {L : List Jvm.Cond} {P : Jvm.Cond → Bool} (h1 : L.all (fun c => isCode c || P c) = true) (h2 : ∀ c ∈ L.filter isCode, P c = true) : L.all P = true := by
  refine List.all_eq_true.mpr fun c hc => ?_
  have h := List.all_eq_true.mp h1 c hc
  rcases Bool.eq_false_or_eq_true (isCode c) with hi | hi
  · exact h2 c (List.mem_filter.mpr ⟨hc, hi⟩)
  · simpa [hi] using h
set_option maxRecDepth 65536 in
theorem w_c0 : (Jvm.Cond.code x code maxLocals ret).before args0 about1 = true := code_word (m := ⟨1, 3⟩) (meth := k1m3) (c := k1c3) (by decide +kernel) rfl rfl rfl (by decide +kernel)
set_option maxRecDepth 65536 in
theorem w_c1 : (Jvm.Cond.code ({ cls := "com/example/covenantry/covenantry/input/BytesEqualToPinLaw", name := "pick", desc := "(JIIIII)J" } : Jvm.MethodName) method_2_code (12 : Nat) (Option.some Jvm.ClassFile.FieldType.long)).before args0 about1 = true := code_word (m := ⟨1, 1⟩) (meth := k1m1) (c := k1c1) (by decide +kernel) rfl rfl rfl (by decide +kernel)
set_option maxRecDepth 65536 in
theorem w_c2 : (Jvm.Cond.code ({ cls := "com/example/covenantry/covenantry/input/BytesEqualToPinLaw", name := "hit", desc := "(JII)J" } : Jvm.MethodName) method_3_code (5 : Nat) (Option.some Jvm.ClassFile.FieldType.long)).before args0 about1 = true := code_word (m := ⟨1, 2⟩) (meth := k1m2) (c := k1c2) (by decide +kernel) rfl rfl rfl (by decide +kernel)
set_option maxRecDepth 65536 in
theorem w_c3 : (Jvm.Cond.code ({ cls := "com/example/covenantry/covenantry/input/Bytes", name := "equalTo", desc := "(JB)J" } : Jvm.MethodName) prog_121_method_3_code (5 : Nat) (Option.some Jvm.ClassFile.FieldType.long)).before args0 about1 = true := code_word (m := ⟨2, 1⟩) (meth := k2m1) (c := k2c1) (by decide +kernel) rfl rfl rfl (by decide +kernel)
def codes1 : List Jvm.Cond := [Jvm.Cond.code x code maxLocals ret, Jvm.Cond.code ({ cls := "com/example/covenantry/covenantry/input/BytesEqualToPinLaw", name := "pick", desc := "(JIIIII)J" } : Jvm.MethodName) method_2_code (12 : Nat) (Option.some Jvm.ClassFile.FieldType.long), Jvm.Cond.code ({ cls := "com/example/covenantry/covenantry/input/BytesEqualToPinLaw", name := "hit", desc := "(JII)J" } : Jvm.MethodName) method_3_code (5 : Nat) (Option.some Jvm.ClassFile.FieldType.long), Jvm.Cond.code ({ cls := "com/example/covenantry/covenantry/input/Bytes", name := "equalTo", desc := "(JB)J" } : Jvm.MethodName) prog_121_method_3_code (5 : Nat) (Option.some Jvm.ClassFile.FieldType.long)]
set_option maxRecDepth 65536 in
theorem codes_eq : words1.filter isCode = codes1 := rfl
theorem w_codes : ∀ c ∈ words1.filter isCode, c.before args0 about1 = true := by
  rw [codes_eq]
  intro c hc
  simp only [codes1, List.mem_cons, List.not_mem_nil, or_false] at hc
  rcases hc with rfl | rfl | rfl | rfl
  · exact w_c0
  · exact w_c1
  · exact w_c2
  · exact w_c3
set_option maxRecDepth 65536 in
theorem w_t1 : words1.all (fun c => isCode c || c.before args0 about1) = true := by decide +kernel
theorem w_tables : (allAtoms (Jvm.Cond.code x code maxLocals ret :: tables_1)).before args0 about1 = true := by
  rw [allAtoms_all]
  show words1.all (fun c => c.before args0 about1) = true
  refine all_split ?_ w_codes
  rw [w_t1]
set_option maxRecDepth 65536 in
theorem w_case : (Jvm.Cond.and given_1 narrow_1).before args0 about1 = true := by decide +kernel
theorem w_applies : (headSpec (Jvm.Cond.code x code maxLocals ret :: tables_1) room_1).applies x e0.platform about1 = true :=
  (Spec.applies_iff w_frames).mpr ⟨w_running, w_runnable, w_alone, w_named, w_hears, w_ripe, w_room, w_tables⟩
theorem atStart : AtStart classFile x code maxLocals ret World_1 tables_1 room_1 Calls_1 rest_1 Pre_1 launch0 p0 e0 about1 theMethod args0 below0 :=
  ⟨lists_1, trivial, launch0.admits_env _ _ _, launch0.least_env, fairChoices_fair.cas, fairChoices_fair.clock, w_frames, w_args, w_heap, w_applies, trivial, trivial, w_case⟩
end start1
theorem witness_1 : WitnessClaimed_1 := ⟨start1.p0, start1.e0, start1.about1, start1.theMethod, start1.args0, start1.below0, start1.atStart⟩
end Jvm.Pilot.@@N@@
