import JvmDerived
import JvmDerived.Pilot.@@N@@Statement
import JvmDerived.Pilot.@@N@@Code
set_option linter.unusedVariables false
set_option linter.unusedSimpArgs false
namespace Jvm.Pilot.@@N@@
open Jvm Jvm.ClassFile Sem Op Lib Jvm.Free Jvm.Stand Jvm.LawKit Jvm.RoadKit Bundle Jvm.Pilot.@@N@@.Jvm.D

section OwnKit
variable {p : Program} {l : Launch} {e : Env} {R : Room} {s : State} {m : MethodId} {args : Array Value} {below : List Frame} {meth : Method} {c : Code} {T : State} {locs : List Loc} {cells slots : Nat} {Z : State} {a0 : Array Value} {h : Heap}
/-- from T at frame F the walk reaches a state that P holds of -/
def own_R (tb : Tables) (e : Env) (below : List Frame) (P : State → Prop) (T : State) (F : JFrame) : Prop := ∃ t, Steps tb e below (T.setTop F) t ∧ P t
theorem own_go {tb : Tables} {e : Env} {below : List Frame} {P : State → Prop} {T T' : State} {F F' : JFrame} (h : ∀ t, Steps tb e below (T'.setTop F') t → Steps tb e below (T.setTop F) t) (r : own_R tb e below P T' F') : own_R tb e below P T F := by
  obtain ⟨t, a, b⟩ := r
  exact ⟨t, h t a, b⟩
/-- what a body's end must meet -/
def own_E (s : State) (below : List Frame) (Q : Option Value → Heap → List Loc → Prop) (C N : Nat) (t : State) : Prop := ∃ v L, t.status = .running ∧ Ended t below (.returned v) ∧ Q v t.heap L ∧ FrameEnd s (.returned v) t L C N
/-- a body's contract -/
abbrev own_C (l : Launch) (Z : State) (y : MethodName) (bytes : ByteArray) (ml : Nat) (ret : Option FieldType) (ws : List Jvm.Cond) (rm : Room) (as : Array Value) (h0 : Heap) (Q : Option Value → Heap → List Loc → Prop) : Prop :=
  MetFree l y (head1 (Jvm.Cond.code y bytes ml ret :: ws) rm) (fun a U => a = as ∧ Z.Warmed39 U.vm ∧ U.heap = h0) (fun _ _ _ _ _ => True) (fun _ U o U' => ∃ v L, o = .returned v ∧ Q v U'.heap L ∧ FrameEnd U o U' L rm.cells rm.slots)
theorem own_body {y : MethodName} {bytes : ByteArray} {ml : Nat} {ret : Option FieldType} {ws : List Jvm.Cond} {rm : Room} {as : Array Value} {h0 : Heap} {Q : Option Value → Heap → List Loc → Prop} {ls : Array Slot}
    (hy : plainFor y = true) (hef : ∀ m, entryFrame m as ml = mkF m 0 ls [])
    (H : ∀ (p : Program) (e : Env) (s : State) (m : MethodId) (below : List Frame) (meth : Method) (c : Code) (T : State), Z.Warmed39 s.vm → p.tables.exec = Jvm.exec → c.code = bytes → c.maxLocals = ml → s.vm.findClass y.cls = some m.cls → meth.name = y.name → meth.sig.returnType = ret → meth.locks = false →
      Stand p l e rm s m as below meth c T [] 0 0 → T.heap = h0 → own_R p.tables e below (own_E s below Q rm.cells rm.slots) T (mkF m 0 ls [])) :
    own_C l Z y bytes ml ret ws rm as h0 Q := by
  refine MetFree.of_bodySF hy hisR ?_
  intro p e s m args below meth c s₁ Bd hml0 hP hK
  obtain ⟨rfl, hZ, hh⟩ := hP
  obtain ⟨t, st, v, L, h1, h2, h3, h4⟩ := H p e s m below meth c s₁ hZ Bd.exec Bd.bytes hml0 (findClass_of_methodNamed Bd.named) (name_of_methodNamed Bd.named Bd.method).1 Bd.returns Bd.notSynchronized (Stand.of_body Bd) (by rw [← hh, Bd.state]; rfl)
  exact ⟨t, _, castTop (hef m) st, h1, h2, v, L, rfl, h3, h4⟩
theorem own_end {Q : Option Value → Heap → List Loc → Prop} {C N : Nat} {F : JFrame} (X : Stand p l e R s m args below meth c T locs cells slots) (v : Option Value) (hv : meth.sig.returnType = none → v = none) (hlk : meth.locks = false)
    (hst : ∀ fs, (∀ (f : JFrame) (acts : List Action), f.method = m → f.locked = none → f.entered = [] → (doReturn e (T.setTop f) acts v).1 = T.setFrames fs) → Steps p.tables e below (T.setTop F) (T.setFrames fs))
    (hQ : Q v T.heap locs) (hc : cells ≤ C) (hn : slots ≤ N) : own_R p.tables e below (own_E s below Q C N) T F := by
  obtain ⟨fs, hr, hrun, hended, hW, hsame⟩ := X.leave (v := v) hv hlk
  exact ⟨_, hst fs hr, v, locs, hrun, hended, hQ, ⟨_, rfl⟩, hW, hsame.mono hc hn⟩
theorem own_retI (X : Stand p l e R s m args below meth c T locs cells slots) (hx : p.tables.exec = Jvm.exec) {pc : Nat} {Ls : Array Slot} {z : Int32} {rest : List Value} (hret : meth.sig.returnType = some .int) (hd : decode c.code pc = .ok (.ireturn, 1)) {fs : List Frame}
    (hl : ∀ (f : JFrame) (acts : List Action), f.method = m → f.locked = none → f.entered = [] → (doReturn e (T.setTop f) acts (some (.int z))).1 = T.setFrames fs) : Steps p.tables e below (T.setTop (mkF m pc Ls (.int z :: rest))) (T.setFrames fs) := by
  have hm' : T.vm.method? m = some meth := X.method'
  have hn : narrow .int (.int z) = .int z := rfl
  show Steps p.tables e below (T.setTop { method := m, pc := pc, locals := Ls, stack := _ :: rest, locked := none }) _
  jvm_step X.here [X.here.top, hx, hd, hm', hret, hn]
  first | (intro acts; rw [hl _ acts rfl rfl rfl]) | rw [hl _ _ rfl rfl rfl]
  exact Steps.refl _
theorem own_retJ (X : Stand p l e R s m args below meth c T locs cells slots) (hx : p.tables.exec = Jvm.exec) {pc : Nat} {Ls : Array Slot} {z : Int64} {rest : List Value} (hret : meth.sig.returnType = some .long) (hd : decode c.code pc = .ok (.lreturn, 1)) {fs : List Frame}
    (hl : ∀ (f : JFrame) (acts : List Action), f.method = m → f.locked = none → f.entered = [] → (doReturn e (T.setTop f) acts (some (.long z))).1 = T.setFrames fs) : Steps p.tables e below (T.setTop (mkF m pc Ls (.long z :: rest))) (T.setFrames fs) := by
  have hm' : T.vm.method? m = some meth := X.method'
  have hn : narrow .long (.long z) = .long z := rfl
  show Steps p.tables e below (T.setTop { method := m, pc := pc, locals := Ls, stack := _ :: rest, locked := none }) _
  jvm_step X.here [X.here.top, hx, hd, hm', hret, hn]
  first | (intro acts; rw [hl _ acts rfl rfl rfl]) | rw [hl _ _ rfl rfl rfl]
  exact Steps.refl _
theorem own_retD (X : Stand p l e R s m args below meth c T locs cells slots) (hx : p.tables.exec = Jvm.exec) {pc : Nat} {Ls : Array Slot} {z : UInt64} {rest : List Value} (hret : meth.sig.returnType = some .double) (hd : decode c.code pc = .ok (.dreturn, 1)) {fs : List Frame}
    (hl : ∀ (f : JFrame) (acts : List Action), f.method = m → f.locked = none → f.entered = [] → (doReturn e (T.setTop f) acts (some (.double z))).1 = T.setFrames fs) : Steps p.tables e below (T.setTop (mkF m pc Ls (.double z :: rest))) (T.setFrames fs) := by
  have hm' : T.vm.method? m = some meth := X.method'
  have hn : narrow .double (.double z) = .double z := rfl
  show Steps p.tables e below (T.setTop { method := m, pc := pc, locals := Ls, stack := _ :: rest, locked := none }) _
  jvm_step X.here [X.here.top, hx, hd, hm', hret, hn]
  first | (intro acts; rw [hl _ acts rfl rfl rfl]) | rw [hl _ _ rfl rfl rfl]
  exact Steps.refl _
theorem own_retA (X : Stand p l e R s m args below meth c T locs cells slots) (hx : p.tables.exec = Jvm.exec) {pc : Nat} {Ls : Array Slot} {z : Value} {t : FieldType} {rest : List Value} (hret : meth.sig.returnType = some t) (ht : t.isReference = true) (hz : z.isRef = true) (hd : decode c.code pc = .ok (.areturn, 1)) {fs : List Frame}
    (hl : ∀ (f : JFrame) (acts : List Action), f.method = m → f.locked = none → f.entered = [] → (doReturn e (T.setTop f) acts (some z)).1 = T.setFrames fs) : Steps p.tables e below (T.setTop (mkF m pc Ls (z :: rest))) (T.setFrames fs) := by
  have hm' : T.vm.method? m = some meth := X.method'
  show Steps p.tables e below (T.setTop { method := m, pc := pc, locals := Ls, stack := _ :: rest, locked := none }) _
  jvm_step X.here [X.here.top, hx, hd, hm', hret, ht, hz]
  first | (intro acts; rw [hl _ acts rfl rfl rfl]) | rw [hl _ _ rfl rfl rfl]
  exact Steps.refl _
theorem own_len {a : Addr} {k : ClassId} {ty : FieldType} {n : Int32} {vs : List Value} {d : Value} (X : Stand p l e R s m args below meth c T locs cells slots) (hx : p.tables.exec = Jvm.exec) (hZ : Z.Warmed39 s.vm) (eT : T.heap = h) (V : Arv Z h a k ty n vs d)
    {g : JFrame} (hg : g.method = m) {rest : List Value} (hs : g.stack = .ref a :: rest) (hd : decode c.code g.pc = .ok (.arraylength, 1)) :
    ∀ t, Steps p.tables e below (T.setTop { g with pc := g.pc + 1, stack := .int n :: rest }) t → Steps p.tables e below (T.setTop g) t := by
  obtain ⟨cl, Ar, -, S, N, -, -⟩ := V
  intro t st
  refine X.arraylength hx (by rw [eT]; exact Ar.1) (State.isArrayOf_alike hZ.alike Ar.2.1) hg hs hd t ?_
  rw [len_of S N]
  exact st
theorem own_ldD {a : Addr} {k : ClassId} {n j : Int32} {vs : List Value} {d v : Value} (X : Stand p l e R s m args below meth c T locs cells slots) (hx : p.tables.exec = Jvm.exec) (hZ : Z.Warmed39 s.vm) (eT : T.heap = h) (V : Arv Z h a k .double n vs d) (hj : ¬ j < 0 ∧ j < n) (hv : vs.getD j.toNatClampNeg d = v)
    {g : JFrame} (hg : g.method = m) {rest : List Value} (hs : g.stack = .int j :: .ref a :: rest) (hd : decode c.code g.pc = .ok (.daload, 1)) :
    ∀ t, Steps p.tables e below (T.setTop { g with pc := g.pc + 1, stack := v :: rest }) t → Steps p.tables e below (T.setTop g) t := by
  obtain ⟨cl, Ar, -, S, N, H, -⟩ := V
  intro t st
  exact X.daload hx (by rw [eT]; exact Ar.1) (State.isArrayOf_alike hZ.alike Ar.2.1) Ar.2.2 (inb_of S hj) (H.at (inb_of S hj) hv) hg hs hd t st
theorem own_ldZ {a : Addr} {k : ClassId} {n j : Int32} {vs : List Value} {d v : Value} (X : Stand p l e R s m args below meth c T locs cells slots) (hx : p.tables.exec = Jvm.exec) (hZ : Z.Warmed39 s.vm) (eT : T.heap = h) (V : Arv Z h a k .boolean n vs d) (hj : ¬ j < 0 ∧ j < n) (hv : vs.getD j.toNatClampNeg d = v)
    {g : JFrame} (hg : g.method = m) {rest : List Value} (hs : g.stack = .int j :: .ref a :: rest) (hd : decode c.code g.pc = .ok (.baload, 1)) :
    ∀ t, Steps p.tables e below (T.setTop { g with pc := g.pc + 1, stack := v :: rest }) t → Steps p.tables e below (T.setTop g) t := by
  obtain ⟨cl, Ar, -, S, N, H, -⟩ := V
  intro t st
  exact X.baloadBooleans hx (by rw [eT]; exact Ar.1) (State.isArrayOf_alike hZ.alike Ar.2.1) Ar.2.2 (inb_of S hj) (H.at (inb_of S hj) hv) hg hs hd t st
theorem own_stD {a : Addr} {k : ClassId} {n j : Int32} {vs : List Value} {d : Value} {x : UInt64} (X : Stand p l e R s m args below meth c T locs cells slots) (hx : p.tables.exec = Jvm.exec) (hZ : Z.Warmed39 s.vm) (eT : T.heap = h) (V : Arv Z h a k .double n vs d) (hj : ¬ j < 0 ∧ j < n) (i : Nat) (hji : j.toNatClampNeg = i) (hi : i < vs.length)
    {g : JFrame} (hg : g.method = m) {rest : List Value} (hs : g.stack = .double x :: .int j :: .ref a :: rest) (hd : decode c.code g.pc = .ok (.dastore, 1)) :
    ∃ T' h', Stand p l e R s m args below meth c T' (locs ++ [⟨a, j.toNatClampNeg⟩]) cells slots ∧ T'.heap = h' ∧ Wr h h' a j.toNatClampNeg (.double x) ∧ Arv Z h' a k .double n (vs.set i (.double x)) d ∧ ∀ t, Steps p.tables e below (T'.setTop { g with pc := g.pc + 1, stack := rest }) t → Steps p.tables e below (T.setTop g) t := by
  obtain ⟨cl, Ar, q, S, N, H, G⟩ := V
  obtain ⟨T', h', X', e', W, st⟩ := stD X hx hZ eT Ar (inb_of S hj) hg hs hd
  exact ⟨T', h', X', e', W, Arv.set Ar q S N H G rfl W i hji hi, st⟩
theorem own_stZ {a : Addr} {k : ClassId} {n j : Int32} {vs : List Value} {d : Value} {x : Int32} (X : Stand p l e R s m args below meth c T locs cells slots) (hx : p.tables.exec = Jvm.exec) (hZ : Z.Warmed39 s.vm) (eT : T.heap = h) (V : Arv Z h a k .boolean n vs d) (hj : ¬ j < 0 ∧ j < n) (i : Nat) (hji : j.toNatClampNeg = i) (hi : i < vs.length) (h01 : x = 0 ∨ x = 1)
    {g : JFrame} (hg : g.method = m) {rest : List Value} (hs : g.stack = .int x :: .int j :: .ref a :: rest) (hd : decode c.code g.pc = .ok (.bastore, 1)) :
    ∃ T' h', Stand p l e R s m args below meth c T' (locs ++ [⟨a, j.toNatClampNeg⟩]) cells slots ∧ T'.heap = h' ∧ Wr h h' a j.toNatClampNeg (.int x) ∧ Arv Z h' a k .boolean n (vs.set i (.int x)) d ∧ ∀ t, Steps p.tables e below (T'.setTop { g with pc := g.pc + 1, stack := rest }) t → Steps p.tables e below (T.setTop g) t := by
  obtain ⟨cl, Ar, q, S, N, H, G⟩ := V
  obtain ⟨T', h', X', e', W, st⟩ := stZ X hx hZ eT Ar (inb_of S hj) hg hs hd
  have en : nar .boolean x = x := by rcases h01 with rfl | rfl <;> rfl
  rw [en] at W
  exact ⟨T', h', X', e', W, Arv.set Ar q S N H G (by rcases h01 with rfl | rfl <;> rfl) W i hji hi, st⟩
/-- a payer's form: what the three calls ask -/
abbrev own_B (l : Launch) (R : Room) (p : Program) (e : Env) (below : List Frame) (s : State) (args : Array Value) (y : MethodName) (W : Nat) (as : Array Value) (h : Heap) (kc ks : Nat) (Q : Option Value → Heap → List Loc → Prop) : Prop :=
  Back l R p e below s args y 3 W (fun A a => a = as ∧ A.U.heap = h ∧ A.cells + kc ≤ R.cells ∧ A.slots + ks ≤ R.slots) (fun A _ v B => ∃ L, Q v B.U.heap L ∧ B.locs = A.locs ++ L ∧ B.cells = A.cells + kc ∧ B.slots = A.slots + ks)
theorem own_backS (X : Stand p l e R s m args below meth c T locs cells slots) (hx : p.tables.exec = Jvm.exec) (hZ : Z.Warmed39 s.vm) {own : String} (hown : s.vm.findClass own = some m.cls) {index : Nat} {y : MethodName} {bytes : ByteArray} {maxL : Nat} {ret : Option FieldType}
    (w1 : (Jvm.Cond.methodLink own index y).before a0 Z = true) (w2 : (Jvm.Cond.static y).before a0 Z = true) (w3 : (Jvm.Cond.initialized y.cls).before a0 Z = true) (w4 : (Jvm.Cond.code y bytes maxL ret).before a0 Z = true) (hy : y.cls ≠ "java/lang/invoke/MethodHandle" ∧ y.cls ≠ "java/lang/invoke/VarHandle")
    {W kc ks : Nat} {as : Array Value} {Q : Option Value → Heap → List Loc → Prop} (hK : own_B l R p e below s args y W as h kc ks Q) 
    {g : JFrame} (hg : g.method = m) (hsize : g.locals.size = c.maxLocals) {argsL rest : List Value} (hlen : ∀ sig, parseMethodDescriptor y.desc = some sig → argsL.length = sig.parameters.length)
    (hst : g.stack = argsL.reverse ++ rest) (has : argsL.toArray = as) (hW : 2 * g.monitorRoom + (rest.map fun v => v.category).sum ≤ W) (hd : decode c.code g.pc = .ok (.invokestatic index, 3)) (eT : T.heap = h)
    (hc : cells + kc ≤ R.cells) (hs : slots + ks ≤ R.slots) :
    ∃ v T' L, Stand p l e R s m args below meth c T' (locs ++ L) (cells + kc) (slots + ks) ∧ Q v T'.heap L ∧ ∀ t, Steps p.tables e below (T'.setTop { g with pc := g.pc + 3, stack := v.toList ++ rest }) t → Steps p.tables e below (T.setTop g) t := by
  obtain ⟨v, vm1, ⟨T1, L1, k1, n1⟩, -, X1, ⟨Lc, hQ, l1, y1, z1⟩, st⟩ := Jvm.LawKit.callS X hx (y := y) hown (mvT hZ w1) (mvT hZ w2) (mvT hZ w3) (mvT hZ w4) hy hK hg hsize (argsL := argsL) (rest := rest) hlen hst hW hd (fun _ _ => ⟨has, eT, hc, hs⟩)
  dsimp only [Pt.U, Pt.locs, Pt.cells, Pt.slots] at X1 l1 y1 z1 st hQ
  subst l1 y1 z1
  exact ⟨v, T1, Lc, X1, hQ, st⟩
theorem own_callS (X : Stand p l e R s m args below meth c T locs cells slots) (hx : p.tables.exec = Jvm.exec) (hZ : Z.Warmed39 s.vm) {own : String} (hown : s.vm.findClass own = some m.cls) {index : Nat} {y : MethodName} {bytes : ByteArray} {maxL : Nat} {ret : Option FieldType}
    (w1 : (Jvm.Cond.methodLink own index y).before a0 Z = true) (w2 : (Jvm.Cond.static y).before a0 Z = true) (w3 : (Jvm.Cond.initialized y.cls).before a0 Z = true) (w4 : (Jvm.Cond.code y bytes maxL ret).before a0 Z = true) (hy : y.cls ≠ "java/lang/invoke/MethodHandle" ∧ y.cls ≠ "java/lang/invoke/VarHandle")
    {rm : Room} {as : Array Value} {Q : Option Value → Heap → List Loc → Prop} (hM : own_C l Z y bytes maxL ret [] rm as h Q) {W : Nat}
    {g : JFrame} (hg : g.method = m) (hsize : g.locals.size = c.maxLocals) {argsL rest : List Value} (hlen : ∀ sig, parseMethodDescriptor y.desc = some sig → argsL.length = sig.parameters.length)
    (hst : g.stack = argsL.reverse ++ rest) (has : argsL.toArray = as) (hW : 2 * g.monitorRoom + (rest.map fun v => v.category).sum ≤ W) (hd : decode c.code g.pc = .ok (.invokestatic index, 3)) (eT : T.heap = h)
    (hf : rm.frames + 1 ≤ R.frames) (hl : W + (maxL + 11) + rm.locals ≤ R.locals) (hc : cells + rm.cells ≤ R.cells) (hs : slots + rm.slots ≤ R.slots) :
    ∃ v T' L, Stand p l e R s m args below meth c T' (locs ++ L) (cells + rm.cells) (slots + rm.slots) ∧ Q v T'.heap L ∧ ∀ t, Steps p.tables e below (T'.setTop { g with pc := g.pc + 3, stack := v.toList ++ rest }) t → Steps p.tables e below (T.setTop g) t :=
  own_backS X hx hZ hown w1 w2 w3 w4 hy (backOf (W := W) hM hZ w4 w3 hf hl) hg hsize hlen hst has hW hd eT hc hs
theorem own_backI (X : Stand p l e R s m args below meth c T locs cells slots) (hx : p.tables.exec = Jvm.exec) (hZ : Z.Warmed39 s.vm) {own : String} (hown : s.vm.findClass own = some m.cls) {index : Nat} {y : MethodName} {bytes : ByteArray} {maxL : Nat} 
    (hy1 : y.name = "<init>") (w1 : (Jvm.Cond.methodLink own index y).before a0 Z = true) (w2 : (Jvm.Cond.instanceMethod y).before a0 Z = true) (w4 : (Jvm.Cond.code y bytes maxL none).before a0 Z = true) (w3 : (Jvm.Cond.initialized y.cls).before a0 Z = true) (hy : y.cls ≠ "java/lang/invoke/MethodHandle" ∧ y.cls ≠ "java/lang/invoke/VarHandle")
    {W kc ks : Nat} {as : Array Value} {Q : Option Value → Heap → List Loc → Prop} (hK : own_B l R p e below s args y W as h kc ks Q) 
    {g : JFrame} (hg : g.method = m) (hsize : g.locals.size = c.maxLocals) {a : Addr} {argsL rest : List Value} (hlen : ∀ sig, parseMethodDescriptor y.desc = some sig → argsL.length = sig.parameters.length)
    (hst : g.stack = argsL.reverse ++ .ref a :: rest) (has : (.ref a :: argsL).toArray = as) (hW : 2 * g.monitorRoom + (rest.map fun v => v.category).sum ≤ W) (hd : decode c.code g.pc = .ok (.invokespecial index, 3)) (eT : T.heap = h)
    (hc : cells + kc ≤ R.cells) (hs : slots + ks ≤ R.slots) :
    ∃ v T' L, Stand p l e R s m args below meth c T' (locs ++ L) (cells + kc) (slots + ks) ∧ Q v T'.heap L ∧ ∀ t, Steps p.tables e below (T'.setTop { g with pc := g.pc + 3, stack := v.toList ++ rest }) t → Steps p.tables e below (T.setTop g) t := by
  obtain ⟨v, vm1, ⟨T1, L1, k1, n1⟩, -, X1, ⟨Lc, hQ, l1, y1, z1⟩, st⟩ := X.specialBack hx (y := y) hy1 hown (mvT hZ w1) (mvT hZ w2) (mvT hZ w4) hy hK hg hsize (Steps.refl _) (a := a) (argsL := argsL) (rest := rest) hlen hst hW hd (fun _ _ => ⟨has, eT, hc, hs⟩)
  dsimp only [Pt.U, Pt.locs, Pt.cells, Pt.slots] at X1 l1 y1 z1 st hQ
  subst l1 y1 z1
  exact ⟨v, T1, Lc, X1, hQ, fun _ k => st.trans k⟩
theorem own_callI (X : Stand p l e R s m args below meth c T locs cells slots) (hx : p.tables.exec = Jvm.exec) (hZ : Z.Warmed39 s.vm) {own : String} (hown : s.vm.findClass own = some m.cls) {index : Nat} {y : MethodName} {bytes : ByteArray} {maxL : Nat} 
    (hy1 : y.name = "<init>") (w1 : (Jvm.Cond.methodLink own index y).before a0 Z = true) (w2 : (Jvm.Cond.instanceMethod y).before a0 Z = true) (w4 : (Jvm.Cond.code y bytes maxL none).before a0 Z = true) (w3 : (Jvm.Cond.initialized y.cls).before a0 Z = true) (hy : y.cls ≠ "java/lang/invoke/MethodHandle" ∧ y.cls ≠ "java/lang/invoke/VarHandle")
    {rm : Room} {as : Array Value} {Q : Option Value → Heap → List Loc → Prop} (hM : own_C l Z y bytes maxL none [] rm as h Q) {W : Nat}
    {g : JFrame} (hg : g.method = m) (hsize : g.locals.size = c.maxLocals) {a : Addr} {argsL rest : List Value} (hlen : ∀ sig, parseMethodDescriptor y.desc = some sig → argsL.length = sig.parameters.length)
    (hst : g.stack = argsL.reverse ++ .ref a :: rest) (has : (.ref a :: argsL).toArray = as) (hW : 2 * g.monitorRoom + (rest.map fun v => v.category).sum ≤ W) (hd : decode c.code g.pc = .ok (.invokespecial index, 3)) (eT : T.heap = h)
    (hf : rm.frames + 1 ≤ R.frames) (hl : W + (maxL + 11) + rm.locals ≤ R.locals) (hc : cells + rm.cells ≤ R.cells) (hs : slots + rm.slots ≤ R.slots) :
    ∃ v T' L, Stand p l e R s m args below meth c T' (locs ++ L) (cells + rm.cells) (slots + rm.slots) ∧ Q v T'.heap L ∧ ∀ t, Steps p.tables e below (T'.setTop { g with pc := g.pc + 3, stack := v.toList ++ rest }) t → Steps p.tables e below (T.setTop g) t :=
  own_backI X hx hZ hown hy1 w1 w2 w4 w3 hy (backOf (W := W) hM hZ w4 w3 hf hl) hg hsize hlen hst has hW hd eT hc hs
theorem own_backV (X : Stand p l e R s m args below meth c T locs cells slots) (hx : p.tables.exec = Jvm.exec) (hZ : Z.Warmed39 s.vm) {own C : String} (hown : s.vm.findClass own = some m.cls) {index : Nat} {y : MethodName} {bytes : ByteArray} {maxL : Nat} {ret : Option FieldType}
    (w1 : (Jvm.Cond.methodLink own index y).before a0 Z = true) (w2 : (Jvm.Cond.declares y).before a0 Z = true) (w5 : (Jvm.Cond.selects C y y).before a0 Z = true) (w6 : (Jvm.Cond.instanceMethod y).before a0 Z = true) (w4 : (Jvm.Cond.code y bytes maxL ret).before a0 Z = true) (w3 : (Jvm.Cond.initialized y.cls).before a0 Z = true) (hy : y.cls ≠ "java/lang/invoke/MethodHandle" ∧ y.cls ≠ "java/lang/invoke/VarHandle")
    {W kc ks : Nat} {as : Array Value} {Q : Option Value → Heap → List Loc → Prop} (hK : own_B l R p e below s args y W as h kc ks Q) {b : Addr} (hE : Exa Z h b C) 
    {g : JFrame} (hg : g.method = m) (hsize : g.locals.size = c.maxLocals) {argsL rest : List Value} (hlen : ∀ sig, parseMethodDescriptor y.desc = some sig → argsL.length = sig.parameters.length)
    (hst : g.stack = argsL.reverse ++ .ref b :: rest) (has : (.ref b :: argsL).toArray = as) (hW : 2 * g.monitorRoom + (rest.map fun v => v.category).sum ≤ W) (hd : decode c.code g.pc = .ok (.invokevirtual index, 3)) (eT : T.heap = h)
    (hc : cells + kc ≤ R.cells) (hs : slots + ks ≤ R.slots) :
    ∃ v T' L, Stand p l e R s m args below meth c T' (locs ++ L) (cells + kc) (slots + ks) ∧ Q v T'.heap L ∧ ∀ t, Steps p.tables e below (T'.setTop { g with pc := g.pc + 3, stack := v.toList ++ rest }) t → Steps p.tables e below (T.setTop g) t := by
  obtain ⟨cq, kq, qa, qb, qc⟩ := isOf hZ eT hE
  obtain ⟨v, vm1, ⟨T1, L1, k1, n1⟩, -, X1, ⟨Lc, hQ, l1, y1, z1⟩, st⟩ := X.virtualBack hx (y := y) (z := y) hown (mvT hZ w1) (mvT hZ w2) (notFace_of_selects (args := #[]) (mvT hZ w5)) (mvT hZ w5) (mvT hZ w6) hy hK qa qc hg hsize (Steps.refl _) (argsL := argsL) (rest := rest) hlen hst hW hd (fun _ _ => ⟨has, eT, hc, hs⟩)
  dsimp only [Pt.U, Pt.locs, Pt.cells, Pt.slots] at X1 l1 y1 z1 st hQ
  subst l1 y1 z1
  exact ⟨v, T1, Lc, X1, hQ, fun _ k => st.trans k⟩
theorem own_callV (X : Stand p l e R s m args below meth c T locs cells slots) (hx : p.tables.exec = Jvm.exec) (hZ : Z.Warmed39 s.vm) {own C : String} (hown : s.vm.findClass own = some m.cls) {index : Nat} {y : MethodName} {bytes : ByteArray} {maxL : Nat} {ret : Option FieldType}
    (w1 : (Jvm.Cond.methodLink own index y).before a0 Z = true) (w2 : (Jvm.Cond.declares y).before a0 Z = true) (w5 : (Jvm.Cond.selects C y y).before a0 Z = true) (w6 : (Jvm.Cond.instanceMethod y).before a0 Z = true) (w4 : (Jvm.Cond.code y bytes maxL ret).before a0 Z = true) (w3 : (Jvm.Cond.initialized y.cls).before a0 Z = true) (hy : y.cls ≠ "java/lang/invoke/MethodHandle" ∧ y.cls ≠ "java/lang/invoke/VarHandle")
    {rm : Room} {as : Array Value} {Q : Option Value → Heap → List Loc → Prop} (hM : own_C l Z y bytes maxL ret [] rm as h Q) {b : Addr} (hE : Exa Z h b C) {W : Nat}
    {g : JFrame} (hg : g.method = m) (hsize : g.locals.size = c.maxLocals) {argsL rest : List Value} (hlen : ∀ sig, parseMethodDescriptor y.desc = some sig → argsL.length = sig.parameters.length)
    (hst : g.stack = argsL.reverse ++ .ref b :: rest) (has : (.ref b :: argsL).toArray = as) (hW : 2 * g.monitorRoom + (rest.map fun v => v.category).sum ≤ W) (hd : decode c.code g.pc = .ok (.invokevirtual index, 3)) (eT : T.heap = h)
    (hf : rm.frames + 1 ≤ R.frames) (hl : W + (maxL + 11) + rm.locals ≤ R.locals) (hc : cells + rm.cells ≤ R.cells) (hs : slots + rm.slots ≤ R.slots) :
    ∃ v T' L, Stand p l e R s m args below meth c T' (locs ++ L) (cells + rm.cells) (slots + rm.slots) ∧ Q v T'.heap L ∧ ∀ t, Steps p.tables e below (T'.setTop { g with pc := g.pc + 3, stack := v.toList ++ rest }) t → Steps p.tables e below (T.setTop g) t :=
  own_backV X hx hZ hown w1 w2 w5 w6 w4 w3 hy (backOf (W := W) hM hZ w4 w3 hf hl) hE hg hsize hlen hst has hW hd eT hc hs
end OwnKit

section OwnFP
open Jvm.FP.Core
/-- a double's value in units of 2^-1074 -/
def own_z (x : UInt64) : Int := zval b64 (val64 x)
theorem own_zfin {x V : UInt64} (hx : val64 x ≠ .nan) (hV : DFin V) (h : own_z x = own_z V) : DFin x := by
  have h1 := hV.zval_lt
  unfold own_z zval at h
  have hm : zmag b64 (val64 x) = zmag b64 (val64 V) := by
    have := congrArg Int.natAbs h
    rwa [natAbs_signed, natAbs_signed] at this
  unfold DFin
  cases hv : val64 x with
  | nan => exact absurd hv hx
  | inf s =>
    rw [hv] at hm
    have : zmag b64 (.inf s) = b64.tails * 2 ^ (b64.exps - 2) := rfl
    rw [this] at hm
    omega
  | fin s c q => exact ⟨s, c, q, rfl⟩
theorem own_zadd {x y V : UInt64} (hx : DFin x) (hy : DFin y) (hV : DFin V) (h : own_z x + own_z y = own_z V) : DFin (dadd x y) ∧ own_z (dadd x y) = own_z V := by
  have e : own_z (dadd x y) = own_z V := by
    unfold own_z at *
    rw [val64_dadd]
    have a := sum_le good_b64 hx hy (val64_fits x) (val64_fits y) (val64_fits V) hV.ne_nan (Int.le_of_eq h)
    have b := sum_ge good_b64 hx hy (val64_fits x) (val64_fits y) (val64_fits V) hV.ne_nan (Int.le_of_eq h.symm)
    omega
  exact ⟨own_zfin ((notNaN_iff _).mp (dadd_out hx.notNaN hy)) hV e, e⟩
theorem own_zsub {x y V : UInt64} (hx : DFin x) (hy : DFin y) (hV : DFin V) (h : own_z x - own_z y = own_z V) : DFin (dsub x y) ∧ own_z (dsub x y) = own_z V := by
  have e : own_z (dsub x y) = own_z V := by
    unfold own_z at *
    rw [val64_dsub]
    obtain ⟨s, c, q, hq⟩ := hy
    have hn : ∃ s c q, negate (val64 y) = .fin s c q := ⟨!s, c, q, by rw [hq]; rfl⟩
    have a := sum_le good_b64 hx hn (val64_fits x) (negate_fits (val64_fits y)) (val64_fits V) hV.ne_nan (by rw [zval_negate]; omega)
    have b := sum_ge good_b64 hx hn (val64_fits x) (negate_fits (val64_fits y)) (val64_fits V) hV.ne_nan (by rw [zval_negate]; omega)
    omega
  exact ⟨own_zfin ((notNaN_iff _).mp (dsub_out hx.notNaN hy)) hV e, e⟩
theorem own_zmul {x y V : UInt64} (hx : DFin x) (hy : DFin y) (hV : DFin V) (h : own_z x * own_z y = own_z V * (one64 : Int)) : DFin (dmul x y) ∧ own_z (dmul x y) = own_z V := by
  have e : own_z (dmul x y) = own_z V := by
    unfold own_z at *
    rw [val64_dmul]
    have fx := val64_fits x
    have fy := val64_fits y
    obtain ⟨s, c, q, h1⟩ := hx
    obtain ⟨t, d, r, h2⟩ := hy
    rw [h1] at h fx ⊢
    rw [h2] at h fy ⊢
    obtain ⟨p1, p2, p3⟩ := product_units fx fy
    have hq : b64.qmin < 0 := qmin_neg good_b64
    have hs : signed (s != t) (inUnits (c * d) (q + r) (2 * b64.qmin)) = zval b64 (val64 V) * ((2 ^ (b64.qmin - 2 * b64.qmin).toNat : Nat) : Int) := by
      rw [p3, signed_xor, show (b64.qmin - 2 * b64.qmin).toNat = (-b64.qmin).toNat by omega, pow_qmin64]
      exact h
    rw [p1]
    have a := zval_round_le good_b64 (s := (s != t)) (c := c * d) (q := q + r) (e0 := 2 * b64.qmin) (val64_fits V) hV.ne_nan (by omega) p2 (Int.le_of_eq hs)
    have b := zval_round_ge good_b64 (s := (s != t)) (c := c * d) (q := q + r) (e0 := 2 * b64.qmin) (val64_fits V) hV.ne_nan (by omega) p2 (Int.le_of_eq hs.symm)
    omega
  exact ⟨own_zfin ((notNaN_iff _).mp (dmul_out hx hy)) hV e, e⟩
theorem own_zcmp {x y : UInt64} (hx : DFin x) (hy : DFin y) : dcmp x y = some (compare (own_z x) (own_z y)) := dcmp_zval hx.ne_nan hy.ne_nan
/-- n / 2^k is a double, for |n| up to 2^53 and k up to 1000 -/
theorem own_frac (n : Int) (k : Nat) (hk : k ≤ 1000) (hn : n.natAbs ≤ 2 ^ 53) : ∃ V : UInt64, DFin V ∧ ((2 ^ k : Nat) : Int) * own_z V = n * (one64 : Int) := by
  by_cases h0 : n = 0
  · refine ⟨0, ⟨_, _, _, val64_zero⟩, ?_⟩
    unfold own_z
    rw [zval64_zero, h0, Int.mul_zero, Int.zero_mul]
  obtain ⟨c, q, hfit, hv⟩ := natFit good_b64 wide_b64 (decide (n < 0)) (n := n.natAbs) hn
  have hp : b64.p = 53 := rfl
  have hqm : b64.qmin = -1074 := qmin_b64
  have hqM : b64.qmax = 971 := by decide
  have hT : b64.tails = 2 ^ 52 := tails_b64
  obtain ⟨c1, c2, c3, c4⟩ := hfit
  rw [hp] at c1
  have hq : -52 ≤ q := by
    refine Int.le_of_not_gt fun hlt => ?_
    rw [show (q - 0).toNat = 0 by omega, Nat.pow_zero, Nat.mul_one, Nat.mul_one] at hv
    have h1 : 2 ^ 53 ≤ 2 ^ (0 - q).toNat := Nat.pow_le_pow_right (by decide) (by omega)
    have h2 : 1 * 2 ^ (0 - q).toNat ≤ n.natAbs * 2 ^ (0 - q).toNat := Nat.mul_le_mul_right _ (by omega)
    omega
  have fit : FP.Core.fits b64 (.fin (decide (n < 0)) c (q - k)) := ⟨by rw [hp]; exact c1, by omega, by omega, Or.inr (by rcases c4 with c4 | c4 <;> omega)⟩
  refine ⟨of64 (.fin (decide (n < 0)) c (q - k)), ⟨_, _, _, val64_of64 fit⟩, ?_⟩
  unfold own_z
  rw [val64_of64 fit]
  show ((2 ^ k : Nat) : Int) * signed (decide (n < 0)) (inUnits c (q - k) b64.qmin) = _
  have e : 2 ^ k * inUnits c (q - k) b64.qmin = n.natAbs * one64 := by
    unfold inUnits
    rw [hqm, ← pow_qmin64, hqm]
    rw [show (- (-1074 : Int)).toNat = 1074 by decide]
    have h3 : n.natAbs * 2 ^ 1074 * 2 ^ (0 - q).toNat = 2 ^ k * (c * 2 ^ (q - k - -1074).toNat) * 2 ^ (0 - q).toNat := by
      generalize hE : (1074 : Nat) = E1
      have hE' : (E1 : Int) = 1074 := by omega
      calc n.natAbs * 2 ^ E1 * 2 ^ (0 - q).toNat = (n.natAbs * 2 ^ (0 - q).toNat) * 2 ^ E1 := by ac_rfl
        _ = (c * 1 * 2 ^ (q - 0).toNat) * 2 ^ E1 := by rw [hv]
        _ = c * (2 ^ ((q - 0).toNat + E1)) := by rw [Nat.mul_one, Nat.mul_assoc, ← Nat.pow_add]
        _ = c * (2 ^ (k + (q - k - -1074).toNat + (0 - q).toNat)) := by rw [show (q - 0).toNat + E1 = k + (q - k - -1074).toNat + (0 - q).toNat by omega]
        _ = 2 ^ k * (c * 2 ^ (q - k - -1074).toNat) * 2 ^ (0 - q).toNat := by rw [Nat.pow_add, Nat.pow_add]; ac_rfl
    exact (Nat.eq_of_mul_eq_mul_right (Nat.two_pow_pos _) h3).symm
  have e' : ((2 ^ k : Nat) : Int) * ((inUnits c (q - k) b64.qmin : Nat) : Int) = (n.natAbs : Int) * (one64 : Int) := by
    rw [← Int.natCast_mul, e, Int.natCast_mul]
  unfold signed
  by_cases hneg : n < 0
  · simp only [hneg, decide_true, if_true]
    have : (n.natAbs : Int) = -n := by omega
    rw [this, Int.neg_mul] at e'
    rw [Int.mul_neg]
    omega
  · simp only [hneg, decide_false, Bool.false_eq_true, if_false]
    have : (n.natAbs : Int) = n := by omega
    rw [this] at e'
    exact e'
theorem own_half (n : Int) (hn : n.natAbs ≤ 2 ^ 53) : ∃ V : UInt64, DFin V ∧ 2 * own_z V = n * (one64 : Int) := own_frac n 1 (by decide) hn
theorem own_conv {c d mV i b a j u : Nat} (h : i + b = a + j + u) : (c * 2 ^ i ≤ mV * 2 ^ j * d) ↔ (c * 2 ^ a * 2 ^ u ≤ mV * (d * 2 ^ b)) := by
  have h1 : c * 2 ^ i * 2 ^ b = c * 2 ^ a * 2 ^ u * 2 ^ j := by
    rw [Nat.mul_assoc, ← Nat.pow_add, h, Nat.pow_add, Nat.pow_add]; ac_rfl
  have h2 : mV * 2 ^ j * d * 2 ^ b = mV * (d * 2 ^ b) * 2 ^ j := by ac_rfl
  constructor
  · intro q
    have := Nat.mul_le_mul_right (2 ^ b) q
    rw [h1, h2] at this
    exact Nat.le_of_mul_le_mul_right this (Nat.two_pow_pos _)
  · intro q
    have := Nat.mul_le_mul_right (2 ^ j) q
    rw [← h1, ← h2] at this
    exact Nat.le_of_mul_le_mul_right this (Nat.two_pow_pos _)
theorem own_conv' {c d mV i b a j u : Nat} (h : i + b = a + j + u) : (mV * 2 ^ j * d ≤ c * 2 ^ i) ↔ (mV * (d * 2 ^ b) ≤ c * 2 ^ a * 2 ^ u) := by
  have h1 : c * 2 ^ i * 2 ^ b = c * 2 ^ a * 2 ^ u * 2 ^ j := by
    rw [Nat.mul_assoc, ← Nat.pow_add, h, Nat.pow_add, Nat.pow_add]; ac_rfl
  have h2 : mV * 2 ^ j * d * 2 ^ b = mV * (d * 2 ^ b) * 2 ^ j := by ac_rfl
  constructor
  · intro q
    have := Nat.mul_le_mul_right (2 ^ b) q
    rw [h1, h2] at this
    exact Nat.le_of_mul_le_mul_right this (Nat.two_pow_pos _)
  · intro q
    have := Nat.mul_le_mul_right (2 ^ j) q
    rw [← h1, ← h2] at this
    exact Nat.le_of_mul_le_mul_right this (Nat.two_pow_pos _)
/-- the quotient by a positive double: its shape, and its magnitude against any double's -/
theorem own_quot {x y : UInt64} (hx : DFin x) (hy : DFin y) (hp : 0 < own_z y) :
    sgn (val64 (ddiv x y)) = sgn (val64 x) ∧ val64 (ddiv x y) ≠ .nan ∧
    (∀ V : UInt64, val64 V ≠ .nan → zmag b64 (val64 x) * one64 ≤ zmag b64 (val64 V) * zmag b64 (val64 y) → zmag b64 (val64 (ddiv x y)) ≤ zmag b64 (val64 V)) ∧
    (∀ V : UInt64, zmag b64 (val64 V) * zmag b64 (val64 y) ≤ zmag b64 (val64 x) * one64 → zmag b64 (val64 V) ≤ zmag b64 (val64 (ddiv x y))) := by
  rw [val64_ddiv]
  have fx := val64_fits x
  have fy := val64_fits y
  unfold own_z zval at hp
  obtain ⟨s, c, q, h1⟩ := hx
  obtain ⟨t, d, r, h2⟩ := hy
  rw [h1] at fx ⊢
  rw [h2] at fy hp ⊢
  have hq0 : b64.qmin < 0 := qmin_neg good_b64
  have hz : zmag b64 (.fin t d r) = d * 2 ^ (r - b64.qmin).toNat := rfl
  have ht : t = false := by
    cases t with
    | false => rfl
    | true => simp only [signed, FP.Core.sgn, if_true] at hp; omega
  subst ht
  have hd : d ≠ 0 := by
    intro h0; subst h0
    rw [hz, Nat.zero_mul] at hp
    simp [signed, FP.Core.sgn] at hp
  have hd0 : 0 < d := Nat.pos_of_ne_zero hd
  have e : quotient b64 (.fin s c q) (.fin false d r) = roundRatio b64 (s != false) c d (q - r) := by
    show (if d = 0 then _ else _) = _
    rw [if_neg hd]
  rw [e, sgn_roundRatio]
  refine ⟨by cases s <;> rfl, roundRatio_ne_nan _ _ _ _ _, ?_, ?_⟩
  · intro V hV hle
    refine zmag_roundRatio_le good_b64 (e0 := min b64.qmin (q - r)) hd0 (val64_fits V) hV (by omega) (by omega) ?_
    refine (own_conv (a := (q - b64.qmin).toNat) (b := (r - b64.qmin).toNat) (u := (-b64.qmin).toNat) ?_).mpr ?_
    · have := fx.2.1; have := fy.2.1; omega
    · rw [pow_qmin64]; exact hle
  · intro V hle
    refine zmag_roundRatio_ge good_b64 (e0 := min b64.qmin (q - r)) hd0 (val64_fits V) (by omega) (by omega) ?_
    refine (own_conv' (a := (q - b64.qmin).toNat) (b := (r - b64.qmin).toNat) (u := (-b64.qmin).toNat) ?_).mpr ?_
    · have := fx.2.1; have := fy.2.1; omega
    · rw [pow_qmin64]; exact hle
theorem own_zpos {y : UInt64} (hp : 0 < own_z y) : own_z y = (zmag b64 (val64 y) : Int) := by
  unfold own_z zval signed at *
  by_cases h : sgn (val64 y) = true
  · rw [if_pos h] at hp; omega
  · rw [if_neg h]
theorem own_zdiv_le {x y V : UInt64} (hx : DFin x) (hy : DFin y) (hp : 0 < own_z y) (hV : val64 V ≠ .nan) (h : own_z x * (one64 : Int) ≤ own_z V * own_z y) : own_z (ddiv x y) ≤ own_z V := by
  obtain ⟨q1, q2, q3, q4⟩ := own_quot hx hy hp
  have q3 := q3 V hV
  have q4 := q4 V
  rw [own_zpos hp] at h
  have hB : 0 < zmag b64 (val64 y) := by have := own_zpos hp; omega
  unfold own_z zval at h ⊢
  rw [q1]
  generalize zmag b64 (val64 x) = A at *
  generalize zmag b64 (val64 y) = B at *
  generalize zmag b64 (val64 V) = M at *
  generalize zmag b64 (val64 (ddiv x y)) = D at *
  have c1 : ((A * one64 : Nat) : Int) = (A : Int) * (one64 : Int) := Int.natCast_mul _ _
  have c2 : ((M * B : Nat) : Int) = (M : Int) * (B : Int) := Int.natCast_mul _ _
  generalize sgn (val64 x) = sx at h ⊢
  generalize sgn (val64 V) = sV at h ⊢
  cases sx <;> cases sV <;> simp only [signed, if_true, Bool.false_eq_true, if_false, Int.neg_mul] at h ⊢
  · have := q3 (by omega); omega
  · have h3 : A * one64 = 0 ∧ M * B = 0 := by omega
    have h4 : M = 0 := by rcases Nat.mul_eq_zero.mp h3.2 with h | h <;> omega
    have := q3 (by omega); omega
  · omega
  · have := q4 (by omega); omega
theorem own_zdiv_ge {x y V : UInt64} (hx : DFin x) (hy : DFin y) (hp : 0 < own_z y) (hV : val64 V ≠ .nan) (h : own_z V * own_z y ≤ own_z x * (one64 : Int)) : own_z V ≤ own_z (ddiv x y) := by
  obtain ⟨q1, q2, q3, q4⟩ := own_quot hx hy hp
  have q3 := q3 V hV
  have q4 := q4 V
  rw [own_zpos hp] at h
  have hB : 0 < zmag b64 (val64 y) := by have := own_zpos hp; omega
  unfold own_z zval at h ⊢
  rw [q1]
  generalize zmag b64 (val64 x) = A at *
  generalize zmag b64 (val64 y) = B at *
  generalize zmag b64 (val64 V) = M at *
  generalize zmag b64 (val64 (ddiv x y)) = D at *
  have c1 : ((A * one64 : Nat) : Int) = (A : Int) * (one64 : Int) := Int.natCast_mul _ _
  have c2 : ((M * B : Nat) : Int) = (M : Int) * (B : Int) := Int.natCast_mul _ _
  generalize sgn (val64 x) = sx at h ⊢
  generalize sgn (val64 V) = sV at h ⊢
  cases sx <;> cases sV <;> simp only [signed, if_true, Bool.false_eq_true, if_false, Int.neg_mul] at h ⊢
  · have := q4 (by omega); omega
  · omega
  · have h3 : A * one64 = 0 ∧ M * B = 0 := by omega
    have h4 : M = 0 := by rcases Nat.mul_eq_zero.mp h3.2 with h | h <;> omega
    have := q3 (by omega); omega
  · have := q3 (by omega); omega
theorem own_zdiv {x y V : UInt64} (hx : DFin x) (hy : DFin y) (hp : 0 < own_z y) (hV : DFin V) (h : own_z x * (one64 : Int) = own_z V * own_z y) : DFin (ddiv x y) ∧ own_z (ddiv x y) = own_z V := by
  have a := own_zdiv_le hx hy hp hV.ne_nan (Int.le_of_eq h)
  have b := own_zdiv_ge hx hy hp hV.ne_nan (Int.le_of_eq h.symm)
  have e : own_z (ddiv x y) = own_z V := by omega
  exact ⟨own_zfin (own_quot hx hy hp).2.1 hV e, e⟩
/-- x is the number n / 2 -/
def own_DH (n : Int) (x : UInt64) : Prop := DFin x ∧ 2 * own_z x = n * (one64 : Int)
theorem own_DH.fin {n : Int} {x : UInt64} (h : own_DH n x) : DFin x := h.1
theorem own_DH.nn {n : Int} {x : UInt64} (h : own_DH n x) : Jvm.Free.Fl.NoNaN64 x := Jvm.Free.Fl.noNaN64_no.mpr h.1.notNaN
theorem own_DH.of_z {n : Int} {x V : UInt64} (hx : DFin x) (hV : 2 * own_z V = n * (one64 : Int)) (h : own_z x = own_z V) : own_DH n x := ⟨hx, by rw [h]; exact hV⟩
theorem own_dh_int {i : Int} {x : UInt64} (h : DInt i x) : own_DH (2 * i) x := by
  refine ⟨?_, by unfold own_z; rw [DInt_zval h, Int.mul_assoc]⟩
  unfold DInt at h
  unfold DFin
  cases hv : val64 x with
  | nan => rw [hv] at h; exact h.elim
  | inf s => rw [hv] at h; exact h.elim
  | fin s c q => exact ⟨s, c, q, rfl⟩
theorem own_dh_i2d (a : Int32) : own_DH (2 * a.toInt) (FP.i2d a) := own_dh_int (i2d_int a)
theorem own_dh_l2d (a : Int64) (h : a.toInt.natAbs ≤ 2 ^ 53) : own_DH (2 * a.toInt) (FP.l2d a) := own_dh_int (l2d_int h)
theorem own_dh_add {m n : Int} {x y : UInt64} (hx : own_DH m x) (hy : own_DH n y) (h : (m + n).natAbs ≤ 2 ^ 53) : own_DH (m + n) (FP.dadd x y) := by
  obtain ⟨V, hV, eV⟩ := own_half _ h
  have e : own_z x + own_z y = own_z V := by
    have h1 := hx.2; have h2 := hy.2
    rw [Int.add_mul] at eV
    omega
  obtain ⟨q1, q2⟩ := own_zadd hx.1 hy.1 hV e
  exact own_DH.of_z q1 eV q2
theorem own_dh_sub {m n : Int} {x y : UInt64} (hx : own_DH m x) (hy : own_DH n y) (h : (m - n).natAbs ≤ 2 ^ 53) : own_DH (m - n) (FP.dsub x y) := by
  obtain ⟨V, hV, eV⟩ := own_half _ h
  have e : own_z x - own_z y = own_z V := by
    have h1 := hx.2; have h2 := hy.2
    rw [Int.sub_mul] at eV
    omega
  obtain ⟨q1, q2⟩ := own_zsub hx.1 hy.1 hV e
  exact own_DH.of_z q1 eV q2
/-- a product of which the double of the value is a whole number k: 2 * (m/2) * (n/2) = k -/
theorem own_dh_mul {m n k : Int} {x y : UInt64} (hx : own_DH m x) (hy : own_DH n y) (hk : m * n = 2 * k) (h : k.natAbs ≤ 2 ^ 53) : own_DH k (FP.dmul x y) := by
  obtain ⟨V, hV, eV⟩ := own_half _ h
  have e : own_z x * own_z y = own_z V * (one64 : Int) := by
    have h1 := hx.2; have h2 := hy.2
    generalize (one64 : Int) = U at *
    have h3 : (2 * own_z x) * (2 * own_z y) = (m * U) * (n * U) := by rw [h1, h2]
    have h4 : (m * U) * (n * U) = (m * n) * (U * U) := by ac_rfl
    have h5 : (2 * own_z x) * (2 * own_z y) = 4 * (own_z x * own_z y) := by
      rw [show (4 : Int) = 2 * 2 by rfl]; ac_rfl
    have h6 : (m * n) * (U * U) = 4 * (own_z V * U) := by
      rw [hk, show (2 * k) * (U * U) = 2 * ((k * U) * U) by ac_rfl, ← eV]
      rw [show (4 : Int) = 2 * 2 by rfl]; ac_rfl
    have h7 : 4 * (own_z x * own_z y) = 4 * (own_z V * U) := by rw [← h5, h3, h4, h6]
    omega
  obtain ⟨q1, q2⟩ := own_zmul hx.1 hy.1 hV e
  exact own_DH.of_z q1 eV q2
theorem own_dh_cmp {m n : Int} {x y : UInt64} (hx : own_DH m x) (hy : own_DH n y) : FP.dcmp x y = some (compare m n) := by
  rw [show FP.dcmp x y = _ from own_zcmp hx.1 hy.1]
  have h1 := hx.2; have h2 := hy.2
  have hU : (0 : Int) < (one64 : Int) := by have := one64_pos; omega
  congr 1
  refine compare_congr ⟨fun q => ?_, fun q => ?_⟩ ⟨fun q => ?_, fun q => ?_⟩
  · have : m * (one64 : Int) < n * (one64 : Int) := by omega
    exact Int.lt_of_mul_lt_mul_right this (Int.le_of_lt hU)
  · have := Int.mul_lt_mul_of_pos_right q hU
    omega
  · have : m * (one64 : Int) = n * (one64 : Int) := by omega
    exact Int.eq_of_mul_eq_mul_right (Int.ne_of_gt hU) this
  · subst q; omega
theorem own_dh_div {m n k : Int} {x y : UInt64} (hx : own_DH m x) (hy : own_DH n y) (hn : 0 < n) (hk : 2 * m = k * n) (h : k.natAbs ≤ 2 ^ 53) : own_DH k (FP.ddiv x y) := by
  obtain ⟨V, hV, eV⟩ := own_half _ h
  have h1 := hx.2; have h2 := hy.2
  have hU : (0 : Int) < (one64 : Int) := by have := one64_pos; omega
  have hp : 0 < own_z y := by have := Int.mul_pos hn hU; omega
  have e : own_z x * (one64 : Int) = own_z V * own_z y := by
    generalize (one64 : Int) = U at *
    have h3 : (2 * own_z V) * (2 * own_z y) = (k * U) * (n * U) := by rw [eV, h2]
    have h4 : (k * U) * (n * U) = (k * n) * (U * U) := by ac_rfl
    have h5 : (2 * own_z V) * (2 * own_z y) = 4 * (own_z V * own_z y) := by rw [show (4 : Int) = 2 * 2 by rfl]; ac_rfl
    have h6 : (k * n) * (U * U) = 4 * (own_z x * U) := by
      rw [← hk, show (2 * m) * (U * U) = 2 * ((m * U) * U) by ac_rfl, ← h1, show (4 : Int) = 2 * 2 by rfl]; ac_rfl
    have h7 : 4 * (own_z x * U) = 4 * (own_z V * own_z y) := by rw [← h6, ← h4, ← h3, h5]
    omega
  obtain ⟨q1, q2⟩ := own_zdiv hx.1 hy.1 hp hV e
  exact own_DH.of_z q1 eV q2
end OwnFP

theorem d1_0 : decode prog_46_method_2_code 0 = .ok (.new 8, 3) := by decide +kernel
theorem d1_3 : decode prog_46_method_2_code 3 = .ok (.dup, 1) := by decide +kernel
theorem d1_4 : decode prog_46_method_2_code 4 = .ok (.dload_n 0, 1) := by decide +kernel
theorem d1_5 : decode prog_46_method_2_code 5 = .ok (.ldc2_w 22, 3) := by decide +kernel
theorem d1_8 : decode prog_46_method_2_code 8 = .ok (.iconst 1, 1) := by decide +kernel
theorem d1_9 : decode prog_46_method_2_code 9 = .ok (.invokespecial 24, 3) := by decide +kernel
theorem d1_12 : decode prog_46_method_2_code 12 = .ok (.areturn, 1) := by decide +kernel

theorem d2_0 : decode prog_46_method_1_code 0 = .ok (.aload_n 0, 1) := by decide +kernel
theorem d2_1 : decode prog_46_method_1_code 1 = .ok (.invokespecial 1, 3) := by decide +kernel
theorem d2_4 : decode prog_46_method_1_code 4 = .ok (.aload_n 0, 1) := by decide +kernel
theorem d2_5 : decode prog_46_method_1_code 5 = .ok (.dload_n 1, 1) := by decide +kernel
theorem d2_6 : decode prog_46_method_1_code 6 = .ok (.putfield 7, 3) := by decide +kernel
theorem d2_9 : decode prog_46_method_1_code 9 = .ok (.aload_n 0, 1) := by decide +kernel
theorem d2_10 : decode prog_46_method_1_code 10 = .ok (.dload_n 3, 1) := by decide +kernel
theorem d2_11 : decode prog_46_method_1_code 11 = .ok (.putfield 13, 3) := by decide +kernel
theorem d2_14 : decode prog_46_method_1_code 14 = .ok (.aload_n 0, 1) := by decide +kernel
theorem d2_15 : decode prog_46_method_1_code 15 = .ok (.iload 5, 2) := by decide +kernel
theorem d2_17 : decode prog_46_method_1_code 17 = .ok (.putfield 16, 3) := by decide +kernel
theorem d2_20 : decode prog_46_method_1_code 20 = .ok (.return_, 1) := by decide +kernel

theorem d4_0 : decode prog_46_method_6_code 0 = .ok (.dload_n 1, 1) := by decide +kernel
theorem d4_1 : decode prog_46_method_6_code 1 = .ok (.invokestatic 27, 3) := by decide +kernel
theorem d4_4 : decode prog_46_method_6_code 4 = .ok (.ifCond .ne 5, 3) := by decide +kernel
theorem d4_7 : decode prog_46_method_6_code 7 = .ok (.iconst 0, 1) := by decide +kernel
theorem d4_8 : decode prog_46_method_6_code 8 = .ok (.ireturn, 1) := by decide +kernel
theorem d4_9 : decode prog_46_method_6_code 9 = .ok (.aload_n 0, 1) := by decide +kernel
theorem d4_10 : decode prog_46_method_6_code 10 = .ok (.getfield 16, 3) := by decide +kernel
theorem d4_13 : decode prog_46_method_6_code 13 = .ok (.ifCond .eq 29, 3) := by decide +kernel
theorem d4_16 : decode prog_46_method_6_code 16 = .ok (.aload_n 0, 1) := by decide +kernel
theorem d4_17 : decode prog_46_method_6_code 17 = .ok (.getfield 7, 3) := by decide +kernel
theorem d4_20 : decode prog_46_method_6_code 20 = .ok (.dload_n 1, 1) := by decide +kernel
theorem d4_21 : decode prog_46_method_6_code 21 = .ok (.dcmp .g, 1) := by decide +kernel
theorem d4_22 : decode prog_46_method_6_code 22 = .ok (.ifCond .gt 16, 3) := by decide +kernel
theorem d4_25 : decode prog_46_method_6_code 25 = .ok (.dload_n 1, 1) := by decide +kernel
theorem d4_26 : decode prog_46_method_6_code 26 = .ok (.aload_n 0, 1) := by decide +kernel
theorem d4_27 : decode prog_46_method_6_code 27 = .ok (.getfield 13, 3) := by decide +kernel
theorem d4_30 : decode prog_46_method_6_code 30 = .ok (.dcmp .g, 1) := by decide +kernel
theorem d4_31 : decode prog_46_method_6_code 31 = .ok (.ifCond .gt 7, 3) := by decide +kernel
theorem d4_34 : decode prog_46_method_6_code 34 = .ok (.iconst 1, 1) := by decide +kernel
theorem d4_35 : decode prog_46_method_6_code 35 = .ok (.goto 30, 3) := by decide +kernel
theorem d4_38 : decode prog_46_method_6_code 38 = .ok (.iconst 0, 1) := by decide +kernel
theorem d4_39 : decode prog_46_method_6_code 39 = .ok (.goto 26, 3) := by decide +kernel
theorem d4_42 : decode prog_46_method_6_code 42 = .ok (.aload_n 0, 1) := by decide +kernel
theorem d4_43 : decode prog_46_method_6_code 43 = .ok (.getfield 7, 3) := by decide +kernel
theorem d4_46 : decode prog_46_method_6_code 46 = .ok (.dload_n 1, 1) := by decide +kernel
theorem d4_47 : decode prog_46_method_6_code 47 = .ok (.dcmp .g, 1) := by decide +kernel
theorem d4_48 : decode prog_46_method_6_code 48 = .ok (.ifCond .ge 16, 3) := by decide +kernel
theorem d4_51 : decode prog_46_method_6_code 51 = .ok (.dload_n 1, 1) := by decide +kernel
theorem d4_52 : decode prog_46_method_6_code 52 = .ok (.aload_n 0, 1) := by decide +kernel
theorem d4_53 : decode prog_46_method_6_code 53 = .ok (.getfield 13, 3) := by decide +kernel
theorem d4_56 : decode prog_46_method_6_code 56 = .ok (.dcmp .g, 1) := by decide +kernel
theorem d4_57 : decode prog_46_method_6_code 57 = .ok (.ifCond .ge 7, 3) := by decide +kernel
theorem d4_60 : decode prog_46_method_6_code 60 = .ok (.iconst 1, 1) := by decide +kernel
theorem d4_61 : decode prog_46_method_6_code 61 = .ok (.goto 4, 3) := by decide +kernel
theorem d4_64 : decode prog_46_method_6_code 64 = .ok (.iconst 0, 1) := by decide +kernel
theorem d4_65 : decode prog_46_method_6_code 65 = .ok (.ireturn, 1) := by decide +kernel

theorem d5_0 : decode jdk_117_method_8_code 0 = .ok (.dload_n 0, 1) := by decide +kernel
theorem d5_1 : decode jdk_117_method_8_code 1 = .ok (.invokestatic 38, 3) := by decide +kernel
theorem d5_4 : decode jdk_117_method_8_code 4 = .ok (.ldc2_w 111, 3) := by decide +kernel
theorem d5_7 : decode jdk_117_method_8_code 7 = .ok (.dcmp .g, 1) := by decide +kernel
theorem d5_8 : decode jdk_117_method_8_code 8 = .ok (.ifCond .gt 7, 3) := by decide +kernel
theorem d5_11 : decode jdk_117_method_8_code 11 = .ok (.iconst 1, 1) := by decide +kernel
theorem d5_12 : decode jdk_117_method_8_code 12 = .ok (.goto 4, 3) := by decide +kernel
theorem d5_15 : decode jdk_117_method_8_code 15 = .ok (.iconst 0, 1) := by decide +kernel
theorem d5_16 : decode jdk_117_method_8_code 16 = .ok (.ireturn, 1) := by decide +kernel

theorem pn_0 : plainFor x = true := by first | exact plainFor_of_name (by first | (simp [plainName, overriddenIn]; done) | decide +kernel) | decide +kernel

theorem pn_1 : plainFor (⟨"com/example/pass2/pass2/util/Interval", "atLeast", "(D)Lcom/example/pass2/pass2/util/Interval;"⟩ : MethodName) = true := by first | exact plainFor_of_name (by first | (simp [plainName, overriddenIn]; done) | decide +kernel) | decide +kernel

theorem pn_2 : plainFor (⟨"com/example/pass2/pass2/util/Interval", "<init>", "(DDZ)V"⟩ : MethodName) = true := by first | exact plainFor_of_name (by first | (simp [plainName, overriddenIn]; done) | decide +kernel) | decide +kernel

theorem pn_4 : plainFor (⟨"com/example/pass2/pass2/util/Interval", "contains", "(D)Z"⟩ : MethodName) = true := by first | exact plainFor_of_name (by first | (simp [plainName, overriddenIn]; done) | decide +kernel) | decide +kernel

theorem pn_5 : plainFor (⟨"java/lang/Double", "isFinite", "(D)Z"⟩ : MethodName) = true := by first | exact plainFor_of_name (by first | (simp [plainName, overriddenIn]; done) | decide +kernel) | decide +kernel

theorem pd__DDZ_V : parseMethodDescriptor "(DDZ)V" = some ⟨[.double, .double, .boolean], none⟩ := by decide +kernel
theorem pd___V : parseMethodDescriptor "()V" = some ⟨[], none⟩ := by decide +kernel
theorem pd__D_Z : parseMethodDescriptor "(D)Z" = some ⟨[.double], some .boolean⟩ := by decide +kernel
theorem pd__D_D : parseMethodDescriptor "(D)D" = some ⟨[.double], some .double⟩ := by decide +kernel
theorem pd__D_Lcom_example_pass2_pass2_util_Interval_ : parseMethodDescriptor "(D)Lcom/example/pass2/pass2/util/Interval;" = some ⟨[.double], some (.object "com/example/pass2/pass2/util/Interval")⟩ := by decide +kernel

def own_Qr (r : Option Value) (h0 : Heap) (n0 : Nat) (v : Option Value) (h : Heap) (L : List Loc) : Prop := v = r ∧ Fr n0 L ∧ h = h0
theorem own_lemax {g : UInt64} (h : FP.Core.DFin g) : ¬ (0 : Int32) < cmpValue (FP.dcmp (g &&& 0x7fffffffffffffff) 9218868437227405311) .g := by
  have h1 : Jvm.Free.Fl.NoNaN64 g := Jvm.Free.Fl.noNaN64_no.mpr h.notNaN
  rcases (FP.Core.le_max h.notNaN).mpr h with q | q <;> rw [show FP.dcmp (g &&& 0x7fffffffffffffff) 9218868437227405311 = _ from q] <;> decide
set_option maxRecDepth 65536 in
set_option maxHeartbeats 4000000 in
theorem rmFin (l : Launch) (Z : State) (a0 : Array Value) (hw : ∀ d ∈ tables_1, d.before a0 Z = true) (ws : List Jvm.Cond) (h0 : Heap) (n0 : Nat) (g : UInt64) (hg : FP.Core.DFin g) :
    own_C l Z (⟨"java/lang/Double", "isFinite", "(D)Z"⟩ : MethodName) jdk_117_method_8_code 2 (some .boolean) ws ({ frames := 1, cells := 0, slots := 0, locals := 13 } : Room) #[(.double g)] h0 (own_Qr (some (.int 1)) h0 n0) := by
  refine own_body (ls := #[.val (.double g), .second]) pn_5 (fun m => by first | rfl | (simp [entryFrame, mkF, argsToLocals, Value.category]; done)) ?_
  intro p e s m below meth c T0 hZ hx hby hml hown hnm hret hlk X0 e0
  replace hml : c.maxLocals = 2 := hml
  have N0 := Fr.nil n0
  refine own_go (fun _ => XS.dloadN X0.here hx rfl (hb hby d5_0) rfl ) ?_
  show own_R p.tables e below _ T0 (mkF m 1 #[.val (.double g), .second] [(.double g)])
  have ng : Jvm.Free.Fl.NoNaN64 g := Jvm.Free.Fl.noNaN64_no.mpr hg.notNaN
  obtain ⟨T1, X1, e1, st1⟩ := natS X0 hx hZ (y := Jvm.Free.Fl.Abs.absDN) hown (hw _ (List.mem_of_getElem? (i := 29) rfl)) (hw _ (List.mem_of_getElem? (i := 30) rfl)) (hw _ (List.mem_of_getElem? (i := 31) rfl)) (hw _ (List.mem_of_getElem? (i := 32) rfl)) (by decide) e0 (W := 0) (F := fun a' => a' = #[.double g] ∧ Jvm.Free.Fl.NoNaN64 g) (val := .double (g &&& 0x7fffffffffffffff)) (val' := .double (g &&& 0x7fffffffffffffff)) (fun hc => Jvm.Free.Fl.Abs.absD_pays (W := 0) g hc (by decide) (by decide)) (g := (mkF m 1 #[.val (.double g), .second] [(.double g)])) rfl (by rw [hml]; rfl) (argsL := [(.double g)]) (rest := []) (lenOf pd__D_D rfl) rfl (by show 2 * 0 + _ ≤ _; exact Nat.le_of_eq rfl) (hb hby d5_1) (by decide) (by decide) ⟨rfl, ng⟩ rfl
  refine own_go st1 ?_
  show own_R p.tables e below _ T1 (mkF m 4 #[.val (.double g), .second] [(.double (g &&& 0x7fffffffffffffff))])
  refine own_go (X1.ldc2DoubleC hx hown (mvT hZ (hw _ (List.mem_of_getElem? (i := 33) rfl))) (g := (mkF m 4 #[.val (.double g), .second] [(.double (g &&& 0x7fffffffffffffff))])) rfl (hb hby d5_4)) ?_
  show own_R p.tables e below _ T1 (mkF m 7 #[.val (.double g), .second] [(.double (9218868437227405311 : UInt64)), (.double (g &&& 0x7fffffffffffffff))])
  refine own_go (fun _ => XS.dcmpS X1.here hx rfl (hb hby d5_7) rfl rfl) ?_
  show own_R p.tables e below _ T1 (mkF m 8 #[.val (.double g), .second] [(.int (cmpValue (FP.dcmp (g &&& 0x7fffffffffffffff) (9218868437227405311 : UInt64)) .g))])
  refine own_go (fun _ => XS.ifNo X1.here hx rfl (hb hby d5_8) rfl ((if0 _ _).trans (flt (own_lemax hg)).2.2.1)) ?_
  show own_R p.tables e below _ T1 (mkF m 11 #[.val (.double g), .second] [])
  refine own_go (fun _ => XS.iconst X1.here hx rfl (hb hby d5_11)) ?_
  show own_R p.tables e below _ T1 (mkF m 12 #[.val (.double g), .second] [(.int (1 : Int32))])
  refine own_go (fun _ => XS.goto X1.here hx rfl (pc0 := 12) (pc' := 16) rfl (hb hby d5_12) (by decide) (by decide)) ?_
  show own_R p.tables e below _ T1 (mkF m 16 #[.val (.double g), .second] [(.int (1 : Int32))])
  exact own_end X1 (some (.int (1 : Int32))) (fun h => by rw [hret] at h; cases h) hlk (fun fs hr => retN X1 hx (t := .boolean) hret (by simp) (hb hby d5_16) hr) ⟨rfl, N0, e1⟩ (by decide) (by decide)
def own_Qi (Z : State) (a : Addr) (mn mx : UInt64) (bi : Int32) (h0 : Heap) (n0 : Nat) (v : Option Value) (h : Heap) (L : List Loc) : Prop := v = none ∧ Fr n0 L ∧ Keep h0 h [a] ∧ Exa Z h a "com/example/pass2/pass2/util/Interval" ∧ Fld Z h a "com/example/pass2/pass2/util/Interval" "min" "D" (.double mn) ∧ Fld Z h a "com/example/pass2/pass2/util/Interval" "max" "D" (.double mx) ∧ Fld Z h a "com/example/pass2/pass2/util/Interval" "boundsIncluded" "Z" (.int bi)
set_option maxRecDepth 65536 in
set_option maxHeartbeats 4000000 in
theorem rmInit (l : Launch) (Z : State) (a0 : Array Value) (hw : ∀ d ∈ tables_1, d.before a0 Z = true) (ws : List Jvm.Cond) (h0 : Heap) (n0 : Nat) (a : Addr) (mn mx : UInt64) (bi : Int32) (g9 : n0 ≤ a) (hbi : bi = 0 ∨ bi = 1) (E : Exa Z h0 a "com/example/pass2/pass2/util/Interval") (Fmin : Fld Z h0 a "com/example/pass2/pass2/util/Interval" "min" "D" (.double 0)) (Fmax : Fld Z h0 a "com/example/pass2/pass2/util/Interval" "max" "D" (.double 0)) (FboundsIncluded : Fld Z h0 a "com/example/pass2/pass2/util/Interval" "boundsIncluded" "Z" (.int 0)) :
    own_C l Z (⟨"com/example/pass2/pass2/util/Interval", "<init>", "(DDZ)V"⟩ : MethodName) prog_46_method_1_code 6 none ws ({ frames := 1, cells := 0, slots := 0, locals := 12 } : Room) #[(.ref a), (.double mn), (.double mx), (.int bi)] h0 (own_Qi Z a mn mx bi h0 n0) := by
  refine own_body (ls := #[.val (.ref a), .val (.double mn), .second, .val (.double mx), .second, .val (.int bi)]) pn_2 (fun m => by first | rfl | (simp [entryFrame, mkF, argsToLocals, Value.category]; done)) ?_
  intro p e s m below meth c T0 hZ hx hby hml hown hnm hret hlk X0 e0
  replace hml : c.maxLocals = 6 := hml
  have N0 := Fr.nil n0
  refine own_go (fun _ => XS.aloadN X0.here hx rfl (hb hby d2_0) rfl rfl) ?_
  show own_R p.tables e below _ T0 (mkF m 1 #[.val (.ref a), .val (.double mn), .second, .val (.double mx), .second, .val (.int bi)] [(.ref a)])
  obtain ⟨T1, X1, e1, st1⟩ := initO X0 hx hZ hown (hw _ (List.mem_of_getElem? (i := 11) rfl)) (hw _ (List.mem_of_getElem? (i := 12) rfl)) (hw _ (List.mem_of_getElem? (i := 13) rfl)) e0 (g := (mkF m 1 #[.val (.ref a), .val (.double mn), .second, .val (.double mx), .second, .val (.int bi)] [(.ref a)])) rfl (by rw [hml]; rfl) rfl (hb hby d2_1) (by decide) (W := 0) (by show 2 * 0 + _ ≤ _; exact Nat.le_of_eq rfl) (by decide)
  refine own_go st1 ?_
  show own_R p.tables e below _ T1 (mkF m 4 #[.val (.ref a), .val (.double mn), .second, .val (.double mx), .second, .val (.int bi)] [])
  refine own_go (fun _ => XS.aloadN X1.here hx rfl (hb hby d2_4) rfl rfl) ?_
  show own_R p.tables e below _ T1 (mkF m 5 #[.val (.ref a), .val (.double mn), .second, .val (.double mx), .second, .val (.int bi)] [(.ref a)])
  refine own_go (fun _ => XS.dloadN X1.here hx rfl (hb hby d2_5) rfl ) ?_
  show own_R p.tables e below _ T1 (mkF m 6 #[.val (.ref a), .val (.double mn), .second, .val (.double mx), .second, .val (.int bi)] [(.double mn), (.ref a)])
  obtain ⟨T2, h2, X2, e2, W2, st2⟩ := putF X1 hx hZ hown (host := "") (Or.inl (hw _ (List.mem_of_getElem? (i := 14) rfl))) Via.refl e1 Fmin E (Or.inr ⟨(hw _ (List.mem_of_getElem? (i := 15) rfl)), rfl, hnm⟩) (hw _ (List.mem_of_getElem? (i := 6) rfl)) (ty := .double) (by decide) rfl rfl (g := (mkF m 6 #[.val (.ref a), .val (.double mn), .second, .val (.double mx), .second, .val (.int bi)] [(.double mn), (.ref a)])) rfl rfl (hb hby d2_6)
  refine own_go st2 ?_
  show own_R p.tables e below _ T2 (mkF m 9 #[.val (.ref a), .val (.double mn), .second, .val (.double mx), .second, .val (.int bi)] [])
  have N2 := Fr.snoc X2 N0 g9
  have K2 : Keep h0 h2 [a] := (Keep.refl h0 [a]).wr W2 (Or.inl (List.mem_singleton.mpr rfl))
  have E2 : Exa Z h2 a "com/example/pass2/pass2/util/Interval" := E.wr W2
  have Fmin2 := Fmin.same W2
  have Fmax2 := Fmax.other W2 (Or.inr (slot_ne (Or.inr (hw _ (List.mem_of_getElem? (i := 17) rfl))) (Or.inr (hw _ (List.mem_of_getElem? (i := 15) rfl))) (by decide) (t := .double) (t' := .double) (by decide) (by decide)))
  have FboundsIncluded2 := FboundsIncluded.other W2 (Or.inr (slot_ne (Or.inr (hw _ (List.mem_of_getElem? (i := 19) rfl))) (Or.inr (hw _ (List.mem_of_getElem? (i := 15) rfl))) (by decide) (t := .boolean) (t' := .double) (by decide) (by decide)))
  refine own_go (fun _ => XS.aloadN X2.here hx rfl (hb hby d2_9) rfl rfl) ?_
  show own_R p.tables e below _ T2 (mkF m 10 #[.val (.ref a), .val (.double mn), .second, .val (.double mx), .second, .val (.int bi)] [(.ref a)])
  refine own_go (fun _ => XS.dloadN X2.here hx rfl (hb hby d2_10) rfl ) ?_
  show own_R p.tables e below _ T2 (mkF m 11 #[.val (.ref a), .val (.double mn), .second, .val (.double mx), .second, .val (.int bi)] [(.double mx), (.ref a)])
  obtain ⟨T3, h3, X3, e3, W3, st3⟩ := putF X2 hx hZ hown (host := "") (Or.inl (hw _ (List.mem_of_getElem? (i := 16) rfl))) Via.refl e2 Fmax2 E2 (Or.inr ⟨(hw _ (List.mem_of_getElem? (i := 17) rfl)), rfl, hnm⟩) (hw _ (List.mem_of_getElem? (i := 6) rfl)) (ty := .double) (by decide) rfl rfl (g := (mkF m 11 #[.val (.ref a), .val (.double mn), .second, .val (.double mx), .second, .val (.int bi)] [(.double mx), (.ref a)])) rfl rfl (hb hby d2_11)
  refine own_go st3 ?_
  show own_R p.tables e below _ T3 (mkF m 14 #[.val (.ref a), .val (.double mn), .second, .val (.double mx), .second, .val (.int bi)] [])
  have N3 := Fr.snoc X3 N2 g9
  have K3 : Keep h0 h3 [a] := K2.wr W3 (Or.inl (List.mem_singleton.mpr rfl))
  have E3 : Exa Z h3 a "com/example/pass2/pass2/util/Interval" := E2.wr W3
  have Fmin3 := Fmin2.other W3 (Or.inr (slot_ne (Or.inr (hw _ (List.mem_of_getElem? (i := 15) rfl))) (Or.inr (hw _ (List.mem_of_getElem? (i := 17) rfl))) (by decide) (t := .double) (t' := .double) (by decide) (by decide)))
  have Fmax3 := Fmax2.same W3
  have FboundsIncluded3 := FboundsIncluded2.other W3 (Or.inr (slot_ne (Or.inr (hw _ (List.mem_of_getElem? (i := 19) rfl))) (Or.inr (hw _ (List.mem_of_getElem? (i := 17) rfl))) (by decide) (t := .boolean) (t' := .double) (by decide) (by decide)))
  refine own_go (fun _ => XS.aloadN X3.here hx rfl (hb hby d2_14) rfl rfl) ?_
  show own_R p.tables e below _ T3 (mkF m 15 #[.val (.ref a), .val (.double mn), .second, .val (.double mx), .second, .val (.int bi)] [(.ref a)])
  refine own_go (fun _ => XS.iload X3.here hx rfl (hb hby d2_15) rfl ) ?_
  show own_R p.tables e below _ T3 (mkF m 17 #[.val (.ref a), .val (.double mn), .second, .val (.double mx), .second, .val (.int bi)] [(.int bi), (.ref a)])
  obtain ⟨T4, h4, X4, e4, W4, st4⟩ := putF X3 hx hZ hown (host := "") (Or.inl (hw _ (List.mem_of_getElem? (i := 18) rfl))) Via.refl e3 FboundsIncluded3 E3 (Or.inr ⟨(hw _ (List.mem_of_getElem? (i := 19) rfl)), rfl, hnm⟩) (hw _ (List.mem_of_getElem? (i := 6) rfl)) (ty := .boolean) (by decide) (by rcases hbi with rfl | rfl <;> rfl) (by rcases hbi with rfl | rfl <;> rfl) (g := (mkF m 17 #[.val (.ref a), .val (.double mn), .second, .val (.double mx), .second, .val (.int bi)] [(.int bi), (.ref a)])) rfl rfl (hb hby d2_17)
  refine own_go st4 ?_
  show own_R p.tables e below _ T4 (mkF m 20 #[.val (.ref a), .val (.double mn), .second, .val (.double mx), .second, .val (.int bi)] [])
  have N4 := Fr.snoc X4 N3 g9
  have K4 : Keep h0 h4 [a] := K3.wr W4 (Or.inl (List.mem_singleton.mpr rfl))
  have E4 : Exa Z h4 a "com/example/pass2/pass2/util/Interval" := E3.wr W4
  have Fmin4 := Fmin3.other W4 (Or.inr (slot_ne (Or.inr (hw _ (List.mem_of_getElem? (i := 15) rfl))) (Or.inr (hw _ (List.mem_of_getElem? (i := 19) rfl))) (by decide) (t := .double) (t' := .boolean) (by decide) (by decide)))
  have Fmax4 := Fmax3.other W4 (Or.inr (slot_ne (Or.inr (hw _ (List.mem_of_getElem? (i := 17) rfl))) (Or.inr (hw _ (List.mem_of_getElem? (i := 19) rfl))) (by decide) (t := .double) (t' := .boolean) (by decide) (by decide)))
  have FboundsIncluded4 := FboundsIncluded3.same W4
  exact own_end X4 none (fun _ => rfl) hlk (fun fs hr => X4.returnOut hx hret (hb hby d2_20) hr) (by show own_Qi Z a mn mx bi h0 n0 _ T4.heap _; rw [e4]; exact ⟨rfl, N4, K4, E4, Fmin4, Fmax4, FboundsIncluded4⟩) (by decide) (by decide)
def own_Qm (Z : State) (mn : UInt64) (h0 : Heap) (n0 : Nat) (v : Option Value) (h : Heap) (L : List Loc) : Prop := ∃ a, v = some (.ref a) ∧ Fr n0 L ∧ Exa Z h a "com/example/pass2/pass2/util/Interval" ∧ Fld Z h a "com/example/pass2/pass2/util/Interval" "min" "D" (.double mn) ∧ Fld Z h a "com/example/pass2/pass2/util/Interval" "max" "D" (.double 9218868437227405312) ∧ Fld Z h a "com/example/pass2/pass2/util/Interval" "boundsIncluded" "Z" (.int 1)
set_option maxRecDepth 65536 in
set_option maxHeartbeats 4000000 in
theorem rmMk (l : Launch) (Z : State) (a0 : Array Value) (hw : ∀ d ∈ tables_1, d.before a0 Z = true) (ws : List Jvm.Cond) (h0 : Heap) (n0 : Nat) (mn : UInt64) (Z0 : n0 ≤ h0.size) :
    own_C l Z (⟨"com/example/pass2/pass2/util/Interval", "atLeast", "(D)Lcom/example/pass2/pass2/util/Interval;"⟩ : MethodName) prog_46_method_2_code 2 (some (.object "com/example/pass2/pass2/util/Interval")) ws ({ frames := 2, cells := 1, slots := 3, locals := 32 } : Room) #[(.double mn)] h0 (own_Qm Z mn h0 n0) := by
  refine own_body (ls := #[.val (.double mn), .second]) pn_1 (fun m => by first | rfl | (simp [entryFrame, mkF, argsToLocals, Value.category]; done)) ?_
  intro p e s m below meth c T0 hZ hx hby hml hown hnm hret hlk X0 e0
  replace hml : c.maxLocals = 2 := hml
  have N0 := Fr.nil n0
  obtain ⟨T1, h1, X1, e1, E1, A1, D1, -, st1⟩ := newO X0 hx hZ hown (hw _ (List.mem_of_getElem? (i := 5) rfl)) (hw _ (List.mem_of_getElem? (i := 6) rfl)) (hw _ (List.mem_of_getElem? (i := 3) rfl)) e0 (g := (mkF m 0 #[.val (.double mn), .second] [])) rfl (hb hby d1_0) (by decide) (by decide)
  obtain ⟨a1, g1⟩ : ∃ z, z = h0.size := ⟨_, rfl⟩
  rw [← g1] at A1 D1 st1
  refine own_go st1 ?_
  show own_R p.tables e below _ T1 (mkF m 3 #[.val (.double mn), .second] [(.ref a1)])
  refine own_go (fun _ => XS.dup X1.here hx rfl (hb hby d1_3) rfl rfl) ?_
  show own_R p.tables e below _ T1 (mkF m 4 #[.val (.double mn), .second] [(.ref a1), (.ref a1)])
  refine own_go (fun _ => XS.dloadN X1.here hx rfl (hb hby d1_4) rfl ) ?_
  show own_R p.tables e below _ T1 (mkF m 5 #[.val (.double mn), .second] [(.double mn), (.ref a1), (.ref a1)])
  refine own_go (X1.ldc2DoubleC hx hown (mvT hZ (hw _ (List.mem_of_getElem? (i := 7) rfl))) (g := (mkF m 5 #[.val (.double mn), .second] [(.double mn), (.ref a1), (.ref a1)])) rfl (hb hby d1_5)) ?_
  show own_R p.tables e below _ T1 (mkF m 8 #[.val (.double mn), .second] [(.double (9218868437227405312 : UInt64)), (.double mn), (.ref a1), (.ref a1)])
  refine own_go (fun _ => XS.iconst X1.here hx rfl (hb hby d1_8)) ?_
  show own_R p.tables e below _ T1 (mkF m 9 #[.val (.double mn), .second] [(.int (1 : Int32)), (.double (9218868437227405312 : UInt64)), (.double mn), (.ref a1), (.ref a1)])
  have g1a : n0 ≤ a1 := Nat.le_trans Z0 (Nat.le_of_eq g1.symm)
  obtain ⟨v2, T2, L2, X2, Q2, st2⟩ := own_callI X1 hx hZ hown (y := (⟨"com/example/pass2/pass2/util/Interval", "<init>", "(DDZ)V"⟩ : MethodName)) rfl (hw _ (List.mem_of_getElem? (i := 8) rfl)) (hw _ (List.mem_of_getElem? (i := 9) rfl)) (hw _ (List.mem_of_getElem? (i := 10) rfl)) (hw _ (List.mem_of_getElem? (i := 3) rfl)) (by decide) (rmInit l Z a0 hw [] h1 n0 a1 mn 9218868437227405312 1 g1a (by decide) A1 (D1 (Or.inr (hw _ (List.mem_of_getElem? (i := 15) rfl))) (ty := .double) (by decide)) (D1 (Or.inr (hw _ (List.mem_of_getElem? (i := 17) rfl))) (ty := .double) (by decide)) (D1 (Or.inr (hw _ (List.mem_of_getElem? (i := 19) rfl))) (ty := .boolean) (by decide))) (W := 1) (g := (mkF m 9 #[.val (.double mn), .second] [(.int (1 : Int32)), (.double (9218868437227405312 : UInt64)), (.double mn), (.ref a1), (.ref a1)])) rfl (by rw [hml]; rfl) (a := a1) (argsL := [(.double mn), (.double (9218868437227405312 : UInt64)), (.int (1 : Int32))]) (rest := [(.ref a1)]) (lenOf pd__DDZ_V rfl) rfl rfl (by show 2 * 0 + _ ≤ _; exact Nat.le_of_eq rfl) (hb hby d1_9) e1 (by decide) (by decide) (by decide) (by decide)
  obtain ⟨rfl, N2q, K2, E2, Fa, Fb, Fc⟩ := Q2
  have N2 := Fr.app N0 N2q
  refine own_go st2 ?_
  show own_R p.tables e below _ T2 (mkF m 12 #[.val (.double mn), .second] [(.ref a1)])
  exact own_end X2 (some (.ref a1)) (fun h => by rw [hret] at h; cases h) hlk (fun fs hr => own_retA X2 hx hret rfl rfl (hb hby d1_12) hr) ⟨a1, rfl, N2, E2, Fa, Fb, Fc⟩ (by decide) (by decide)
def own_rc (mn v : UInt64) : Int32 := if 0 < cmpValue (FP.dcmp mn v) .g then 0 else 1
set_option maxRecDepth 65536 in
set_option maxHeartbeats 4000000 in
theorem rmCon (l : Launch) (Z : State) (a0 : Array Value) (hw : ∀ d ∈ tables_1, d.before a0 Z = true) (ws : List Jvm.Cond) (h0 : Heap) (n0 : Nat) (a : Addr) (mn v : UInt64) (hv : FP.Core.DFin v) (E : Exa Z h0 a "com/example/pass2/pass2/util/Interval") (Fa : Fld Z h0 a "com/example/pass2/pass2/util/Interval" "min" "D" (.double mn)) (Fb : Fld Z h0 a "com/example/pass2/pass2/util/Interval" "max" "D" (.double 9218868437227405312)) (Fc : Fld Z h0 a "com/example/pass2/pass2/util/Interval" "boundsIncluded" "Z" (.int 1)) :
    own_C l Z (⟨"com/example/pass2/pass2/util/Interval", "contains", "(D)Z"⟩ : MethodName) prog_46_method_6_code 3 (some .boolean) ws ({ frames := 2, cells := 0, slots := 0, locals := 32 } : Room) #[(.ref a), (.double v)] h0 (own_Qr (some (.int (own_rc mn v))) h0 n0) := by
  refine own_body (ls := #[.val (.ref a), .val (.double v), .second]) pn_4 (fun m => by first | rfl | (simp [entryFrame, mkF, argsToLocals, Value.category]; done)) ?_
  intro p e s m below meth c T0 hZ hx hby hml hown hnm hret hlk X0 e0
  replace hml : c.maxLocals = 3 := hml
  have N0 := Fr.nil n0
  refine own_go (fun _ => XS.dloadN X0.here hx rfl (hb hby d4_0) rfl ) ?_
  show own_R p.tables e below _ T0 (mkF m 1 #[.val (.ref a), .val (.double v), .second] [(.double v)])
  obtain ⟨v1, T1, L1, X1, Q1, st1⟩ := own_callS X0 hx hZ hown (y := (⟨"java/lang/Double", "isFinite", "(D)Z"⟩ : MethodName)) (hw _ (List.mem_of_getElem? (i := 25) rfl)) (hw _ (List.mem_of_getElem? (i := 26) rfl)) (hw _ (List.mem_of_getElem? (i := 27) rfl)) (hw _ (List.mem_of_getElem? (i := 28) rfl)) (by decide) (rmFin l Z a0 hw [] h0 n0 v hv) (W := 0) (g := (mkF m 1 #[.val (.ref a), .val (.double v), .second] [(.double v)])) rfl (by rw [hml]; rfl) (argsL := [(.double v)]) (rest := []) (lenOf pd__D_Z rfl) rfl rfl (by show 2 * 0 + _ ≤ _; exact Nat.le_of_eq rfl) (hb hby d4_1) e0 (by decide) (by decide) (by decide) (by decide)
  obtain ⟨rfl, N1q, e1⟩ := Q1
  have N1 := Fr.app N0 N1q
  refine own_go st1 ?_
  show own_R p.tables e below _ T1 (mkF m 4 #[.val (.ref a), .val (.double v), .second] [(.int (1 : Int32))])
  refine own_go (fun _ => XS.ifYes X1.here hx rfl (pc0 := 4) (pc' := 9) rfl (hb hby d4_4) rfl ((if0 _ _).trans (feq (by decide)).2) (by decide) (by decide)) ?_
  show own_R p.tables e below _ T1 (mkF m 9 #[.val (.ref a), .val (.double v), .second] [])
  refine own_go (fun _ => XS.aloadN X1.here hx rfl (hb hby d4_9) rfl rfl) ?_
  show own_R p.tables e below _ T1 (mkF m 10 #[.val (.ref a), .val (.double v), .second] [(.ref a)])
  obtain ⟨T2, X2, e2, st2⟩ := getF X1 hx hZ hown (host := "") (Or.inl (hw _ (List.mem_of_getElem? (i := 18) rfl))) Via.refl e1 Fc (g := (mkF m 10 #[.val (.ref a), .val (.double v), .second] [(.ref a)])) rfl rfl (hb hby d4_10)
  refine own_go st2 ?_
  show own_R p.tables e below _ T2 (mkF m 13 #[.val (.ref a), .val (.double v), .second] [(.int (1 : Int32))])
  refine own_go (fun _ => XS.ifNo X2.here hx rfl (hb hby d4_13) rfl ((if0 _ _).trans (feq (by decide)).1)) ?_
  show own_R p.tables e below _ T2 (mkF m 16 #[.val (.ref a), .val (.double v), .second] [])
  refine own_go (fun _ => XS.aloadN X2.here hx rfl (hb hby d4_16) rfl rfl) ?_
  show own_R p.tables e below _ T2 (mkF m 17 #[.val (.ref a), .val (.double v), .second] [(.ref a)])
  obtain ⟨T3, X3, e3, st3⟩ := getF X2 hx hZ hown (host := "") (Or.inl (hw _ (List.mem_of_getElem? (i := 14) rfl))) Via.refl e2 Fa (g := (mkF m 17 #[.val (.ref a), .val (.double v), .second] [(.ref a)])) rfl rfl (hb hby d4_17)
  refine own_go st3 ?_
  show own_R p.tables e below _ T3 (mkF m 20 #[.val (.ref a), .val (.double v), .second] [(.double mn)])
  refine own_go (fun _ => XS.dloadN X3.here hx rfl (hb hby d4_20) rfl ) ?_
  show own_R p.tables e below _ T3 (mkF m 21 #[.val (.ref a), .val (.double v), .second] [(.double v), (.double mn)])
  refine own_go (fun _ => XS.dcmpS X3.here hx rfl (hb hby d4_21) rfl rfl) ?_
  show own_R p.tables e below _ T3 (mkF m 22 #[.val (.ref a), .val (.double v), .second] [(.int (cmpValue (FP.dcmp mn v) .g))])
  have hpi := dcmp_pinf (Jvm.Free.Fl.fin64_core.mpr hv) .g
  by_cases h1 : (0 : Int32) < (cmpValue (FP.dcmp mn v) .g)
  · show own_R p.tables e below _ T3 (mkF m 22 #[.val (.ref a), .val (.double v), .second] [(.int (cmpValue (FP.dcmp mn v) .g))])
    refine own_go (fun _ => XS.ifYes X3.here hx rfl (pc0 := 22) (pc' := 38) rfl (hb hby d4_22) rfl ((if0 _ _).trans (tlt h1).2.2.1) (by decide) (by decide)) ?_
    show own_R p.tables e below _ T3 (mkF m 38 #[.val (.ref a), .val (.double v), .second] [])
    refine own_go (fun _ => XS.iconst X3.here hx rfl (hb hby d4_38)) ?_
    show own_R p.tables e below _ T3 (mkF m 39 #[.val (.ref a), .val (.double v), .second] [(.int (0 : Int32))])
    refine own_go (fun _ => XS.goto X3.here hx rfl (pc0 := 39) (pc' := 65) rfl (hb hby d4_39) (by decide) (by decide)) ?_
    show own_R p.tables e below _ T3 (mkF m 65 #[.val (.ref a), .val (.double v), .second] [(.int (0 : Int32))])
    have ev : own_rc mn v = 0 := if_pos h1
    exact own_end X3 (some (.int (0 : Int32))) (fun h => by rw [hret] at h; cases h) hlk (fun fs hr => retN X3 hx (t := .boolean) hret (by simp) (hb hby d4_65) hr) ⟨by rw [ev], N1, e3⟩ (by decide) (by decide)
  · show own_R p.tables e below _ T3 (mkF m 22 #[.val (.ref a), .val (.double v), .second] [(.int (cmpValue (FP.dcmp mn v) .g))])
    refine own_go (fun _ => XS.ifNo X3.here hx rfl (hb hby d4_22) rfl ((if0 _ _).trans (flt h1).2.2.1)) ?_
    show own_R p.tables e below _ T3 (mkF m 25 #[.val (.ref a), .val (.double v), .second] [])
    refine own_go (fun _ => XS.dloadN X3.here hx rfl (hb hby d4_25) rfl ) ?_
    show own_R p.tables e below _ T3 (mkF m 26 #[.val (.ref a), .val (.double v), .second] [(.double v)])
    refine own_go (fun _ => XS.aloadN X3.here hx rfl (hb hby d4_26) rfl rfl) ?_
    show own_R p.tables e below _ T3 (mkF m 27 #[.val (.ref a), .val (.double v), .second] [(.ref a), (.double v)])
    obtain ⟨T4, X4, e4, st4⟩ := getF X3 hx hZ hown (host := "") (Or.inl (hw _ (List.mem_of_getElem? (i := 16) rfl))) Via.refl e3 Fb (g := (mkF m 27 #[.val (.ref a), .val (.double v), .second] [(.ref a), (.double v)])) rfl rfl (hb hby d4_27)
    refine own_go st4 ?_
    show own_R p.tables e below _ T4 (mkF m 30 #[.val (.ref a), .val (.double v), .second] [(.double 9218868437227405312), (.double v)])
    refine own_go (fun _ => XS.dcmpS X4.here hx rfl (hb hby d4_30) rfl rfl) ?_
    show own_R p.tables e below _ T4 (mkF m 31 #[.val (.ref a), .val (.double v), .second] [(.int (cmpValue (FP.dcmp v 9218868437227405312) .g))])
    refine own_go (fun _ => XS.ifNo X4.here hx rfl (hb hby d4_31) rfl ((if0 _ _).trans (flt (by rw [hpi]; decide)).2.2.1)) ?_
    show own_R p.tables e below _ T4 (mkF m 34 #[.val (.ref a), .val (.double v), .second] [])
    refine own_go (fun _ => XS.iconst X4.here hx rfl (hb hby d4_34)) ?_
    show own_R p.tables e below _ T4 (mkF m 35 #[.val (.ref a), .val (.double v), .second] [(.int (1 : Int32))])
    refine own_go (fun _ => XS.goto X4.here hx rfl (pc0 := 35) (pc' := 65) rfl (hb hby d4_35) (by decide) (by decide)) ?_
    show own_R p.tables e below _ T4 (mkF m 65 #[.val (.ref a), .val (.double v), .second] [(.int (1 : Int32))])
    have ev : own_rc mn v = 1 := if_neg h1
    exact own_end X4 (some (.int (1 : Int32))) (fun h => by rw [hret] at h; cases h) hlk (fun fs hr => retN X4 hx (t := .boolean) hret (by simp) (hb hby d4_65) hr) ⟨by rw [ev], N1, e4⟩ (by decide) (by decide)
theorem own_cv_lt (m n : Int) (o : CmpOp) : cmpValue (some (compare m n)) o < 0 ↔ m < n := by
  rcases Int.lt_trichotomy m n with h | h | h
  · rw [(FP.Core.compare_lt_iff m n).mpr h]; cases o <;> simp [cmpValue, h] <;> decide
  · rw [(FP.Core.compare_eq_iff m n).mpr h]; cases o <;> simp [cmpValue, h] <;> omega
  · rw [(FP.Core.compare_gt_iff m n).mpr h]; cases o <;> simp [cmpValue] <;> omega
theorem own_cv_gt (m n : Int) (o : CmpOp) : 0 < cmpValue (some (compare m n)) o ↔ n < m := by
  rcases Int.lt_trichotomy m n with h | h | h
  · rw [(FP.Core.compare_lt_iff m n).mpr h]; cases o <;> simp [cmpValue] <;> omega
  · rw [(FP.Core.compare_eq_iff m n).mpr h]; cases o <;> simp [cmpValue, h] <;> omega
  · rw [(FP.Core.compare_gt_iff m n).mpr h]; cases o <;> simp [cmpValue, h] <;> decide
theorem own_dhalf : own_DH 1 4602678819172646912 := by
  refine ⟨⟨false, 2 ^ 52, -53, by decide +kernel⟩, ?_⟩
  unfold own_z
  decide +kernel
def own_Q0 (n0 : Nat) (v : Option Value) (h : Heap) (L : List Loc) : Prop := v = some (.int (1 : Int32)) ∧ Fr n0 L
open FP.Core in
/-- the half of a double that is nought or of magnitude one at the least -/
theorem own_halve {x : UInt64} (hx : DFin x) (h : own_z x = 0 ∨ one64 ≤ (own_z x).natAbs) : ∃ V : UInt64, DFin V ∧ 2 * own_z V = own_z x := by
  rcases h with h | h
  · refine ⟨0, ⟨_, _, _, val64_zero⟩, ?_⟩
    rw [h]; unfold own_z; rw [zval64_zero]; rfl
  have fx := val64_fits x
  obtain ⟨s, c, q, hv⟩ := hx
  rw [hv] at fx
  obtain ⟨c1, c2, c3, c4⟩ := fx
  have hz : own_z x = signed s (inUnits c q b64.qmin) := by unfold own_z; rw [hv]; rfl
  have hq : b64.qmin < q := by
    rcases Int.lt_or_eq_of_le c2 with q1 | q1
    · exact q1
    · exfalso
      rw [hz, natAbs_signed, ← q1] at h
      unfold inUnits at h
      rw [Int.sub_self] at h
      simp only [Int.toNat_zero, Nat.pow_zero, Nat.mul_one] at h
      have h1 : (2 : Nat) ^ b64.p ≤ one64 := by unfold one64; exact Nat.pow_le_pow_right (by decide) (by decide)
      omega
  have fit : FP.Core.fits b64 (.fin s c (q - 1)) := ⟨c1, by omega, by omega, Or.inr (by rcases c4 with c4 | c4 <;> omega)⟩
  refine ⟨of64 (.fin s c (q - 1)), ⟨_, _, _, val64_of64 fit⟩, ?_⟩
  unfold own_z at hz ⊢
  rw [hz, val64_of64 fit]
  show 2 * signed s (inUnits c (q - 1) b64.qmin) = signed s (inUnits c q b64.qmin)
  have e : inUnits c q b64.qmin = 2 * inUnits c (q - 1) b64.qmin := by
    unfold inUnits
    rw [show (q - b64.qmin).toNat = (q - 1 - b64.qmin).toNat + 1 by omega, Nat.pow_succ]; ac_rfl
  rw [e]
  cases s <;> simp [signed] <;> omega
theorem own_alg {v H U : Int} (h : 2 * H = U) : 2 * v * H = v * U := by subst h; ac_rfl
open FP.Core in
theorem own_mulhalf {x : UInt64} (hx : DFin x) (h : own_z x = 0 ∨ one64 ≤ (own_z x).natAbs) : DFin (FP.dmul x 4602678819172646912) ∧ 2 * own_z (FP.dmul x 4602678819172646912) = own_z x := by
  obtain ⟨V, hV, e⟩ := own_halve hx h
  have h2 := own_dhalf.2
  rw [Int.one_mul] at h2
  obtain ⟨q1, q2⟩ := own_zmul hx own_dhalf.1 hV (by rw [← e]; exact own_alg h2)
  exact ⟨q1, by rw [q2]; exact e⟩
open FP.Core in
theorem own_l2dbig (c : Int64) : own_z (FP.l2d c) = 0 ∨ one64 ≤ (own_z (FP.l2d c)).natAbs := by
  have hU := one64_pos
  rcases Int.lt_trichotomy c.toInt 0 with h | h | h
  · right
    have h1 : own_z (FP.l2d c) ≤ own_z (FP.i2d (-1)) := l2d_zval_le (i2d_fin (-1)).ne_nan (by
      have := DInt_zval (i2d_int (-1))
      rw [this, show (-1 : Int32).toInt = -1 by decide]
      exact Int.mul_le_mul_of_nonneg_right (by omega) (by omega))
    have h2 : own_z (FP.i2d (-1)) = -1 * (one64 : Int) := DInt_zval (i2d_int (-1))
    omega
  · left
    have : own_z (FP.l2d c) = c.toInt * (one64 : Int) := DInt_zval (l2d_int (by omega))
    rw [this, h, Int.zero_mul]
  · right
    have h1 : own_z (FP.i2d 1) ≤ own_z (FP.l2d c) := l2d_zval_ge (i2d_fin 1).ne_nan (by
      have := DInt_zval (i2d_int 1)
      rw [this, show (1 : Int32).toInt = 1 by decide]
      exact Int.mul_le_mul_of_nonneg_right (by omega) (by omega))
    have h2 : own_z (FP.i2d 1) = 1 * (one64 : Int) := DInt_zval (i2d_int 1)
    omega
open FP.Core in
theorem own_i2dbig (a : Int32) : own_z (FP.i2d a) = 0 ∨ one64 ≤ (own_z (FP.i2d a)).natAbs := by
  have h : own_z (FP.i2d a) = a.toInt * (one64 : Int) := DInt_zval (i2d_int a)
  by_cases h0 : a.toInt = 0
  · left; rw [h, h0, Int.zero_mul]
  · right
    rw [h, Int.natAbs_mul]
    have : 1 * one64 ≤ a.toInt.natAbs * one64 := Nat.mul_le_mul_right _ (by omega)
    simpa using this
open FP.Core in
/-- an int and a long, each as a double, compare as they are -/
theorem own_il (a : Int32) (c : Int64) : own_z (FP.l2d c) < own_z (FP.i2d a) ↔ c < a.toInt64 := by
  have hU := one64_pos
  have ha : own_z (FP.i2d a) = a.toInt * (one64 : Int) := DInt_zval (i2d_int a)
  have r := rng32 a
  rw [Int64.lt_iff_toInt_lt, Int32.toInt_toInt64]
  constructor
  · intro h
    refine Int.lt_of_not_ge fun q => ?_
    have h1 : own_z (FP.i2d a) ≤ own_z (FP.l2d c) := l2d_zval_ge (i2d_fin a).ne_nan (by
      show own_z (FP.i2d a) ≤ _
      rw [ha]; exact Int.mul_le_mul_of_nonneg_right q (by omega))
    omega
  · intro h
    have hm : (a.toInt64 - 1).toInt = a.toInt - 1 := by
      rw [int64_sub (by rw [Int32.toInt_toInt64, show (1 : Int64).toInt = 1 by decide]; omega) (by rw [Int32.toInt_toInt64, show (1 : Int64).toInt = 1 by decide]; omega), Int32.toInt_toInt64]; rfl
    have hz : own_z (FP.l2d (a.toInt64 - 1)) = (a.toInt - 1) * (one64 : Int) := by
      have := DInt_zval (l2d_int (a := a.toInt64 - 1) (by omega))
      rw [hm] at this; exact this
    have h1 : own_z (FP.l2d c) ≤ own_z (FP.l2d (a.toInt64 - 1)) := l2d_zval_le (l2d_fin _).ne_nan (by
      show _ ≤ own_z (FP.l2d (a.toInt64 - 1))
      rw [hz]; exact Int.mul_le_mul_of_nonneg_right (by omega) (by omega))
    rw [hz, Int.sub_mul] at h1
    omega
theorem own_law (a : Int32) (c : Int64) : own_rc (FP.dmul (FP.i2d a) 4602678819172646912) (FP.dmul (FP.l2d c) 4602678819172646912) = if c < a.toInt64 then 0 else 1 := by
  obtain ⟨f1, e1⟩ := own_mulhalf (x := FP.i2d a) (FP.Core.i2d_fin a) (own_i2dbig a)
  obtain ⟨f2, e2⟩ := own_mulhalf (x := FP.l2d c) (FP.Core.l2d_fin c) (own_l2dbig c)
  unfold own_rc
  rw [show FP.dcmp (FP.dmul (FP.i2d a) 4602678819172646912) (FP.dmul (FP.l2d c) 4602678819172646912) = _ from own_zcmp f1 f2]
  simp only [own_cv_gt, ← own_il]
  congr 1
  exact propext ⟨fun h => by omega, fun h => by omega⟩

set_option maxRecDepth 65536 in
set_option maxHeartbeats 40000000 in
theorem rm0 (l : Launch) (Z : State) (a0 : Array Value) (hw : ∀ d ∈ tables_1, d.before a0 Z = true) (ws : List Jvm.Cond) (h0 : Heap) (n0 : Nat) (a : Int32) (c : Int64) (Z0 : n0 ≤ h0.size) :
    own_C l Z x code maxLocals ret ws room_1 #[(.int a), (.long c)] h0 (own_Q0 n0) := by
  refine own_body (ls := #[.val (.int a), .val (.long c), .second, .unset, .unset, .unset, .unset, .unset, .unset]) pn_0 (fun m => by first | rfl | (simp [entryFrame, mkF, argsToLocals, Value.category, maxLocals]; done)) ?_
  intro p e s m below meth cc T0 hZ hx hby hml hown hnm hret hlk X0 e0
  replace hml : cc.maxLocals = 9 := hml
  have N0 := Fr.nil n0
  obtain ⟨f1, e1'⟩ := own_mulhalf (x := FP.i2d a) (FP.Core.i2d_fin a) (own_i2dbig a)
  obtain ⟨f2, e2'⟩ := own_mulhalf (x := FP.l2d c) (FP.Core.l2d_fin c) (own_l2dbig c)
  refine own_go (fun _ => XS.iloadN X0.here hx rfl (hb hby at_0) rfl ) ?_
  show own_R p.tables e below _ T0 (mkF m 1 #[.val (.int a), .val (.long c), .second, .unset, .unset, .unset, .unset, .unset, .unset] [(.int a)])
  refine own_go (fun _ => XS.i2dS X0.here hx rfl (hb hby at_1) rfl rfl) ?_
  show own_R p.tables e below _ T0 (mkF m 2 #[.val (.int a), .val (.long c), .second, .unset, .unset, .unset, .unset, .unset, .unset] [(.double (FP.i2d a))])
  refine own_go (X0.ldc2DoubleC hx hown (mvT hZ (hw _ (List.mem_of_getElem? (i := 0) rfl))) (g := (mkF m 2 #[.val (.int a), .val (.long c), .second, .unset, .unset, .unset, .unset, .unset, .unset] [(.double (FP.i2d a))])) rfl (hb hby at_2)) ?_
  show own_R p.tables e below _ T0 (mkF m 5 #[.val (.int a), .val (.long c), .second, .unset, .unset, .unset, .unset, .unset, .unset] [(.double (4602678819172646912 : UInt64)), (.double (FP.i2d a))])
  refine own_go (fun _ => XS.dmulS X0.here hx rfl (hb hby at_5) rfl (Jvm.Free.Fl.noNaN64_no.mpr f1.notNaN) rfl) ?_
  show own_R p.tables e below _ T0 (mkF m 6 #[.val (.int a), .val (.long c), .second, .unset, .unset, .unset, .unset, .unset, .unset] [(.double (FP.dmul (FP.i2d a) (4602678819172646912 : UInt64)))])
  refine own_go (fun _ => XS.dstoreN X0.here hx rfl (hb hby at_6) rfl (l' := #[.val (.int a), .val (.long c), .second, .val (.double (FP.dmul (FP.i2d a) (4602678819172646912 : UInt64))), .second, .unset, .unset, .unset, .unset]) rfl) ?_
  show own_R p.tables e below _ T0 (mkF m 7 #[.val (.int a), .val (.long c), .second, .val (.double (FP.dmul (FP.i2d a) (4602678819172646912 : UInt64))), .second, .unset, .unset, .unset, .unset] [])
  refine own_go (fun _ => XS.lloadN X0.here hx rfl (hb hby at_7) rfl ) ?_
  show own_R p.tables e below _ T0 (mkF m 8 #[.val (.int a), .val (.long c), .second, .val (.double (FP.dmul (FP.i2d a) (4602678819172646912 : UInt64))), .second, .unset, .unset, .unset, .unset] [(.long c)])
  refine own_go (fun _ => XS.l2dS X0.here hx rfl (hb hby at_8) rfl rfl) ?_
  show own_R p.tables e below _ T0 (mkF m 9 #[.val (.int a), .val (.long c), .second, .val (.double (FP.dmul (FP.i2d a) (4602678819172646912 : UInt64))), .second, .unset, .unset, .unset, .unset] [(.double (FP.l2d c))])
  refine own_go (X0.ldc2DoubleC hx hown (mvT hZ (hw _ (List.mem_of_getElem? (i := 0) rfl))) (g := (mkF m 9 #[.val (.int a), .val (.long c), .second, .val (.double (FP.dmul (FP.i2d a) (4602678819172646912 : UInt64))), .second, .unset, .unset, .unset, .unset] [(.double (FP.l2d c))])) rfl (hb hby at_9)) ?_
  show own_R p.tables e below _ T0 (mkF m 12 #[.val (.int a), .val (.long c), .second, .val (.double (FP.dmul (FP.i2d a) (4602678819172646912 : UInt64))), .second, .unset, .unset, .unset, .unset] [(.double (4602678819172646912 : UInt64)), (.double (FP.l2d c))])
  refine own_go (fun _ => XS.dmulS X0.here hx rfl (hb hby at_12) rfl (Jvm.Free.Fl.noNaN64_no.mpr f2.notNaN) rfl) ?_
  show own_R p.tables e below _ T0 (mkF m 13 #[.val (.int a), .val (.long c), .second, .val (.double (FP.dmul (FP.i2d a) (4602678819172646912 : UInt64))), .second, .unset, .unset, .unset, .unset] [(.double (FP.dmul (FP.l2d c) (4602678819172646912 : UInt64)))])
  refine own_go (fun _ => XS.dstore X0.here hx rfl (hb hby at_13) rfl (l' := #[.val (.int a), .val (.long c), .second, .val (.double (FP.dmul (FP.i2d a) (4602678819172646912 : UInt64))), .second, .val (.double (FP.dmul (FP.l2d c) (4602678819172646912 : UInt64))), .second, .unset, .unset]) rfl) ?_
  show own_R p.tables e below _ T0 (mkF m 15 #[.val (.int a), .val (.long c), .second, .val (.double (FP.dmul (FP.i2d a) (4602678819172646912 : UInt64))), .second, .val (.double (FP.dmul (FP.l2d c) (4602678819172646912 : UInt64))), .second, .unset, .unset] [])
  refine own_go (fun _ => XS.dloadN X0.here hx rfl (hb hby at_15) rfl ) ?_
  show own_R p.tables e below _ T0 (mkF m 16 #[.val (.int a), .val (.long c), .second, .val (.double (FP.dmul (FP.i2d a) (4602678819172646912 : UInt64))), .second, .val (.double (FP.dmul (FP.l2d c) (4602678819172646912 : UInt64))), .second, .unset, .unset] [(.double (FP.dmul (FP.i2d a) (4602678819172646912 : UInt64)))])
  obtain ⟨v1, T1, L1, X1, Q1, st1⟩ := own_callS X0 hx hZ hown (y := (⟨"com/example/pass2/pass2/util/Interval", "atLeast", "(D)Lcom/example/pass2/pass2/util/Interval;"⟩ : MethodName)) (hw _ (List.mem_of_getElem? (i := 1) rfl)) (hw _ (List.mem_of_getElem? (i := 2) rfl)) (hw _ (List.mem_of_getElem? (i := 3) rfl)) (hw _ (List.mem_of_getElem? (i := 4) rfl)) (by decide) (rmMk l Z a0 hw [] h0 n0 (FP.dmul (FP.i2d a) (4602678819172646912 : UInt64)) Z0) (W := 0) (g := (mkF m 16 #[.val (.int a), .val (.long c), .second, .val (.double (FP.dmul (FP.i2d a) (4602678819172646912 : UInt64))), .second, .val (.double (FP.dmul (FP.l2d c) (4602678819172646912 : UInt64))), .second, .unset, .unset] [(.double (FP.dmul (FP.i2d a) (4602678819172646912 : UInt64)))])) rfl (by rw [hml]; rfl) (argsL := [(.double (FP.dmul (FP.i2d a) (4602678819172646912 : UInt64)))]) (rest := []) (lenOf pd__D_Lcom_example_pass2_pass2_util_Interval_ rfl) rfl rfl (by show 2 * 0 + _ ≤ _; exact Nat.le_of_eq rfl) (hb hby at_16) e0 (by decide) (by decide) (by decide) (by decide)
  obtain ⟨iv, rfl, N1q, E1, Fa, Fb, Fc⟩ := Q1
  have N1 := Fr.app N0 N1q
  refine own_go st1 ?_
  show own_R p.tables e below _ T1 (mkF m 19 #[.val (.int a), .val (.long c), .second, .val (.double (FP.dmul (FP.i2d a) (4602678819172646912 : UInt64))), .second, .val (.double (FP.dmul (FP.l2d c) (4602678819172646912 : UInt64))), .second, .unset, .unset] [(.ref iv)])
  refine own_go (fun _ => XS.astore X1.here hx rfl (hb hby at_19) rfl rfl (l' := #[.val (.int a), .val (.long c), .second, .val (.double (FP.dmul (FP.i2d a) (4602678819172646912 : UInt64))), .second, .val (.double (FP.dmul (FP.l2d c) (4602678819172646912 : UInt64))), .second, .val (.ref iv), .unset]) rfl) ?_
  show own_R p.tables e below _ T1 (mkF m 21 #[.val (.int a), .val (.long c), .second, .val (.double (FP.dmul (FP.i2d a) (4602678819172646912 : UInt64))), .second, .val (.double (FP.dmul (FP.l2d c) (4602678819172646912 : UInt64))), .second, .val (.ref iv), .unset] [])
  refine own_go (fun _ => XS.lloadN X1.here hx rfl (hb hby at_21) rfl ) ?_
  show own_R p.tables e below _ T1 (mkF m 22 #[.val (.int a), .val (.long c), .second, .val (.double (FP.dmul (FP.i2d a) (4602678819172646912 : UInt64))), .second, .val (.double (FP.dmul (FP.l2d c) (4602678819172646912 : UInt64))), .second, .val (.ref iv), .unset] [(.long c)])
  refine own_go (fun _ => XS.iloadN X1.here hx rfl (hb hby at_22) rfl ) ?_
  show own_R p.tables e below _ T1 (mkF m 23 #[.val (.int a), .val (.long c), .second, .val (.double (FP.dmul (FP.i2d a) (4602678819172646912 : UInt64))), .second, .val (.double (FP.dmul (FP.l2d c) (4602678819172646912 : UInt64))), .second, .val (.ref iv), .unset] [(.int a), (.long c)])
  refine own_go (fun _ => XS.i2l X1.here hx rfl (hb hby at_23) rfl) ?_
  show own_R p.tables e below _ T1 (mkF m 24 #[.val (.int a), .val (.long c), .second, .val (.double (FP.dmul (FP.i2d a) (4602678819172646912 : UInt64))), .second, .val (.double (FP.dmul (FP.l2d c) (4602678819172646912 : UInt64))), .second, .val (.ref iv), .unset] [(.long (a.toInt64)), (.long c)])
  refine own_go (fun _ => XS.lcmp X1.here hx rfl (hb hby at_24) rfl) ?_
  show own_R p.tables e below _ T1 (mkF m 25 #[.val (.int a), .val (.long c), .second, .val (.double (FP.dmul (FP.i2d a) (4602678819172646912 : UInt64))), .second, .val (.double (FP.dmul (FP.l2d c) (4602678819172646912 : UInt64))), .second, .val (.ref iv), .unset] [(.int (lcmpW c (a.toInt64)))])
  have J : ∀ ev : Int32, ev = (if c < a.toInt64 then 0 else 1) → own_R p.tables e below (own_E s below (own_Q0 n0) (room_1).cells (room_1).slots) T1 (mkF m 33 #[.val (.int a), .val (.long c), .second, .val (.double (FP.dmul (FP.i2d a) (4602678819172646912 : UInt64))), .second, .val (.double (FP.dmul (FP.l2d c) (4602678819172646912 : UInt64))), .second, .val (.ref iv), .unset] [(.int ev)]) := by
    intro ev hev
    refine own_go (fun _ => XS.istore X1.here hx rfl (hb hby at_33) rfl (l' := #[.val (.int a), .val (.long c), .second, .val (.double (FP.dmul (FP.i2d a) (4602678819172646912 : UInt64))), .second, .val (.double (FP.dmul (FP.l2d c) (4602678819172646912 : UInt64))), .second, .val (.ref iv), .val (.int ev)]) rfl) ?_
    show own_R p.tables e below _ T1 (mkF m 35 #[.val (.int a), .val (.long c), .second, .val (.double (FP.dmul (FP.i2d a) (4602678819172646912 : UInt64))), .second, .val (.double (FP.dmul (FP.l2d c) (4602678819172646912 : UInt64))), .second, .val (.ref iv), .val (.int ev)] [])
    refine own_go (fun _ => XS.aload X1.here hx rfl (hb hby at_35) rfl rfl) ?_
    show own_R p.tables e below _ T1 (mkF m 37 #[.val (.int a), .val (.long c), .second, .val (.double (FP.dmul (FP.i2d a) (4602678819172646912 : UInt64))), .second, .val (.double (FP.dmul (FP.l2d c) (4602678819172646912 : UInt64))), .second, .val (.ref iv), .val (.int ev)] [(.ref iv)])
    refine own_go (fun _ => XS.dload X1.here hx rfl (hb hby at_37) rfl ) ?_
    show own_R p.tables e below _ T1 (mkF m 39 #[.val (.int a), .val (.long c), .second, .val (.double (FP.dmul (FP.i2d a) (4602678819172646912 : UInt64))), .second, .val (.double (FP.dmul (FP.l2d c) (4602678819172646912 : UInt64))), .second, .val (.ref iv), .val (.int ev)] [(.double (FP.dmul (FP.l2d c) (4602678819172646912 : UInt64))), (.ref iv)])
    obtain ⟨v2, T2, L2, X2, Q2, st2⟩ := own_callV X1 hx hZ hown (y := (⟨"com/example/pass2/pass2/util/Interval", "contains", "(D)Z"⟩ : MethodName)) (hw _ (List.mem_of_getElem? (i := 20) rfl)) (hw _ (List.mem_of_getElem? (i := 21) rfl)) (hw _ (List.mem_of_getElem? (i := 23) rfl)) (hw _ (List.mem_of_getElem? (i := 22) rfl)) (hw _ (List.mem_of_getElem? (i := 24) rfl)) (hw _ (List.mem_of_getElem? (i := 3) rfl)) (by decide) (rmCon l Z a0 hw [] T1.heap n0 iv (FP.dmul (FP.i2d a) (4602678819172646912 : UInt64)) (FP.dmul (FP.l2d c) (4602678819172646912 : UInt64)) f2 E1 Fa Fb Fc) E1 (W := 0) (g := (mkF m 39 #[.val (.int a), .val (.long c), .second, .val (.double (FP.dmul (FP.i2d a) (4602678819172646912 : UInt64))), .second, .val (.double (FP.dmul (FP.l2d c) (4602678819172646912 : UInt64))), .second, .val (.ref iv), .val (.int ev)] [(.double (FP.dmul (FP.l2d c) (4602678819172646912 : UInt64))), (.ref iv)])) rfl (by rw [hml]; rfl) (b := iv) (argsL := [(.double (FP.dmul (FP.l2d c) (4602678819172646912 : UInt64)))]) (rest := []) (lenOf pd__D_Z rfl) rfl rfl (by show 2 * 0 + _ ≤ _; exact Nat.le_of_eq rfl) (hb hby at_39) rfl (by decide) (by decide) (by decide) (by decide)
    obtain ⟨rfl, N2q, e2⟩ := Q2
    refine own_go st2 ?_
    show own_R p.tables e below _ T2 (mkF m 42 #[.val (.int a), .val (.long c), .second, .val (.double (FP.dmul (FP.i2d a) (4602678819172646912 : UInt64))), .second, .val (.double (FP.dmul (FP.l2d c) (4602678819172646912 : UInt64))), .second, .val (.ref iv), .val (.int ev)] [(.int (own_rc (FP.dmul (FP.i2d a) (4602678819172646912 : UInt64)) (FP.dmul (FP.l2d c) (4602678819172646912 : UInt64))))])
    refine own_go (fun _ => XS.iload X2.here hx rfl (hb hby at_42) rfl ) ?_
    show own_R p.tables e below _ T2 (mkF m 44 #[.val (.int a), .val (.long c), .second, .val (.double (FP.dmul (FP.i2d a) (4602678819172646912 : UInt64))), .second, .val (.double (FP.dmul (FP.l2d c) (4602678819172646912 : UInt64))), .second, .val (.ref iv), .val (.int ev)] [(.int ev), (.int (own_rc (FP.dmul (FP.i2d a) (4602678819172646912 : UInt64)) (FP.dmul (FP.l2d c) (4602678819172646912 : UInt64))))])
    refine own_go (fun _ => XS.icmpNo X2.here hx rfl (hb hby at_44) rfl (teq ((own_law a c).trans hev.symm)).2) ?_
    show own_R p.tables e below _ T2 (mkF m 47 #[.val (.int a), .val (.long c), .second, .val (.double (FP.dmul (FP.i2d a) (4602678819172646912 : UInt64))), .second, .val (.double (FP.dmul (FP.l2d c) (4602678819172646912 : UInt64))), .second, .val (.ref iv), .val (.int ev)] [])
    refine own_go (fun _ => XS.iconst X2.here hx rfl (hb hby at_47)) ?_
    show own_R p.tables e below _ T2 (mkF m 48 #[.val (.int a), .val (.long c), .second, .val (.double (FP.dmul (FP.i2d a) (4602678819172646912 : UInt64))), .second, .val (.double (FP.dmul (FP.l2d c) (4602678819172646912 : UInt64))), .second, .val (.ref iv), .val (.int ev)] [(.int (1 : Int32))])
    refine own_go (fun _ => XS.goto X2.here hx rfl (pc0 := 48) (pc' := 52) rfl (hb hby at_48) (by decide) (by decide)) ?_
    show own_R p.tables e below _ T2 (mkF m 52 #[.val (.int a), .val (.long c), .second, .val (.double (FP.dmul (FP.i2d a) (4602678819172646912 : UInt64))), .second, .val (.double (FP.dmul (FP.l2d c) (4602678819172646912 : UInt64))), .second, .val (.ref iv), .val (.int ev)] [(.int (1 : Int32))])
    exact own_end X2 (some (.int (1 : Int32))) (fun h => by rw [hret] at h; cases h) hlk (fun fs hr => retN X2 hx (t := .boolean) hret (by simp) (hb hby at_52) hr) ⟨rfl, Fr.app N1 N2q⟩ (by decide) (by decide)
  by_cases h1 : (lcmpW c (a.toInt64)) < (0 : Int32)
  · show own_R p.tables e below _ T1 (mkF m 25 #[.val (.int a), .val (.long c), .second, .val (.double (FP.dmul (FP.i2d a) (4602678819172646912 : UInt64))), .second, .val (.double (FP.dmul (FP.l2d c) (4602678819172646912 : UInt64))), .second, .val (.ref iv), .unset] [(.int (lcmpW c (a.toInt64)))])
    refine own_go (fun _ => XS.ifYes X1.here hx rfl (pc0 := 25) (pc' := 32) rfl (hb hby at_25) rfl ((if0 _ _).trans (tlt h1).1) (by decide) (by decide)) ?_
    show own_R p.tables e below _ T1 (mkF m 32 #[.val (.int a), .val (.long c), .second, .val (.double (FP.dmul (FP.i2d a) (4602678819172646912 : UInt64))), .second, .val (.double (FP.dmul (FP.l2d c) (4602678819172646912 : UInt64))), .second, .val (.ref iv), .unset] [])
    refine own_go (fun _ => XS.iconst X1.here hx rfl (hb hby at_32)) ?_
    show own_R p.tables e below _ T1 (mkF m 33 #[.val (.int a), .val (.long c), .second, .val (.double (FP.dmul (FP.i2d a) (4602678819172646912 : UInt64))), .second, .val (.double (FP.dmul (FP.l2d c) (4602678819172646912 : UInt64))), .second, .val (.ref iv), .unset] [(.int (0 : Int32))])
    exact J _ (if_pos ((lw_lt _ _).mp h1)).symm
  · show own_R p.tables e below _ T1 (mkF m 25 #[.val (.int a), .val (.long c), .second, .val (.double (FP.dmul (FP.i2d a) (4602678819172646912 : UInt64))), .second, .val (.double (FP.dmul (FP.l2d c) (4602678819172646912 : UInt64))), .second, .val (.ref iv), .unset] [(.int (lcmpW c (a.toInt64)))])
    refine own_go (fun _ => XS.ifNo X1.here hx rfl (hb hby at_25) rfl ((if0 _ _).trans (flt h1).1)) ?_
    show own_R p.tables e below _ T1 (mkF m 28 #[.val (.int a), .val (.long c), .second, .val (.double (FP.dmul (FP.i2d a) (4602678819172646912 : UInt64))), .second, .val (.double (FP.dmul (FP.l2d c) (4602678819172646912 : UInt64))), .second, .val (.ref iv), .unset] [])
    refine own_go (fun _ => XS.iconst X1.here hx rfl (hb hby at_28)) ?_
    show own_R p.tables e below _ T1 (mkF m 29 #[.val (.int a), .val (.long c), .second, .val (.double (FP.dmul (FP.i2d a) (4602678819172646912 : UInt64))), .second, .val (.double (FP.dmul (FP.l2d c) (4602678819172646912 : UInt64))), .second, .val (.ref iv), .unset] [(.int (1 : Int32))])
    refine own_go (fun _ => XS.goto X1.here hx rfl (pc0 := 29) (pc' := 33) rfl (hb hby at_29) (by decide) (by decide)) ?_
    show own_R p.tables e below _ T1 (mkF m 33 #[.val (.int a), .val (.long c), .second, .val (.double (FP.dmul (FP.i2d a) (4602678819172646912 : UInt64))), .second, .val (.double (FP.dmul (FP.l2d c) (4602678819172646912 : UInt64))), .second, .val (.ref iv), .unset] [(.int (1 : Int32))])
    exact J _ (if_neg (mt (lw_lt _ _).mpr h1)).symm
set_option maxRecDepth 65536 in
set_option maxHeartbeats 40000000 in
theorem comes_1 {Post : Tables → Env → Array Value → State → Outcome → State → Prop} (hpost : ∀ tb e args s v u, (limb_1_1.after args s (.returned v) u = true ∧ limb_1_2.after args s (.returned v) u = true ∧ True) → FrameEnd s (.returned v) u (Jvm.fieldLocs frame_1_writes args s ++ Jvm.arrayLocs frame_1_arrays args s ++ Jvm.staticLocs frame_1_statics s) 16 128 → Post tb e args s (.returned v) u) :
    ArmFor flags0 classFile x code maxLocals ret World_1 tables_1 room_1 Calls_1 rest_1 Pre_1 Post := by
  intro l hfl _ _ p e ha hc hk s m args below hf hA hF happ hP
  obtain ⟨hcalls, hrest, hpre⟩ := hP
  obtain ⟨-, -, -, hnamed, -, -, -, hat⟩ := (Spec.applies_iff hf).mp happ
  obtain ⟨hg, hn⟩ := and_e (Cond.before_iff.mp (show (Jvm.Cond.and given_1 narrow_1).before args s = true from hpre))
  obtain ⟨gc, q0⟩ := and_e hg
  obtain ⟨g0, q1⟩ := and_e q0
  have g1 := q1
  obtain ⟨w0, w1, rfl⟩ : ∃ w0 w1 : Value, args = #[w0, w1] := by
    have hs : args.size = 2 := by simpa [Cond.value, given_1] using gc
    obtain ⟨L⟩ := args
    match L, hs with
    | [w0, w1], _ => exact ⟨w0, w1, rfl⟩
  have hw := fun d (hd : d ∈ tables_1) => atoms_spec (ws := Jvm.Cond.code x code maxLocals ret :: tables_1) hat d (List.mem_cons_of_mem _ hd)
  have hfit : Fit s := fun {y c} hc i hi => by
    obtain ⟨ha, rfl⟩ := Array.getElem?_eq_some_iff.mp hc
    have q := List.all_eq_true.mp ((Array.all_eq_true_iff_forall_mem.mp hF) _ (Array.getElem_mem ha)) i (List.mem_range.mpr hi)
    simpa [Array.getElem?_eq_getElem hi] using q
  obtain ⟨i0, ei0⟩ := is_v g0
  obtain rfl : w0 = (.int i0) := Option.some.inj ei0
  obtain ⟨i1, ei1⟩ := isL_v g1
  obtain rfl : w1 = (.long i1) := Option.some.inj ei1
  obtain ⟨n, o, h1, h2, h3, _, L, rfl, ⟨rfl, N⟩, hq⟩ := rm0 l s _ hw tables_1 s.heap s.heap.size i0 i1 (Nat.le_refl _) p e ha hc hk s m _ below hf ((Spec.applies_iff_loose hf).mp happ).1 ⟨rfl, State.Warmed39.refl s, rfl⟩ trivial
  refine ⟨n, _, h1, h2, h3, hpost _ _ _ _ _ _ ⟨Cond.after_iff.mpr rfl, Cond.after_iff.mpr (eq_i res_at (Term.int_eval (1)) rfl), trivial⟩ ⟨hq.1, hq.2.1, (hq.2.2.sift fun y hy => Or.inr (N y hy)).mono (by decide) (by decide)⟩⟩
theorem main_1_1 : Claimed_1_1 := comes_1 fun _ _ _ _ _ _ h hF => ⟨h.1, hF⟩
theorem main_1_2 : Claimed_1_2 := comes_1 fun _ _ _ _ _ _ h hF => ⟨h.2.1, hF⟩

end Jvm.Pilot.@@N@@
namespace Jvm.Pilot.@@N@@
open Jvm Jvm.ClassFile Sem Op Lib Jvm.Free Jvm.Stand Jvm.Pilot.@@N@@.Jvm.D
/-! MADE BY PROGRAM (witnessworld.py) out of the Statement's table words and the real class files: 15 classes; the members and pool entries that the words name. The judged class is class 1, her method 1. -/
namespace start1
open Jvm.ClassFile
def u (s : String) : CpInfo := .utf8 (stringToUtf16 s)
/-- a pool by its gaps: so many unusable entries, then the entry; so many at the end -/
def gap : Nat → List CpInfo → List CpInfo
  | 0, r => r
  | n + 1, r => .unusable :: gap n r
def poolList (es : List (Nat × CpInfo)) (last : Nat) : List CpInfo := es.foldr (fun e r => gap e.1 (e.2 :: r)) (gap last [])
def pool (es : List (Nat × CpInfo)) (last : Nat) : Array CpInfo := ⟨poolList es last⟩
def fileOf (pool : Array CpInfo) (this : Nat) (attrs : Array Attribute := #[]) (ms : Array MethodInfo := #[]) (fl : Nat := 33) (sup : Nat := 0) (ifs : Array Nat := #[]) (fds : Array FieldInfo := #[]) : ClassFile where
  minorVersion := 0
  majorVersion := 65
  constantPool := pool
  accessFlags := fl
  thisClass := this
  superClass := sup
  interfaces := ifs
  fields := fds
  methods := ms
  attributes := attrs
def plain (name : String) (sup : Option ClassId) : Class where
  name := name
  kind := .ordinary
  loader := none
  accessFlags := 33
  super := sup
  interfaces := #[]
  cf := none
  fields := #[]
  methods := #[]
  instanceTypes := #[]
  staticTypes := #[]
  resolved := #[]
  callSites := []
  init := .initialized
  statics := none
  mirror := none

def pool0 : Array CpInfo := pool [(5, u "<init>"), (0, u "()V"), (1, .class_ 10), (1, u "java/lang/Object")] 113

def k0c0 : Code := { maxStack := 0, maxLocals := 1, code := object_method_1_code, exceptionTable := #[], attributes := #[] }
def k0m0 : Method := { name := "<init>", desc := "()V", sig := { parameters := [], returnType := none }, accessFlags := 1, code := some k0c0 }
/-- java/lang/Object -/
def k0 : Class := { plain "java/lang/Object" none with
  accessFlags := 33
  interfaces := #[]
  cf := some (fileOf pool0 8 #[] #[{ accessFlags := 1, nameIndex := 5, descriptorIndex := 6, attributes := #[] }] 33 0 #[] #[])
  fields := #[]
  methods := #[k0m0]
  instanceTypes := #[]
  staticTypes := #[]
  resolved := Array.replicate 124 none
  statics := none }

def pool1 : Array CpInfo := pool [(2, .class_ 4), (1, u "java/lang/Object"), (0, u "<init>"), (0, u "()V"), (0, .double 4602678819172646912), (1, .methodref 10 11), (0, .class_ 12), (0, .nameAndType 13 14), (0, u "com/example/pass2/pass2/util/Interval"), (0, u "atLeast"), (0, u "(D)Lcom/example/pass2/pass2/util/Interval;"), (0, .methodref 10 16), (0, .nameAndType 17 18), (0, u "contains"), (0, u "(D)Z"), (0, .class_ 20), (0, u "com/example/pass2/pass2/util/IntervalAtLeastPinLaw"), (2, u "law"), (0, u "(IJ)Z")] 3

def k1m0 : Method := { name := "<init>", desc := "()V", sig := { parameters := [], returnType := none }, accessFlags := 2, code := none }
def k1c1 : Code := { maxStack := 4, maxLocals := 9, code := code, exceptionTable := #[], attributes := #[] }
def k1m1 : Method := { name := "law", desc := "(IJ)Z", sig := { parameters := [.int, .long], returnType := some .boolean }, accessFlags := 9, code := some k1c1 }
/-- com/example/pass2/pass2/util/IntervalAtLeastPinLaw -/
def k1 : Class := { plain "com/example/pass2/pass2/util/IntervalAtLeastPinLaw" (some 0) with
  accessFlags := 49
  interfaces := #[]
  cf := some (fileOf pool1 19 #[] #[{ accessFlags := 2, nameIndex := 5, descriptorIndex := 6, attributes := #[] }, { accessFlags := 9, nameIndex := 23, descriptorIndex := 24, attributes := #[] }] 49 2 #[] #[])
  fields := #[]
  methods := #[k1m0, k1m1]
  instanceTypes := #[]
  staticTypes := #[]
  resolved := Array.replicate 28 none
  statics := none }

def pool2 : Array CpInfo := pool [(1, .methodref 2 3), (0, .class_ 4), (0, .nameAndType 5 6), (0, u "java/lang/Object"), (0, u "<init>"), (0, u "()V"), (0, .fieldref 8 9), (0, .class_ 10), (0, .nameAndType 11 12), (0, u "com/example/pass2/pass2/util/Interval"), (0, u "min"), (0, u "D"), (0, .fieldref 8 14), (0, .nameAndType 15 12), (0, u "max"), (0, .fieldref 8 17), (0, .nameAndType 18 19), (0, u "boundsIncluded"), (0, u "Z"), (0, .class_ 21), (0, u "java/lang/Double"), (0, .double 9218868437227405312), (1, .methodref 8 25), (0, .nameAndType 5 26), (0, u "(DDZ)V"), (0, .methodref 20 28), (0, .nameAndType 29 30), (0, u "isFinite"), (0, u "(D)Z"), (18, u "atLeast"), (0, u "(D)Lcom/example/pass2/pass2/util/Interval;"), (4, u "contains")] 26

def k2c0 : Code := { maxStack := 3, maxLocals := 6, code := prog_46_method_1_code, exceptionTable := #[], attributes := #[] }
def k2m0 : Method := { name := "<init>", desc := "(DDZ)V", sig := { parameters := [.double, .double, .boolean], returnType := none }, accessFlags := 2, code := some k2c0 }
def k2c1 : Code := { maxStack := 7, maxLocals := 2, code := prog_46_method_2_code, exceptionTable := #[], attributes := #[] }
def k2m1 : Method := { name := "atLeast", desc := "(D)Lcom/example/pass2/pass2/util/Interval;", sig := { parameters := [.double], returnType := some (.object "com/example/pass2/pass2/util/Interval") }, accessFlags := 9, code := some k2c1 }
def k2c2 : Code := { maxStack := 4, maxLocals := 3, code := prog_46_method_6_code, exceptionTable := #[], attributes := #[] }
def k2m2 : Method := { name := "contains", desc := "(D)Z", sig := { parameters := [.double], returnType := some .boolean }, accessFlags := 1, code := some k2c2 }
/-- com/example/pass2/pass2/util/Interval -/
def k2 : Class := { plain "com/example/pass2/pass2/util/Interval" (some 0) with
  accessFlags := 49
  interfaces := #[]
  cf := some (fileOf pool2 8 #[] #[{ accessFlags := 2, nameIndex := 5, descriptorIndex := 26, attributes := #[] }, { accessFlags := 9, nameIndex := 49, descriptorIndex := 50, attributes := #[] }, { accessFlags := 1, nameIndex := 55, descriptorIndex := 30, attributes := #[] }] 49 2 #[] #[{ accessFlags := 18, nameIndex := 11, descriptorIndex := 12, attributes := #[] }, { accessFlags := 18, nameIndex := 15, descriptorIndex := 12, attributes := #[] }, { accessFlags := 18, nameIndex := 18, descriptorIndex := 19, attributes := #[] }])
  fields := #[{ name := "min", type := .double, accessFlags := 18, slot := 0, constantValue := 0 }, { name := "max", type := .double, accessFlags := 18, slot := 1, constantValue := 0 }, { name := "boundsIncluded", type := .boolean, accessFlags := 18, slot := 2, constantValue := 0 }]
  methods := #[k2m0, k2m1, k2m2]
  instanceTypes := #[.double, .double, .boolean]
  staticTypes := #[]
  resolved := Array.replicate 82 none
  statics := none }

def pool3 : Array CpInfo := pool [(1, .class_ 2), (0, u "java/io/Serializable"), (0, .class_ 4), (0, u "java/lang/Object")] 2

/-- java/io/Serializable -/
def k3 : Class := { plain "java/io/Serializable" (some 0) with
  accessFlags := 1537
  interfaces := #[]
  cf := some (fileOf pool3 1 #[] #[] 1537 3 #[] #[])
  fields := #[]
  methods := #[]
  instanceTypes := #[]
  staticTypes := #[]
  resolved := Array.replicate 7 none
  statics := none }

def pool4 : Array CpInfo := pool [(2, .class_ 4), (1, u "java/lang/Object"), (0, u "<init>"), (0, u "()V"), (1, .class_ 10), (1, u "java/lang/Number"), (2, .class_ 14), (0, u "java/io/Serializable"), (0, u "serialVersionUID"), (0, u "J")] 20

def k4m0 : Method := { name := "<init>", desc := "()V", sig := { parameters := [], returnType := none }, accessFlags := 1, code := none }
/-- java/lang/Number -/
def k4 : Class := { plain "java/lang/Number" (some 0) with
  accessFlags := 1057
  interfaces := #[3]
  cf := some (fileOf pool4 8 #[] #[{ accessFlags := 1, nameIndex := 5, descriptorIndex := 6, attributes := #[] }] 1057 2 #[13] #[{ accessFlags := 26, nameIndex := 15, descriptorIndex := 16, attributes := #[] }])
  fields := #[{ name := "serialVersionUID", type := .long, accessFlags := 26, slot := 0, constantValue := 0 }]
  methods := #[k4m0]
  instanceTypes := #[]
  staticTypes := #[.long]
  resolved := Array.replicate 37 none
  statics := none }

def pool5 : Array CpInfo := pool [(1, .class_ 2), (0, u "java/lang/Comparable"), (0, .class_ 4), (0, u "java/lang/Object")] 7

/-- java/lang/Comparable -/
def k5 : Class := { plain "java/lang/Comparable" (some 0) with
  accessFlags := 1537
  interfaces := #[]
  cf := some (fileOf pool5 1 #[] #[] 1537 3 #[] #[])
  fields := #[]
  methods := #[]
  instanceTypes := #[]
  staticTypes := #[]
  resolved := Array.replicate 12 none
  statics := none }

def pool6 : Array CpInfo := pool [(1, .class_ 2), (0, u "java/lang/constant/Constable"), (0, .class_ 4), (0, u "java/lang/Object")] 6

/-- java/lang/constant/Constable -/
def k6 : Class := { plain "java/lang/constant/Constable" (some 0) with
  accessFlags := 1537
  interfaces := #[]
  cf := some (fileOf pool6 1 #[] #[] 1537 3 #[] #[])
  fields := #[]
  methods := #[]
  instanceTypes := #[]
  staticTypes := #[]
  resolved := Array.replicate 11 none
  statics := none }

def pool7 : Array CpInfo := pool [(1, .class_ 2), (0, u "java/lang/constant/ConstantDesc"), (0, .class_ 4), (0, u "java/lang/Object")] 32

/-- java/lang/constant/ConstantDesc -/
def k7 : Class := { plain "java/lang/constant/ConstantDesc" (some 0) with
  accessFlags := 1537
  interfaces := #[]
  cf := some (fileOf pool7 1 #[] #[] 1537 3 #[] #[])
  fields := #[]
  methods := #[]
  instanceTypes := #[]
  staticTypes := #[]
  resolved := Array.replicate 37 none
  statics := none }

def pool8 : Array CpInfo := pool [(1, .class_ 2), (0, u "java/lang/Double"), (10, u "isFinite"), (0, u "(D)Z"), (8, .class_ 25), (1, u "java/lang/Math"), (12, .methodref 23 39), (0, .nameAndType 40 41), (0, u "abs"), (0, u "(D)D"), (69, .double 9218868437227405311), (2, .class_ 116), (1, u "java/lang/Number"), (3, u "value"), (0, u "D"), (51, u "TYPE"), (0, u "Ljava/lang/Class;"), (0, .class_ 176), (0, u "java/lang/Comparable"), (0, .class_ 178), (0, u "java/lang/constant/Constable"), (0, .class_ 180), (0, u "java/lang/constant/ConstantDesc"), (0, u "POSITIVE_INFINITY"), (3, u "NEGATIVE_INFINITY"), (2, u "NaN"), (2, u "MAX_VALUE"), (0, u "MIN_NORMAL"), (0, u "MIN_VALUE"), (2, u "SIZE"), (0, u "I"), (1, u "PRECISION"), (1, u "MAX_EXPONENT"), (1, u "MIN_EXPONENT"), (1, u "BYTES"), (3, u "serialVersionUID"), (0, u "J")] 79

def k8c0 : Code := { maxStack := 4, maxLocals := 2, code := jdk_117_method_8_code, exceptionTable := #[], attributes := #[] }
def k8m0 : Method := { name := "isFinite", desc := "(D)Z", sig := { parameters := [.double], returnType := some .boolean }, accessFlags := 9, code := some k8c0 }
/-- java/lang/Double -/
def k8 : Class := { plain "java/lang/Double" (some 4) with
  accessFlags := 49
  interfaces := #[5, 6, 7]
  cf := some (fileOf pool8 1 #[] #[{ accessFlags := 9, nameIndex := 13, descriptorIndex := 14, attributes := #[] }] 49 114 #[175, 177, 179] #[{ accessFlags := 25, nameIndex := 181, descriptorIndex := 121, attributes := #[] }, { accessFlags := 25, nameIndex := 185, descriptorIndex := 121, attributes := #[] }, { accessFlags := 25, nameIndex := 188, descriptorIndex := 121, attributes := #[] }, { accessFlags := 25, nameIndex := 191, descriptorIndex := 121, attributes := #[] }, { accessFlags := 25, nameIndex := 192, descriptorIndex := 121, attributes := #[] }, { accessFlags := 25, nameIndex := 193, descriptorIndex := 121, attributes := #[] }, { accessFlags := 25, nameIndex := 196, descriptorIndex := 197, attributes := #[] }, { accessFlags := 25, nameIndex := 199, descriptorIndex := 197, attributes := #[] }, { accessFlags := 25, nameIndex := 201, descriptorIndex := 197, attributes := #[] }, { accessFlags := 25, nameIndex := 203, descriptorIndex := 197, attributes := #[] }, { accessFlags := 25, nameIndex := 205, descriptorIndex := 197, attributes := #[] }, { accessFlags := 25, nameIndex := 173, descriptorIndex := 174, attributes := #[] }, { accessFlags := 18, nameIndex := 120, descriptorIndex := 121, attributes := #[] }, { accessFlags := 26, nameIndex := 209, descriptorIndex := 210, attributes := #[] }])
  fields := #[{ name := "POSITIVE_INFINITY", type := .double, accessFlags := 25, slot := 0, constantValue := 0 }, { name := "NEGATIVE_INFINITY", type := .double, accessFlags := 25, slot := 1, constantValue := 0 }, { name := "NaN", type := .double, accessFlags := 25, slot := 2, constantValue := 0 }, { name := "MAX_VALUE", type := .double, accessFlags := 25, slot := 3, constantValue := 0 }, { name := "MIN_NORMAL", type := .double, accessFlags := 25, slot := 4, constantValue := 0 }, { name := "MIN_VALUE", type := .double, accessFlags := 25, slot := 5, constantValue := 0 }, { name := "SIZE", type := .int, accessFlags := 25, slot := 6, constantValue := 0 }, { name := "PRECISION", type := .int, accessFlags := 25, slot := 7, constantValue := 0 }, { name := "MAX_EXPONENT", type := .int, accessFlags := 25, slot := 8, constantValue := 0 }, { name := "MIN_EXPONENT", type := .int, accessFlags := 25, slot := 9, constantValue := 0 }, { name := "BYTES", type := .int, accessFlags := 25, slot := 10, constantValue := 0 }, { name := "TYPE", type := (.object "java/lang/Class"), accessFlags := 25, slot := 11, constantValue := 0 }, { name := "value", type := .double, accessFlags := 18, slot := 0, constantValue := 0 }, { name := "serialVersionUID", type := .long, accessFlags := 26, slot := 12, constantValue := 0 }]
  methods := #[k8m0]
  instanceTypes := #[.double]
  staticTypes := #[.double, .double, .double, .double, .double, .double, .int, .int, .int, .int, .int, (.object "java/lang/Class"), .long]
  resolved := Array.replicate 290 none
  statics := none }

def pool9 : Array CpInfo := pool [(1, .class_ 2), (0, u "java/lang/Math"), (1, .class_ 6), (1, u "java/lang/Object"), (0, u "<init>"), (0, u "()V"), (5, u "(D)D"), (83, .class_ 100), (1, u "java/lang/Math$RandomNumberGeneratorHolder"), (23, u "abs"), (47, u "negativeZeroFloatBits"), (0, u "J"), (2, u "negativeZeroDoubleBits"), (68, u "$assertionsDisabled"), (0, u "Z"), (91, u "twoToTheDoubleScaleDown"), (0, u "D"), (4, u "twoToTheDoubleScaleUp"), (9, u "E"), (3, u "PI"), (2, u "TAU"), (2, u "DEGREES_TO_RADIANS"), (0, u "RADIANS_TO_DEGREES")] 94

def k9m0 : Method := { name := "<init>", desc := "()V", sig := { parameters := [], returnType := none }, accessFlags := 2, code := none }
def k9c1 : Code := { maxStack := 4, maxLocals := 2, code := jdk_29_method_64_code, exceptionTable := #[], attributes := #[] }
def k9m1 : Method := { name := "abs", desc := "(D)D", sig := { parameters := [.double], returnType := some .double }, accessFlags := 9, code := some k9c1 }
/-- java/lang/Math -/
def k9 : Class := { plain "java/lang/Math" (some 0) with
  accessFlags := 49
  interfaces := #[]
  cf := some (fileOf pool9 1 #[.nestMembers #[98]] #[{ accessFlags := 2, nameIndex := 7, descriptorIndex := 8, attributes := #[] }, { accessFlags := 9, nameIndex := 124, descriptorIndex := 14, attributes := #[] }] 49 4 #[] #[{ accessFlags := 25, nameIndex := 354, descriptorIndex := 339, attributes := #[] }, { accessFlags := 25, nameIndex := 358, descriptorIndex := 339, attributes := #[] }, { accessFlags := 25, nameIndex := 361, descriptorIndex := 339, attributes := #[] }, { accessFlags := 26, nameIndex := 364, descriptorIndex := 339, attributes := #[] }, { accessFlags := 26, nameIndex := 365, descriptorIndex := 339, attributes := #[] }, { accessFlags := 26, nameIndex := 172, descriptorIndex := 173, attributes := #[] }, { accessFlags := 26, nameIndex := 176, descriptorIndex := 173, attributes := #[] }, { accessFlags := 8, nameIndex := 344, descriptorIndex := 339, attributes := #[] }, { accessFlags := 8, nameIndex := 338, descriptorIndex := 339, attributes := #[] }, { accessFlags := 4120, nameIndex := 245, descriptorIndex := 246, attributes := #[] }])
  fields := #[{ name := "E", type := .double, accessFlags := 25, slot := 0, constantValue := 0 }, { name := "PI", type := .double, accessFlags := 25, slot := 1, constantValue := 0 }, { name := "TAU", type := .double, accessFlags := 25, slot := 2, constantValue := 0 }, { name := "DEGREES_TO_RADIANS", type := .double, accessFlags := 26, slot := 3, constantValue := 0 }, { name := "RADIANS_TO_DEGREES", type := .double, accessFlags := 26, slot := 4, constantValue := 0 }, { name := "negativeZeroFloatBits", type := .long, accessFlags := 26, slot := 5, constantValue := 0 }, { name := "negativeZeroDoubleBits", type := .long, accessFlags := 26, slot := 6, constantValue := 0 }, { name := "twoToTheDoubleScaleUp", type := .double, accessFlags := 8, slot := 7, constantValue := 0 }, { name := "twoToTheDoubleScaleDown", type := .double, accessFlags := 8, slot := 8, constantValue := 0 }, { name := "$assertionsDisabled", type := .boolean, accessFlags := 4120, slot := 9, constantValue := 0 }]
  methods := #[k9m0, k9m1]
  instanceTypes := #[]
  staticTypes := #[.double, .double, .double, .double, .double, .long, .long, .double, .double, .boolean]
  resolved := Array.replicate 460 none
  statics := none }

def pool10 : Array CpInfo := pool [(1, u "java/lang/Cloneable"), (0, .class_ 1), (0, u "java/lang/Object"), (0, .class_ 3)] 3

/-- java/lang/Cloneable -/
def k10 : Class := { plain "java/lang/Cloneable" (some 0) with
  accessFlags := 1537
  interfaces := #[]
  cf := some (fileOf pool10 2 #[] #[] 1537 4 #[] #[])
  fields := #[]
  methods := #[]
  instanceTypes := #[]
  staticTypes := #[]
  resolved := Array.replicate 8 none
  statics := none }

/-- the primitive byte -/
def k11 : Class := { plain "byte" none with kind := .primitive 'B', accessFlags := 0x411 }
/-- [B -/
def k12 : Class := { plain "[B" (some 0) with kind := .array 11 .byte, interfaces := #[10, 3], accessFlags := 1041 }

/-- the primitive int -/
def k13 : Class := { plain "int" none with kind := .primitive 'I', accessFlags := 0x411 }
/-- [I -/
def k14 : Class := { plain "[I" (some 0) with kind := .array 13 .int, interfaces := #[10, 3], accessFlags := 1041 }

def heap : Heap := #[]
def classes : Array Class := #[k0, k1, k2, k3, k4, k5, k6, k7, k8, k9, k10, k11, k12, k13, k14]
def interned : List (Array UInt16 × Addr) := []
def slotsUsed : Nat := 0
def theMethod : MethodId := ⟨1, 1⟩
def args0 : Array Value := #[.int 1, .long 2]
def aboutOver (below : List Frame) : State where
  vm := { classes := classes, interned := interned.toArray }
  heap := heap
  slotsUsed := slotsUsed
  threads := #[{ frames := .invoking theMethod args0 :: below }]
def below0 : List Frame := [.native { method := ⟨0, 0⟩, args := #[] }]
def about1 : State := aboutOver below0
def p0 : Program := .bare "" "" ""
def e0 : Env := launch0.env 0 0 0
theorem w_frames : about1.frames = Frame.invoking theMethod args0 :: below0 := rfl
set_option maxRecDepth 65536 in
theorem w_args : argsFit about1.vm theMethod args0 = true := by decide +kernel
set_option maxRecDepth 65536 in
theorem w_heap : heapFits about1 = true := by decide +kernel
set_option maxRecDepth 65536 in
theorem w_runnable : about1.curStatus? = some .runnable := by decide +kernel
set_option maxRecDepth 65536 in
theorem w_alone : about1.alone = true := by decide +kernel
set_option maxRecDepth 65536 in
theorem w_named : about1.methodNamed? x = some theMethod := by decide +kernel
set_option maxRecDepth 65536 in
theorem w_hears : about1.hears theMethod below0 = true := by decide +kernel
set_option maxRecDepth 65536 in
theorem w_ripe : about1.ripe theMethod args0 below0 = true := by decide +kernel
theorem w_running : about1.status = .running := rfl
set_option maxRecDepth 65536 in
theorem w_room : about1.hasRoom e0.platform room_1 = true :=
  launch0.hasRoom_least _ room_1 (by decide +kernel) (by decide +kernel) (by decide +kernel) (by decide +kernel) (by decide +kernel) (by decide +kernel)
theorem allAtoms_all (ts : List Jvm.Cond) (a : Array Jvm.Value) (st : Jvm.State) : (allAtoms ts).before a st = ts.all (fun c => c.before a st) := by
  induction ts with
  | nil => rfl
  | cons c t ih =>
    show (Jvm.Cond.and c (allAtoms t)).before a st = _
    rw [Jvm.Cond.before_and, ih, List.all_cons]
def words1 : List Jvm.Cond := Jvm.Cond.code x code maxLocals ret :: tables_1
/-- a 'code' word, met by the world's own term for the bytes: nothing is compared byte by byte -/
theorem code_word {y : MethodName} {bytes : ByteArray} {mx : Nat} {rt : Option FieldType} {a : Array Value} {s : State} {m : MethodId} {meth : Method} {c : Code} (h1 : s.methodNamed? y = some m) (h2 : s.vm.method? m = some meth) (h3 : meth.code = some c) (h4 : c.code = bytes)
    (h5 : (c.maxLocals == mx && c.exceptionTable.isEmpty && decide (c.maxStack ≤ mostOperands) && decide (meth.sig.returnType = rt) && !meth.locks && decide (parseMethodDescriptor y.desc = some meth.sig)) = true) : (Jvm.Cond.code y bytes mx rt).before a s = true := by
  simp only [Bool.and_eq_true, beq_iff_eq, Bool.not_eq_true', decide_eq_true_eq] at h5
  obtain ⟨⟨⟨⟨⟨g1, g2⟩, g3⟩, g4⟩, g5⟩, g6⟩ := h5
  simp [Cond.before, Cond.holds, Cond.value, h1, h2, h3, h4, g1, g2, g3, g4, g5, g6]
def isCode : Jvm.Cond → Bool
  | .code _ _ _ _ => true
  | _ => false
theorem all_split {L : List Jvm.Cond} {P : Jvm.Cond → Bool} (h1 : L.all (fun c => isCode c || P c) = true) (h2 : ∀ c ∈ L.filter isCode, P c = true) : L.all P = true := by
  refine List.all_eq_true.mpr fun c hc => ?_
  have h := List.all_eq_true.mp h1 c hc
  rcases Bool.eq_false_or_eq_true (isCode c) with hi | hi
  · exact h2 c (List.mem_filter.mpr ⟨hc, hi⟩)
  · simpa [hi] using h
set_option maxRecDepth 65536 in
theorem w_c0 : (Jvm.Cond.code x code maxLocals ret).before args0 about1 = true := code_word (m := ⟨1, 1⟩) (meth := k1m1) (c := k1c1) (by decide +kernel) rfl rfl rfl (by decide +kernel)
set_option maxRecDepth 65536 in
theorem w_c1 : (Jvm.Cond.code ({ cls := "com/example/pass2/pass2/util/Interval", name := "atLeast", desc := "(D)Lcom/example/pass2/pass2/util/Interval;" } : Jvm.MethodName) prog_46_method_2_code (2 : Nat) (Option.some (Jvm.ClassFile.FieldType.object "com/example/pass2/pass2/util/Interval"))).before args0 about1 = true := code_word (m := ⟨2, 1⟩) (meth := k2m1) (c := k2c1) (by decide +kernel) rfl rfl rfl (by decide +kernel)
set_option maxRecDepth 65536 in
theorem w_c2 : (Jvm.Cond.code ({ cls := "com/example/pass2/pass2/util/Interval", name := "<init>", desc := "(DDZ)V" } : Jvm.MethodName) prog_46_method_1_code (6 : Nat) (Option.none : Option Jvm.ClassFile.FieldType)).before args0 about1 = true := code_word (m := ⟨2, 0⟩) (meth := k2m0) (c := k2c0) (by decide +kernel) rfl rfl rfl (by decide +kernel)
set_option maxRecDepth 65536 in
theorem w_c3 : (Jvm.Cond.code ({ cls := "java/lang/Object", name := "<init>", desc := "()V" } : Jvm.MethodName) object_method_1_code (1 : Nat) (Option.none : Option Jvm.ClassFile.FieldType)).before args0 about1 = true := code_word (m := ⟨0, 0⟩) (meth := k0m0) (c := k0c0) (by decide +kernel) rfl rfl rfl (by decide +kernel)
set_option maxRecDepth 65536 in
theorem w_c4 : (Jvm.Cond.code ({ cls := "com/example/pass2/pass2/util/Interval", name := "contains", desc := "(D)Z" } : Jvm.MethodName) prog_46_method_6_code (3 : Nat) (Option.some Jvm.ClassFile.FieldType.boolean)).before args0 about1 = true := code_word (m := ⟨2, 2⟩) (meth := k2m2) (c := k2c2) (by decide +kernel) rfl rfl rfl (by decide +kernel)
set_option maxRecDepth 65536 in
theorem w_c5 : (Jvm.Cond.code ({ cls := "java/lang/Double", name := "isFinite", desc := "(D)Z" } : Jvm.MethodName) jdk_117_method_8_code (2 : Nat) (Option.some Jvm.ClassFile.FieldType.boolean)).before args0 about1 = true := code_word (m := ⟨8, 0⟩) (meth := k8m0) (c := k8c0) (by decide +kernel) rfl rfl rfl (by decide +kernel)
set_option maxRecDepth 65536 in
theorem w_c6 : (Jvm.Cond.code ({ cls := "java/lang/Math", name := "abs", desc := "(D)D" } : Jvm.MethodName) jdk_29_method_64_code (2 : Nat) (Option.some Jvm.ClassFile.FieldType.double)).before args0 about1 = true := code_word (m := ⟨9, 1⟩) (meth := k9m1) (c := k9c1) (by decide +kernel) rfl rfl rfl (by decide +kernel)
def codes1 : List Jvm.Cond := [Jvm.Cond.code x code maxLocals ret, Jvm.Cond.code ({ cls := "com/example/pass2/pass2/util/Interval", name := "atLeast", desc := "(D)Lcom/example/pass2/pass2/util/Interval;" } : Jvm.MethodName) prog_46_method_2_code (2 : Nat) (Option.some (Jvm.ClassFile.FieldType.object "com/example/pass2/pass2/util/Interval")), Jvm.Cond.code ({ cls := "com/example/pass2/pass2/util/Interval", name := "<init>", desc := "(DDZ)V" } : Jvm.MethodName) prog_46_method_1_code (6 : Nat) (Option.none : Option Jvm.ClassFile.FieldType), Jvm.Cond.code ({ cls := "java/lang/Object", name := "<init>", desc := "()V" } : Jvm.MethodName) object_method_1_code (1 : Nat) (Option.none : Option Jvm.ClassFile.FieldType), Jvm.Cond.code ({ cls := "com/example/pass2/pass2/util/Interval", name := "contains", desc := "(D)Z" } : Jvm.MethodName) prog_46_method_6_code (3 : Nat) (Option.some Jvm.ClassFile.FieldType.boolean), Jvm.Cond.code ({ cls := "java/lang/Double", name := "isFinite", desc := "(D)Z" } : Jvm.MethodName) jdk_117_method_8_code (2 : Nat) (Option.some Jvm.ClassFile.FieldType.boolean), Jvm.Cond.code ({ cls := "java/lang/Math", name := "abs", desc := "(D)D" } : Jvm.MethodName) jdk_29_method_64_code (2 : Nat) (Option.some Jvm.ClassFile.FieldType.double)]
set_option maxRecDepth 65536 in
theorem codes_eq : words1.filter isCode = codes1 := rfl
theorem w_codes : ∀ c ∈ words1.filter isCode, c.before args0 about1 = true := by
  rw [codes_eq]
  intro c hc
  simp only [codes1, List.mem_cons, List.not_mem_nil, or_false] at hc
  rcases hc with rfl | rfl | rfl | rfl | rfl | rfl | rfl
  · exact w_c0
  · exact w_c1
  · exact w_c2
  · exact w_c3
  · exact w_c4
  · exact w_c5
  · exact w_c6
set_option maxRecDepth 65536 in
theorem w_t1 : (words1.take 24).all (fun c => isCode c || c.before args0 about1) = true := by decide +kernel
set_option maxRecDepth 65536 in
theorem w_t2 : (words1.drop 24).all (fun c => isCode c || c.before args0 about1) = true := by decide +kernel
theorem w_tables : (allAtoms (Jvm.Cond.code x code maxLocals ret :: tables_1)).before args0 about1 = true := by
  rw [allAtoms_all]
  show words1.all (fun c => c.before args0 about1) = true
  refine all_split ?_ w_codes
  rw [← List.take_append_drop 24 words1, List.all_append, w_t1, w_t2]
  rfl
set_option maxRecDepth 65536 in
theorem w_case : (Jvm.Cond.and given_1 narrow_1).before args0 about1 = true := by decide +kernel
theorem w_applies : (headSpec (Jvm.Cond.code x code maxLocals ret :: tables_1) room_1).applies x e0.platform about1 = true :=
  (Spec.applies_iff w_frames).mpr ⟨w_running, w_runnable, w_alone, w_named, w_hears, w_ripe, w_room, w_tables⟩
theorem atStart : AtStart classFile x code maxLocals ret World_1 tables_1 room_1 Calls_1 rest_1 Pre_1 launch0 p0 e0 about1 theMethod args0 below0 :=
  ⟨lists_1, trivial, launch0.admits_env _ _ _, launch0.least_env, fairChoices_fair.cas, fairChoices_fair.clock, w_frames, w_args, w_heap, w_applies, trivial, trivial, w_case⟩
end start1
theorem witness_1 : WitnessClaimed_1 := ⟨start1.p0, start1.e0, start1.about1, start1.theMethod, start1.args0, start1.below0, start1.atStart⟩
end Jvm.Pilot.@@N@@
