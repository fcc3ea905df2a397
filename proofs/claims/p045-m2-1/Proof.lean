import JvmDerived
import JvmDerived.Pilot.@@N@@Statement
import JvmDerived.Pilot.@@N@@Code
set_option linter.unusedVariables false
set_option linter.unusedSimpArgs false
namespace Jvm.Pilot.@@N@@
open Jvm Jvm.ClassFile Sem Op Lib Jvm.Free Jvm.Stand Jvm.LawKit Jvm.RoadKit Bundle Jvm.Pilot.@@N@@.Jvm.D

section OwnKit
variable {p : Program} {l : Launch} {e : Env} {R : Room} {s : State} {m : MethodId} {args : Array Value} {below : List Frame} {meth : Method} {c : Code} {T : State} {locs : List Loc} {cells slots : Nat} {Z : State} {a0 : Array Value} {h : Heap}
/-- from T at frame F the walk reaches a state that P holds of -/
def own_R (tb : Tables) (e : Env) (below : List Frame) (P : State → Prop) (T : State) (F : JFrame) : Prop := ∃ t, Steps tb e below (T.setTop F) t ∧ P t
theorem own_go {tb : Tables} {e : Env} {below : List Frame} {P : State → Prop} {T T' : State} {F F' : JFrame} (h : ∀ t, Steps tb e below (T'.setTop F') t → Steps tb e below (T.setTop F) t) (r : own_R tb e below P T' F') : own_R tb e below P T F := by
  obtain ⟨t, a, b⟩ := r
  exact ⟨t, h t a, b⟩
/-- what a body's end must meet -/
def own_E (s : State) (below : List Frame) (Q : Option Value → Heap → List Loc → Prop) (C N : Nat) (t : State) : Prop := ∃ v L, t.status = .running ∧ Ended t below (.returned v) ∧ Q v t.heap L ∧ FrameEnd s (.returned v) t L C N
/-- a body's contract -/
abbrev own_C (l : Launch) (Z : State) (y : MethodName) (bytes : ByteArray) (ml : Nat) (ret : Option FieldType) (ws : List Jvm.Cond) (rm : Room) (as : Array Value) (h0 : Heap) (Q : Option Value → Heap → List Loc → Prop) : Prop :=
  MetFree l y (head1 (Jvm.Cond.code y bytes ml ret :: ws) rm) (fun a U => a = as ∧ Z.Warmed39 U.vm ∧ U.heap = h0) (fun _ _ _ _ _ => True) (fun _ U o U' => ∃ v L, o = .returned v ∧ Q v U'.heap L ∧ FrameEnd U o U' L rm.cells rm.slots)
theorem own_body {y : MethodName} {bytes : ByteArray} {ml : Nat} {ret : Option FieldType} {ws : List Jvm.Cond} {rm : Room} {as : Array Value} {h0 : Heap} {Q : Option Value → Heap → List Loc → Prop} {ls : Array Slot}
    (hy : plainFor y = true) (hef : ∀ m, entryFrame m as ml = mkF m 0 ls [])
    (H : ∀ (p : Program) (e : Env) (s : State) (m : MethodId) (below : List Frame) (meth : Method) (c : Code) (T : State), Z.Warmed39 s.vm → p.tables.exec = Jvm.exec → c.code = bytes → c.maxLocals = ml → s.vm.findClass y.cls = some m.cls → meth.name = y.name → meth.sig.returnType = ret → meth.locks = false →
      Stand p l e rm s m as below meth c T [] 0 0 → T.heap = h0 → own_R p.tables e below (own_E s below Q rm.cells rm.slots) T (mkF m 0 ls [])) :
    own_C l Z y bytes ml ret ws rm as h0 Q := by
  refine MetFree.of_bodySF hy hisR ?_
  intro p e s m args below meth c s₁ Bd hml0 hP hK
  obtain ⟨rfl, hZ, hh⟩ := hP
  obtain ⟨t, st, v, L, h1, h2, h3, h4⟩ := H p e s m below meth c s₁ hZ Bd.exec Bd.bytes hml0 (findClass_of_methodNamed Bd.named) (name_of_methodNamed Bd.named Bd.method).1 Bd.returns Bd.notSynchronized (Stand.of_body Bd) (by rw [← hh, Bd.state]; rfl)
  exact ⟨t, _, castTop (hef m) st, h1, h2, v, L, rfl, h3, h4⟩
theorem own_end {Q : Option Value → Heap → List Loc → Prop} {C N : Nat} {F : JFrame} (X : Stand p l e R s m args below meth c T locs cells slots) (v : Option Value) (hv : meth.sig.returnType = none → v = none) (hlk : meth.locks = false)
    (hst : ∀ fs, (∀ (f : JFrame) (acts : List Action), f.method = m → f.locked = none → f.entered = [] → (doReturn e (T.setTop f) acts v).1 = T.setFrames fs) → Steps p.tables e below (T.setTop F) (T.setFrames fs))
    (hQ : Q v T.heap locs) (hc : cells ≤ C) (hn : slots ≤ N) : own_R p.tables e below (own_E s below Q C N) T F := by
  obtain ⟨fs, hr, hrun, hended, hW, hsame⟩ := X.leave (v := v) hv hlk
  exact ⟨_, hst fs hr, v, locs, hrun, hended, hQ, ⟨_, rfl⟩, hW, hsame.mono hc hn⟩
theorem own_retI (X : Stand p l e R s m args below meth c T locs cells slots) (hx : p.tables.exec = Jvm.exec) {pc : Nat} {Ls : Array Slot} {z : Int32} {rest : List Value} (hret : meth.sig.returnType = some .int) (hd : decode c.code pc = .ok (.ireturn, 1)) {fs : List Frame}
    (hl : ∀ (f : JFrame) (acts : List Action), f.method = m → f.locked = none → f.entered = [] → (doReturn e (T.setTop f) acts (some (.int z))).1 = T.setFrames fs) : Steps p.tables e below (T.setTop (mkF m pc Ls (.int z :: rest))) (T.setFrames fs) := by
  have hm' : T.vm.method? m = some meth := X.method'
  have hn : narrow .int (.int z) = .int z := rfl
  show Steps p.tables e below (T.setTop { method := m, pc := pc, locals := Ls, stack := _ :: rest, locked := none }) _
  jvm_step X.here [X.here.top, hx, hd, hm', hret, hn]
  first | (intro acts; rw [hl _ acts rfl rfl rfl]) | rw [hl _ _ rfl rfl rfl]
  exact Steps.refl _
theorem own_retJ (X : Stand p l e R s m args below meth c T locs cells slots) (hx : p.tables.exec = Jvm.exec) {pc : Nat} {Ls : Array Slot} {z : Int64} {rest : List Value} (hret : meth.sig.returnType = some .long) (hd : decode c.code pc = .ok (.lreturn, 1)) {fs : List Frame}
    (hl : ∀ (f : JFrame) (acts : List Action), f.method = m → f.locked = none → f.entered = [] → (doReturn e (T.setTop f) acts (some (.long z))).1 = T.setFrames fs) : Steps p.tables e below (T.setTop (mkF m pc Ls (.long z :: rest))) (T.setFrames fs) := by
  have hm' : T.vm.method? m = some meth := X.method'
  have hn : narrow .long (.long z) = .long z := rfl
  show Steps p.tables e below (T.setTop { method := m, pc := pc, locals := Ls, stack := _ :: rest, locked := none }) _
  jvm_step X.here [X.here.top, hx, hd, hm', hret, hn]
  first | (intro acts; rw [hl _ acts rfl rfl rfl]) | rw [hl _ _ rfl rfl rfl]
  exact Steps.refl _
theorem own_retD (X : Stand p l e R s m args below meth c T locs cells slots) (hx : p.tables.exec = Jvm.exec) {pc : Nat} {Ls : Array Slot} {z : UInt64} {rest : List Value} (hret : meth.sig.returnType = some .double) (hd : decode c.code pc = .ok (.dreturn, 1)) {fs : List Frame}
    (hl : ∀ (f : JFrame) (acts : List Action), f.method = m → f.locked = none → f.entered = [] → (doReturn e (T.setTop f) acts (some (.double z))).1 = T.setFrames fs) : Steps p.tables e below (T.setTop (mkF m pc Ls (.double z :: rest))) (T.setFrames fs) := by
  have hm' : T.vm.method? m = some meth := X.method'
  have hn : narrow .double (.double z) = .double z := rfl
  show Steps p.tables e below (T.setTop { method := m, pc := pc, locals := Ls, stack := _ :: rest, locked := none }) _
  jvm_step X.here [X.here.top, hx, hd, hm', hret, hn]
  first | (intro acts; rw [hl _ acts rfl rfl rfl]) | rw [hl _ _ rfl rfl rfl]
  exact Steps.refl _
theorem own_retA (X : Stand p l e R s m args below meth c T locs cells slots) (hx : p.tables.exec = Jvm.exec) {pc : Nat} {Ls : Array Slot} {z : Value} {t : FieldType} {rest : List Value} (hret : meth.sig.returnType = some t) (ht : t.isReference = true) (hz : z.isRef = true) (hd : decode c.code pc = .ok (.areturn, 1)) {fs : List Frame}
    (hl : ∀ (f : JFrame) (acts : List Action), f.method = m → f.locked = none → f.entered = [] → (doReturn e (T.setTop f) acts (some z)).1 = T.setFrames fs) : Steps p.tables e below (T.setTop (mkF m pc Ls (z :: rest))) (T.setFrames fs) := by
  have hm' : T.vm.method? m = some meth := X.method'
  show Steps p.tables e below (T.setTop { method := m, pc := pc, locals := Ls, stack := _ :: rest, locked := none }) _
  jvm_step X.here [X.here.top, hx, hd, hm', hret, ht, hz]
  first | (intro acts; rw [hl _ acts rfl rfl rfl]) | rw [hl _ _ rfl rfl rfl]
  exact Steps.refl _
theorem own_len {a : Addr} {k : ClassId} {ty : FieldType} {n : Int32} {vs : List Value} {d : Value} (X : Stand p l e R s m args below meth c T locs cells slots) (hx : p.tables.exec = Jvm.exec) (hZ : Z.Warmed39 s.vm) (eT : T.heap = h) (V : Arv Z h a k ty n vs d)
    {g : JFrame} (hg : g.method = m) {rest : List Value} (hs : g.stack = .ref a :: rest) (hd : decode c.code g.pc = .ok (.arraylength, 1)) :
    ∀ t, Steps p.tables e below (T.setTop { g with pc := g.pc + 1, stack := .int n :: rest }) t → Steps p.tables e below (T.setTop g) t := by
  obtain ⟨cl, Ar, -, S, N, -, -⟩ := V
  intro t st
  refine X.arraylength hx (by rw [eT]; exact Ar.1) (State.isArrayOf_alike hZ.alike Ar.2.1) hg hs hd t ?_
  rw [len_of S N]
  exact st
theorem own_ldD {a : Addr} {k : ClassId} {n j : Int32} {vs : List Value} {d v : Value} (X : Stand p l e R s m args below meth c T locs cells slots) (hx : p.tables.exec = Jvm.exec) (hZ : Z.Warmed39 s.vm) (eT : T.heap = h) (V : Arv Z h a k .double n vs d) (hj : ¬ j < 0 ∧ j < n) (hv : vs.getD j.toNatClampNeg d = v)
    {g : JFrame} (hg : g.method = m) {rest : List Value} (hs : g.stack = .int j :: .ref a :: rest) (hd : decode c.code g.pc = .ok (.daload, 1)) :
    ∀ t, Steps p.tables e below (T.setTop { g with pc := g.pc + 1, stack := v :: rest }) t → Steps p.tables e below (T.setTop g) t := by
  obtain ⟨cl, Ar, -, S, N, H, -⟩ := V
  intro t st
  exact X.daload hx (by rw [eT]; exact Ar.1) (State.isArrayOf_alike hZ.alike Ar.2.1) Ar.2.2 (inb_of S hj) (H.at (inb_of S hj) hv) hg hs hd t st
theorem own_ldZ {a : Addr} {k : ClassId} {n j : Int32} {vs : List Value} {d v : Value} (X : Stand p l e R s m args below meth c T locs cells slots) (hx : p.tables.exec = Jvm.exec) (hZ : Z.Warmed39 s.vm) (eT : T.heap = h) (V : Arv Z h a k .boolean n vs d) (hj : ¬ j < 0 ∧ j < n) (hv : vs.getD j.toNatClampNeg d = v)
    {g : JFrame} (hg : g.method = m) {rest : List Value} (hs : g.stack = .int j :: .ref a :: rest) (hd : decode c.code g.pc = .ok (.baload, 1)) :
    ∀ t, Steps p.tables e below (T.setTop { g with pc := g.pc + 1, stack := v :: rest }) t → Steps p.tables e below (T.setTop g) t := by
  obtain ⟨cl, Ar, -, S, N, H, -⟩ := V
  intro t st
  exact X.baloadBooleans hx (by rw [eT]; exact Ar.1) (State.isArrayOf_alike hZ.alike Ar.2.1) Ar.2.2 (inb_of S hj) (H.at (inb_of S hj) hv) hg hs hd t st
theorem own_stD {a : Addr} {k : ClassId} {n j : Int32} {vs : List Value} {d : Value} {x : UInt64} (X : Stand p l e R s m args below meth c T locs cells slots) (hx : p.tables.exec = Jvm.exec) (hZ : Z.Warmed39 s.vm) (eT : T.heap = h) (V : Arv Z h a k .double n vs d) (hj : ¬ j < 0 ∧ j < n) (i : Nat) (hji : j.toNatClampNeg = i) (hi : i < vs.length)
    {g : JFrame} (hg : g.method = m) {rest : List Value} (hs : g.stack = .double x :: .int j :: .ref a :: rest) (hd : decode c.code g.pc = .ok (.dastore, 1)) :
    ∃ T' h', Stand p l e R s m args below meth c T' (locs ++ [⟨a, j.toNatClampNeg⟩]) cells slots ∧ T'.heap = h' ∧ Wr h h' a j.toNatClampNeg (.double x) ∧ Arv Z h' a k .double n (vs.set i (.double x)) d ∧ ∀ t, Steps p.tables e below (T'.setTop { g with pc := g.pc + 1, stack := rest }) t → Steps p.tables e below (T.setTop g) t := by
  obtain ⟨cl, Ar, q, S, N, H, G⟩ := V
  obtain ⟨T', h', X', e', W, st⟩ := stD X hx hZ eT Ar (inb_of S hj) hg hs hd
  exact ⟨T', h', X', e', W, Arv.set Ar q S N H G rfl W i hji hi, st⟩
theorem own_stZ {a : Addr} {k : ClassId} {n j : Int32} {vs : List Value} {d : Value} {x : Int32} (X : Stand p l e R s m args below meth c T locs cells slots) (hx : p.tables.exec = Jvm.exec) (hZ : Z.Warmed39 s.vm) (eT : T.heap = h) (V : Arv Z h a k .boolean n vs d) (hj : ¬ j < 0 ∧ j < n) (i : Nat) (hji : j.toNatClampNeg = i) (hi : i < vs.length) (h01 : x = 0 ∨ x = 1)
    {g : JFrame} (hg : g.method = m) {rest : List Value} (hs : g.stack = .int x :: .int j :: .ref a :: rest) (hd : decode c.code g.pc = .ok (.bastore, 1)) :
    ∃ T' h', Stand p l e R s m args below meth c T' (locs ++ [⟨a, j.toNatClampNeg⟩]) cells slots ∧ T'.heap = h' ∧ Wr h h' a j.toNatClampNeg (.int x) ∧ Arv Z h' a k .boolean n (vs.set i (.int x)) d ∧ ∀ t, Steps p.tables e below (T'.setTop { g with pc := g.pc + 1, stack := rest }) t → Steps p.tables e below (T.setTop g) t := by
  obtain ⟨cl, Ar, q, S, N, H, G⟩ := V
  obtain ⟨T', h', X', e', W, st⟩ := stZ X hx hZ eT Ar (inb_of S hj) hg hs hd
  have en : nar .boolean x = x := by rcases h01 with rfl | rfl <;> rfl
  rw [en] at W
  exact ⟨T', h', X', e', W, Arv.set Ar q S N H G (by rcases h01 with rfl | rfl <;> rfl) W i hji hi, st⟩
/-- a payer's form: what the three calls ask -/
abbrev own_B (l : Launch) (R : Room) (p : Program) (e : Env) (below : List Frame) (s : State) (args : Array Value) (y : MethodName) (W : Nat) (as : Array Value) (h : Heap) (kc ks : Nat) (Q : Option Value → Heap → List Loc → Prop) : Prop :=
  Back l R p e below s args y 3 W (fun A a => a = as ∧ A.U.heap = h ∧ A.cells + kc ≤ R.cells ∧ A.slots + ks ≤ R.slots) (fun A _ v B => ∃ L, Q v B.U.heap L ∧ B.locs = A.locs ++ L ∧ B.cells = A.cells + kc ∧ B.slots = A.slots + ks)
theorem own_backS (X : Stand p l e R s m args below meth c T locs cells slots) (hx : p.tables.exec = Jvm.exec) (hZ : Z.Warmed39 s.vm) {own : String} (hown : s.vm.findClass own = some m.cls) {index : Nat} {y : MethodName} {bytes : ByteArray} {maxL : Nat} {ret : Option FieldType}
    (w1 : (Jvm.Cond.methodLink own index y).before a0 Z = true) (w2 : (Jvm.Cond.static y).before a0 Z = true) (w3 : (Jvm.Cond.initialized y.cls).before a0 Z = true) (w4 : (Jvm.Cond.code y bytes maxL ret).before a0 Z = true) (hy : y.cls ≠ "java/lang/invoke/MethodHandle" ∧ y.cls ≠ "java/lang/invoke/VarHandle")
    {W kc ks : Nat} {as : Array Value} {Q : Option Value → Heap → List Loc → Prop} (hK : own_B l R p e below s args y W as h kc ks Q) 
    {g : JFrame} (hg : g.method = m) (hsize : g.locals.size = c.maxLocals) {argsL rest : List Value} (hlen : ∀ sig, parseMethodDescriptor y.desc = some sig → argsL.length = sig.parameters.length)
    (hst : g.stack = argsL.reverse ++ rest) (has : argsL.toArray = as) (hW : 2 * g.monitorRoom + (rest.map fun v => v.category).sum ≤ W) (hd : decode c.code g.pc = .ok (.invokestatic index, 3)) (eT : T.heap = h)
    (hc : cells + kc ≤ R.cells) (hs : slots + ks ≤ R.slots) :
    ∃ v T' L, Stand p l e R s m args below meth c T' (locs ++ L) (cells + kc) (slots + ks) ∧ Q v T'.heap L ∧ ∀ t, Steps p.tables e below (T'.setTop { g with pc := g.pc + 3, stack := v.toList ++ rest }) t → Steps p.tables e below (T.setTop g) t := by
  obtain ⟨v, vm1, ⟨T1, L1, k1, n1⟩, -, X1, ⟨Lc, hQ, l1, y1, z1⟩, st⟩ := Jvm.LawKit.callS X hx (y := y) hown (mvT hZ w1) (mvT hZ w2) (mvT hZ w3) (mvT hZ w4) hy hK hg hsize (argsL := argsL) (rest := rest) hlen hst hW hd (fun _ _ => ⟨has, eT, hc, hs⟩)
  dsimp only [Pt.U, Pt.locs, Pt.cells, Pt.slots] at X1 l1 y1 z1 st hQ
  subst l1 y1 z1
  exact ⟨v, T1, Lc, X1, hQ, st⟩
theorem own_callS (X : Stand p l e R s m args below meth c T locs cells slots) (hx : p.tables.exec = Jvm.exec) (hZ : Z.Warmed39 s.vm) {own : String} (hown : s.vm.findClass own = some m.cls) {index : Nat} {y : MethodName} {bytes : ByteArray} {maxL : Nat} {ret : Option FieldType}
    (w1 : (Jvm.Cond.methodLink own index y).before a0 Z = true) (w2 : (Jvm.Cond.static y).before a0 Z = true) (w3 : (Jvm.Cond.initialized y.cls).before a0 Z = true) (w4 : (Jvm.Cond.code y bytes maxL ret).before a0 Z = true) (hy : y.cls ≠ "java/lang/invoke/MethodHandle" ∧ y.cls ≠ "java/lang/invoke/VarHandle")
    {rm : Room} {as : Array Value} {Q : Option Value → Heap → List Loc → Prop} (hM : own_C l Z y bytes maxL ret [] rm as h Q) {W : Nat}
    {g : JFrame} (hg : g.method = m) (hsize : g.locals.size = c.maxLocals) {argsL rest : List Value} (hlen : ∀ sig, parseMethodDescriptor y.desc = some sig → argsL.length = sig.parameters.length)
    (hst : g.stack = argsL.reverse ++ rest) (has : argsL.toArray = as) (hW : 2 * g.monitorRoom + (rest.map fun v => v.category).sum ≤ W) (hd : decode c.code g.pc = .ok (.invokestatic index, 3)) (eT : T.heap = h)
    (hf : rm.frames + 1 ≤ R.frames) (hl : W + (maxL + 11) + rm.locals ≤ R.locals) (hc : cells + rm.cells ≤ R.cells) (hs : slots + rm.slots ≤ R.slots) :
    ∃ v T' L, Stand p l e R s m args below meth c T' (locs ++ L) (cells + rm.cells) (slots + rm.slots) ∧ Q v T'.heap L ∧ ∀ t, Steps p.tables e below (T'.setTop { g with pc := g.pc + 3, stack := v.toList ++ rest }) t → Steps p.tables e below (T.setTop g) t :=
  own_backS X hx hZ hown w1 w2 w3 w4 hy (backOf (W := W) hM hZ w4 w3 hf hl) hg hsize hlen hst has hW hd eT hc hs
theorem own_backI (X : Stand p l e R s m args below meth c T locs cells slots) (hx : p.tables.exec = Jvm.exec) (hZ : Z.Warmed39 s.vm) {own : String} (hown : s.vm.findClass own = some m.cls) {index : Nat} {y : MethodName} {bytes : ByteArray} {maxL : Nat} 
    (hy1 : y.name = "<init>") (w1 : (Jvm.Cond.methodLink own index y).before a0 Z = true) (w2 : (Jvm.Cond.instanceMethod y).before a0 Z = true) (w4 : (Jvm.Cond.code y bytes maxL none).before a0 Z = true) (w3 : (Jvm.Cond.initialized y.cls).before a0 Z = true) (hy : y.cls ≠ "java/lang/invoke/MethodHandle" ∧ y.cls ≠ "java/lang/invoke/VarHandle")
    {W kc ks : Nat} {as : Array Value} {Q : Option Value → Heap → List Loc → Prop} (hK : own_B l R p e below s args y W as h kc ks Q) 
    {g : JFrame} (hg : g.method = m) (hsize : g.locals.size = c.maxLocals) {a : Addr} {argsL rest : List Value} (hlen : ∀ sig, parseMethodDescriptor y.desc = some sig → argsL.length = sig.parameters.length)
    (hst : g.stack = argsL.reverse ++ .ref a :: rest) (has : (.ref a :: argsL).toArray = as) (hW : 2 * g.monitorRoom + (rest.map fun v => v.category).sum ≤ W) (hd : decode c.code g.pc = .ok (.invokespecial index, 3)) (eT : T.heap = h)
    (hc : cells + kc ≤ R.cells) (hs : slots + ks ≤ R.slots) :
    ∃ v T' L, Stand p l e R s m args below meth c T' (locs ++ L) (cells + kc) (slots + ks) ∧ Q v T'.heap L ∧ ∀ t, Steps p.tables e below (T'.setTop { g with pc := g.pc + 3, stack := v.toList ++ rest }) t → Steps p.tables e below (T.setTop g) t := by
  obtain ⟨v, vm1, ⟨T1, L1, k1, n1⟩, -, X1, ⟨Lc, hQ, l1, y1, z1⟩, st⟩ := X.specialBack hx (y := y) hy1 hown (mvT hZ w1) (mvT hZ w2) (mvT hZ w4) hy hK hg hsize (Steps.refl _) (a := a) (argsL := argsL) (rest := rest) hlen hst hW hd (fun _ _ => ⟨has, eT, hc, hs⟩)
  dsimp only [Pt.U, Pt.locs, Pt.cells, Pt.slots] at X1 l1 y1 z1 st hQ
  subst l1 y1 z1
  exact ⟨v, T1, Lc, X1, hQ, fun _ k => st.trans k⟩
theorem own_callI (X : Stand p l e R s m args below meth c T locs cells slots) (hx : p.tables.exec = Jvm.exec) (hZ : Z.Warmed39 s.vm) {own : String} (hown : s.vm.findClass own = some m.cls) {index : Nat} {y : MethodName} {bytes : ByteArray} {maxL : Nat} 
    (hy1 : y.name = "<init>") (w1 : (Jvm.Cond.methodLink own index y).before a0 Z = true) (w2 : (Jvm.Cond.instanceMethod y).before a0 Z = true) (w4 : (Jvm.Cond.code y bytes maxL none).before a0 Z = true) (w3 : (Jvm.Cond.initialized y.cls).before a0 Z = true) (hy : y.cls ≠ "java/lang/invoke/MethodHandle" ∧ y.cls ≠ "java/lang/invoke/VarHandle")
    {rm : Room} {as : Array Value} {Q : Option Value → Heap → List Loc → Prop} (hM : own_C l Z y bytes maxL none [] rm as h Q) {W : Nat}
    {g : JFrame} (hg : g.method = m) (hsize : g.locals.size = c.maxLocals) {a : Addr} {argsL rest : List Value} (hlen : ∀ sig, parseMethodDescriptor y.desc = some sig → argsL.length = sig.parameters.length)
    (hst : g.stack = argsL.reverse ++ .ref a :: rest) (has : (.ref a :: argsL).toArray = as) (hW : 2 * g.monitorRoom + (rest.map fun v => v.category).sum ≤ W) (hd : decode c.code g.pc = .ok (.invokespecial index, 3)) (eT : T.heap = h)
    (hf : rm.frames + 1 ≤ R.frames) (hl : W + (maxL + 11) + rm.locals ≤ R.locals) (hc : cells + rm.cells ≤ R.cells) (hs : slots + rm.slots ≤ R.slots) :
    ∃ v T' L, Stand p l e R s m args below meth c T' (locs ++ L) (cells + rm.cells) (slots + rm.slots) ∧ Q v T'.heap L ∧ ∀ t, Steps p.tables e below (T'.setTop { g with pc := g.pc + 3, stack := v.toList ++ rest }) t → Steps p.tables e below (T.setTop g) t :=
  own_backI X hx hZ hown hy1 w1 w2 w4 w3 hy (backOf (W := W) hM hZ w4 w3 hf hl) hg hsize hlen hst has hW hd eT hc hs
theorem own_backV (X : Stand p l e R s m args below meth c T locs cells slots) (hx : p.tables.exec = Jvm.exec) (hZ : Z.Warmed39 s.vm) {own C : String} (hown : s.vm.findClass own = some m.cls) {index : Nat} {y : MethodName} {bytes : ByteArray} {maxL : Nat} {ret : Option FieldType}
    (w1 : (Jvm.Cond.methodLink own index y).before a0 Z = true) (w2 : (Jvm.Cond.declares y).before a0 Z = true) (w5 : (Jvm.Cond.selects C y y).before a0 Z = true) (w6 : (Jvm.Cond.instanceMethod y).before a0 Z = true) (w4 : (Jvm.Cond.code y bytes maxL ret).before a0 Z = true) (w3 : (Jvm.Cond.initialized y.cls).before a0 Z = true) (hy : y.cls ≠ "java/lang/invoke/MethodHandle" ∧ y.cls ≠ "java/lang/invoke/VarHandle")
    {W kc ks : Nat} {as : Array Value} {Q : Option Value → Heap → List Loc → Prop} (hK : own_B l R p e below s args y W as h kc ks Q) {b : Addr} (hE : Exa Z h b C) 
    {g : JFrame} (hg : g.method = m) (hsize : g.locals.size = c.maxLocals) {argsL rest : List Value} (hlen : ∀ sig, parseMethodDescriptor y.desc = some sig → argsL.length = sig.parameters.length)
    (hst : g.stack = argsL.reverse ++ .ref b :: rest) (has : (.ref b :: argsL).toArray = as) (hW : 2 * g.monitorRoom + (rest.map fun v => v.category).sum ≤ W) (hd : decode c.code g.pc = .ok (.invokevirtual index, 3)) (eT : T.heap = h)
    (hc : cells + kc ≤ R.cells) (hs : slots + ks ≤ R.slots) :
    ∃ v T' L, Stand p l e R s m args below meth c T' (locs ++ L) (cells + kc) (slots + ks) ∧ Q v T'.heap L ∧ ∀ t, Steps p.tables e below (T'.setTop { g with pc := g.pc + 3, stack := v.toList ++ rest }) t → Steps p.tables e below (T.setTop g) t := by
  obtain ⟨cq, kq, qa, qb, qc⟩ := isOf hZ eT hE
  obtain ⟨v, vm1, ⟨T1, L1, k1, n1⟩, -, X1, ⟨Lc, hQ, l1, y1, z1⟩, st⟩ := X.virtualBack hx (y := y) (z := y) hown (mvT hZ w1) (mvT hZ w2) (notFace_of_selects (args := #[]) (mvT hZ w5)) (mvT hZ w5) (mvT hZ w6) hy hK qa qc hg hsize (Steps.refl _) (argsL := argsL) (rest := rest) hlen hst hW hd (fun _ _ => ⟨has, eT, hc, hs⟩)
  dsimp only [Pt.U, Pt.locs, Pt.cells, Pt.slots] at X1 l1 y1 z1 st hQ
  subst l1 y1 z1
  exact ⟨v, T1, Lc, X1, hQ, fun _ k => st.trans k⟩
theorem own_callV (X : Stand p l e R s m args below meth c T locs cells slots) (hx : p.tables.exec = Jvm.exec) (hZ : Z.Warmed39 s.vm) {own C : String} (hown : s.vm.findClass own = some m.cls) {index : Nat} {y : MethodName} {bytes : ByteArray} {maxL : Nat} {ret : Option FieldType}
    (w1 : (Jvm.Cond.methodLink own index y).before a0 Z = true) (w2 : (Jvm.Cond.declares y).before a0 Z = true) (w5 : (Jvm.Cond.selects C y y).before a0 Z = true) (w6 : (Jvm.Cond.instanceMethod y).before a0 Z = true) (w4 : (Jvm.Cond.code y bytes maxL ret).before a0 Z = true) (w3 : (Jvm.Cond.initialized y.cls).before a0 Z = true) (hy : y.cls ≠ "java/lang/invoke/MethodHandle" ∧ y.cls ≠ "java/lang/invoke/VarHandle")
    {rm : Room} {as : Array Value} {Q : Option Value → Heap → List Loc → Prop} (hM : own_C l Z y bytes maxL ret [] rm as h Q) {b : Addr} (hE : Exa Z h b C) {W : Nat}
    {g : JFrame} (hg : g.method = m) (hsize : g.locals.size = c.maxLocals) {argsL rest : List Value} (hlen : ∀ sig, parseMethodDescriptor y.desc = some sig → argsL.length = sig.parameters.length)
    (hst : g.stack = argsL.reverse ++ .ref b :: rest) (has : (.ref b :: argsL).toArray = as) (hW : 2 * g.monitorRoom + (rest.map fun v => v.category).sum ≤ W) (hd : decode c.code g.pc = .ok (.invokevirtual index, 3)) (eT : T.heap = h)
    (hf : rm.frames + 1 ≤ R.frames) (hl : W + (maxL + 11) + rm.locals ≤ R.locals) (hc : cells + rm.cells ≤ R.cells) (hs : slots + rm.slots ≤ R.slots) :
    ∃ v T' L, Stand p l e R s m args below meth c T' (locs ++ L) (cells + rm.cells) (slots + rm.slots) ∧ Q v T'.heap L ∧ ∀ t, Steps p.tables e below (T'.setTop { g with pc := g.pc + 3, stack := v.toList ++ rest }) t → Steps p.tables e below (T.setTop g) t :=
  own_backV X hx hZ hown w1 w2 w5 w6 w4 w3 hy (backOf (W := W) hM hZ w4 w3 hf hl) hE hg hsize hlen hst has hW hd eT hc hs
end OwnKit

theorem d1_0 : decode method_3_code 0 = .ok (.iload_n 0, 1) := by decide +kernel
theorem d1_1 : decode method_3_code 1 = .ok (.ifCond .ne 7, 3) := by decide +kernel
theorem d1_4 : decode method_3_code 4 = .ok (.iconst 0, 1) := by decide +kernel
theorem d1_5 : decode method_3_code 5 = .ok (.newarray .boolean, 2) := by decide +kernel
theorem d1_7 : decode method_3_code 7 = .ok (.areturn, 1) := by decide +kernel
theorem d1_8 : decode method_3_code 8 = .ok (.iload_n 0, 1) := by decide +kernel
theorem d1_9 : decode method_3_code 9 = .ok (.iconst 1, 1) := by decide +kernel
theorem d1_10 : decode method_3_code 10 = .ok (.if_icmp .ne 7, 3) := by decide +kernel
theorem d1_13 : decode method_3_code 13 = .ok (.iconst 1, 1) := by decide +kernel
theorem d1_14 : decode method_3_code 14 = .ok (.newarray .boolean, 2) := by decide +kernel
theorem d1_16 : decode method_3_code 16 = .ok (.areturn, 1) := by decide +kernel
theorem d1_17 : decode method_3_code 17 = .ok (.iload_n 0, 1) := by decide +kernel
theorem d1_18 : decode method_3_code 18 = .ok (.iconst 2, 1) := by decide +kernel
theorem d1_19 : decode method_3_code 19 = .ok (.if_icmp .ne 7, 3) := by decide +kernel
theorem d1_22 : decode method_3_code 22 = .ok (.iconst 2, 1) := by decide +kernel
theorem d1_23 : decode method_3_code 23 = .ok (.newarray .boolean, 2) := by decide +kernel
theorem d1_25 : decode method_3_code 25 = .ok (.areturn, 1) := by decide +kernel
theorem d1_26 : decode method_3_code 26 = .ok (.iload_n 0, 1) := by decide +kernel
theorem d1_27 : decode method_3_code 27 = .ok (.iconst 3, 1) := by decide +kernel
theorem d1_28 : decode method_3_code 28 = .ok (.if_icmp .ne 7, 3) := by decide +kernel
theorem d1_31 : decode method_3_code 31 = .ok (.iconst 3, 1) := by decide +kernel
theorem d1_32 : decode method_3_code 32 = .ok (.newarray .boolean, 2) := by decide +kernel
theorem d1_34 : decode method_3_code 34 = .ok (.areturn, 1) := by decide +kernel
theorem d1_35 : decode method_3_code 35 = .ok (.iload_n 0, 1) := by decide +kernel
theorem d1_36 : decode method_3_code 36 = .ok (.iconst 4, 1) := by decide +kernel
theorem d1_37 : decode method_3_code 37 = .ok (.if_icmp .ne 7, 3) := by decide +kernel
theorem d1_40 : decode method_3_code 40 = .ok (.iconst 4, 1) := by decide +kernel
theorem d1_41 : decode method_3_code 41 = .ok (.newarray .boolean, 2) := by decide +kernel
theorem d1_43 : decode method_3_code 43 = .ok (.areturn, 1) := by decide +kernel
theorem d1_44 : decode method_3_code 44 = .ok (.iload_n 0, 1) := by decide +kernel
theorem d1_45 : decode method_3_code 45 = .ok (.iconst 5, 1) := by decide +kernel
theorem d1_46 : decode method_3_code 46 = .ok (.if_icmp .ne 7, 3) := by decide +kernel
theorem d1_49 : decode method_3_code 49 = .ok (.iconst 5, 1) := by decide +kernel
theorem d1_50 : decode method_3_code 50 = .ok (.newarray .boolean, 2) := by decide +kernel
theorem d1_52 : decode method_3_code 52 = .ok (.areturn, 1) := by decide +kernel
theorem d1_53 : decode method_3_code 53 = .ok (.iload_n 0, 1) := by decide +kernel
theorem d1_54 : decode method_3_code 54 = .ok (.bipush 6, 2) := by decide +kernel
theorem d1_56 : decode method_3_code 56 = .ok (.if_icmp .ne 8, 3) := by decide +kernel
theorem d1_59 : decode method_3_code 59 = .ok (.bipush 6, 2) := by decide +kernel
theorem d1_61 : decode method_3_code 61 = .ok (.newarray .boolean, 2) := by decide +kernel
theorem d1_63 : decode method_3_code 63 = .ok (.areturn, 1) := by decide +kernel
theorem d1_64 : decode method_3_code 64 = .ok (.bipush 7, 2) := by decide +kernel
theorem d1_66 : decode method_3_code 66 = .ok (.newarray .boolean, 2) := by decide +kernel
theorem d1_68 : decode method_3_code 68 = .ok (.areturn, 1) := by decide +kernel

theorem d2_0 : decode prog_7_method_1_code 0 = .ok (.aload_n 0, 1) := by decide +kernel
theorem d2_1 : decode prog_7_method_1_code 1 = .ok (.invokespecial 1, 3) := by decide +kernel
theorem d2_4 : decode prog_7_method_1_code 4 = .ok (.aload_n 0, 1) := by decide +kernel
theorem d2_5 : decode prog_7_method_1_code 5 = .ok (.aload_n 1, 1) := by decide +kernel
theorem d2_6 : decode prog_7_method_1_code 6 = .ok (.putfield 7, 3) := by decide +kernel
theorem d2_9 : decode prog_7_method_1_code 9 = .ok (.aload_n 0, 1) := by decide +kernel
theorem d2_10 : decode prog_7_method_1_code 10 = .ok (.iload_n 2, 1) := by decide +kernel
theorem d2_11 : decode prog_7_method_1_code 11 = .ok (.putfield 13, 3) := by decide +kernel
theorem d2_14 : decode prog_7_method_1_code 14 = .ok (.return_, 1) := by decide +kernel

theorem d4_0 : decode prog_7_method_6_code 0 = .ok (.dconst 0, 1) := by decide +kernel
theorem d4_1 : decode prog_7_method_6_code 1 = .ok (.dstore_n 1, 1) := by decide +kernel
theorem d4_2 : decode prog_7_method_6_code 2 = .ok (.iconst 1, 1) := by decide +kernel
theorem d4_3 : decode prog_7_method_6_code 3 = .ok (.istore_n 3, 1) := by decide +kernel
theorem d4_4 : decode prog_7_method_6_code 4 = .ok (.iload_n 3, 1) := by decide +kernel
theorem d4_5 : decode prog_7_method_6_code 5 = .ok (.aload_n 0, 1) := by decide +kernel
theorem d4_6 : decode prog_7_method_6_code 6 = .ok (.getfield 7, 3) := by decide +kernel
theorem d4_9 : decode prog_7_method_6_code 9 = .ok (.arraylength, 1) := by decide +kernel
theorem d4_10 : decode prog_7_method_6_code 10 = .ok (.if_icmp .gt 31, 3) := by decide +kernel
theorem d4_13 : decode prog_7_method_6_code 13 = .ok (.dload_n 1, 1) := by decide +kernel
theorem d4_14 : decode prog_7_method_6_code 14 = .ok (.dconst 0, 1) := by decide +kernel
theorem d4_15 : decode prog_7_method_6_code 15 = .ok (.dcmp .l, 1) := by decide +kernel
theorem d4_16 : decode prog_7_method_6_code 16 = .ok (.ifCond .ne 25, 3) := by decide +kernel
theorem d4_19 : decode prog_7_method_6_code 19 = .ok (.aload_n 0, 1) := by decide +kernel
theorem d4_20 : decode prog_7_method_6_code 20 = .ok (.getfield 7, 3) := by decide +kernel
theorem d4_23 : decode prog_7_method_6_code 23 = .ok (.iload_n 3, 1) := by decide +kernel
theorem d4_24 : decode prog_7_method_6_code 24 = .ok (.iconst 1, 1) := by decide +kernel
theorem d4_25 : decode prog_7_method_6_code 25 = .ok (.isub, 1) := by decide +kernel
theorem d4_26 : decode prog_7_method_6_code 26 = .ok (.baload, 1) := by decide +kernel
theorem d4_27 : decode prog_7_method_6_code 27 = .ok (.ifCond .eq 8, 3) := by decide +kernel
theorem d4_30 : decode prog_7_method_6_code 30 = .ok (.dconst 1, 1) := by decide +kernel
theorem d4_31 : decode prog_7_method_6_code 31 = .ok (.iload_n 3, 1) := by decide +kernel
theorem d4_32 : decode prog_7_method_6_code 32 = .ok (.i2d, 1) := by decide +kernel
theorem d4_33 : decode prog_7_method_6_code 33 = .ok (.ddiv, 1) := by decide +kernel
theorem d4_34 : decode prog_7_method_6_code 34 = .ok (.dstore_n 1, 1) := by decide +kernel
theorem d4_35 : decode prog_7_method_6_code 35 = .ok (.iinc 3 1, 3) := by decide +kernel
theorem d4_38 : decode prog_7_method_6_code 38 = .ok (.goto (-34), 3) := by decide +kernel
theorem d4_41 : decode prog_7_method_6_code 41 = .ok (.dload_n 1, 1) := by decide +kernel
theorem d4_42 : decode prog_7_method_6_code 42 = .ok (.dreturn, 1) := by decide +kernel

theorem pn_0 : plainFor x = true := by first | exact plainFor_of_name (by first | (simp [plainName, overriddenIn]; done) | decide +kernel) | decide +kernel

theorem pn_1 : plainFor (⟨"com/example/kookaburra/kookaburra/eval/RankingReciprocalRankPinLaw", "make", "(I)[Z"⟩ : MethodName) = true := by first | exact plainFor_of_name (by first | (simp [plainName, overriddenIn]; done) | decide +kernel) | decide +kernel

theorem pn_2 : plainFor (⟨"com/example/kookaburra/kookaburra/eval/Ranking", "<init>", "([ZI)V"⟩ : MethodName) = true := by first | exact plainFor_of_name (by first | (simp [plainName, overriddenIn]; done) | decide +kernel) | decide +kernel

theorem pn_4 : plainFor (⟨"com/example/kookaburra/kookaburra/eval/Ranking", "reciprocalRank", "()D"⟩ : MethodName) = true := by first | exact plainFor_of_name (by first | (simp [plainName, overriddenIn]; done) | decide +kernel) | decide +kernel

theorem pd__I__Z : parseMethodDescriptor "(I)[Z" = some ⟨[.int], some (.array .boolean)⟩ := by decide +kernel
theorem pd___ZI_V : parseMethodDescriptor "([ZI)V" = some ⟨[(.array .boolean), .int], none⟩ := by decide +kernel
theorem pd___D : parseMethodDescriptor "()D" = some ⟨[], some .double⟩ := by decide +kernel
theorem pd___V : parseMethodDescriptor "()V" = some ⟨[], none⟩ := by decide +kernel

def own_Qr (r : Option Value) (h0 : Heap) (n0 : Nat) (v : Option Value) (h : Heap) (L : List Loc) : Prop := v = r ∧ Fr n0 L ∧ h = h0
def own_Qm (Z : State) (n : Int32) (h0 : Heap) (n0 : Nat) (v : Option Value) (h : Heap) (L : List Loc) : Prop := ∃ a k, v = some (.ref a) ∧ Fr n0 L ∧ Keep h0 h [] ∧ h0.size ≤ a ∧ Arv Z h a k .boolean n [] (.int 0)
def own_n7 (n : Int32) : Prop := n = 0 ∨ n = 1 ∨ n = 2 ∨ n = 3 ∨ n = 4 ∨ n = 5 ∨ n = 6 ∨ n = 7
set_option maxRecDepth 65536 in
set_option maxHeartbeats 4000000 in
theorem rmMk (l : Launch) (Z : State) (a0 : Array Value) (hw : ∀ d ∈ tables_1, d.before a0 Z = true) (ws : List Jvm.Cond) (h0 : Heap) (n0 : Nat) (n : Int32) (hn : own_n7 n) :
    own_C l Z (⟨"com/example/kookaburra/kookaburra/eval/RankingReciprocalRankPinLaw", "make", "(I)[Z"⟩ : MethodName) method_3_code 1 (some (.array .boolean)) ws ({ frames := 0, cells := 1, slots := 7, locals := 0 } : Room) #[(.int n)] h0 (own_Qm Z n h0 n0) := by
  refine own_body (ls := #[.val (.int n)]) pn_1 (fun m => by first | (simp [entryFrame, mkF, argsToLocals, Value.category]; done) | rfl) ?_
  intro p e s m below meth c T0 hZ hx hby hml hown hnm hret hlk X0 e0
  replace hml : c.maxLocals = 1 := hml
  have N0 := Fr.nil n0
  rcases hn with rfl | rfl | rfl | rfl | rfl | rfl | rfl | rfl
  · show own_R p.tables e below _ T0 (mkF m 0 #[.val (.int (0 : Int32))] [])
    refine own_go (fun _ => XS.iloadN X0.here hx rfl (hb hby d1_0) rfl ) ?_
    show own_R p.tables e below _ T0 (mkF m 1 #[.val (.int (0 : Int32))] [(.int (0 : Int32))])
    refine own_go (fun _ => XS.ifNo X0.here hx rfl (hb hby d1_1) rfl ((if0 _ _).trans (teq (by decide)).2)) ?_
    show own_R p.tables e below _ T0 (mkF m 4 #[.val (.int (0 : Int32))] [])
    refine own_go (fun _ => XS.iconst X0.here hx rfl (hb hby d1_4)) ?_
    show own_R p.tables e below _ T0 (mkF m 5 #[.val (.int (0 : Int32))] [(.int (0 : Int32))])
    obtain ⟨T1, h1, k1, X1, e1, E1, A1, st1⟩ := newP X0 hx hZ (hw _ (List.mem_of_getElem? (i := 4) rfl)) e0 (g := (mkF m 5 #[.val (.int (0 : Int32))] [(.int (0 : Int32))])) rfl (hb hby d1_5) rfl (by decide) (cap := 7) (by decide) (by decide) (by decide) (by decide)
    obtain ⟨a1, g1⟩ : ∃ z, z = h0.size := ⟨_, rfl⟩
    rw [← g1] at A1 st1
    refine own_go st1 ?_
    show own_R p.tables e below _ T1 (mkF m 7 #[.val (.int (0 : Int32))] [(.ref a1)])
    exact own_end X1 (some (.ref a1)) (fun h => by rw [hret] at h; cases h) hlk (fun fs hr => own_retA X1 hx hret rfl rfl (hb hby d1_7) hr) (by show own_Qm Z _ h0 n0 _ T1.heap _; rw [e1]; exact ⟨a1, k1, rfl, N0, (Keep.refl h0 []).ext E1, Nat.le_of_eq g1.symm, Arv.new A1 (by decide)⟩) (by decide) (by decide)
  · show own_R p.tables e below _ T0 (mkF m 0 #[.val (.int (1 : Int32))] [])
    refine own_go (fun _ => XS.iloadN X0.here hx rfl (hb hby d1_0) rfl ) ?_
    show own_R p.tables e below _ T0 (mkF m 1 #[.val (.int (1 : Int32))] [(.int (1 : Int32))])
    refine own_go (fun _ => XS.ifYes X0.here hx rfl (pc0 := 1) (pc' := 8) rfl (hb hby d1_1) rfl ((if0 _ _).trans (feq (by decide)).2) (by decide) (by decide)) ?_
    show own_R p.tables e below _ T0 (mkF m 8 #[.val (.int (1 : Int32))] [])
    refine own_go (fun _ => XS.iloadN X0.here hx rfl (hb hby d1_8) rfl ) ?_
    show own_R p.tables e below _ T0 (mkF m 9 #[.val (.int (1 : Int32))] [(.int (1 : Int32))])
    refine own_go (fun _ => XS.iconst X0.here hx rfl (hb hby d1_9)) ?_
    show own_R p.tables e below _ T0 (mkF m 10 #[.val (.int (1 : Int32))] [(.int (1 : Int32)), (.int (1 : Int32))])
    refine own_go (fun _ => XS.icmpNo X0.here hx rfl (hb hby d1_10) rfl (teq (by decide)).2) ?_
    show own_R p.tables e below _ T0 (mkF m 13 #[.val (.int (1 : Int32))] [])
    refine own_go (fun _ => XS.iconst X0.here hx rfl (hb hby d1_13)) ?_
    show own_R p.tables e below _ T0 (mkF m 14 #[.val (.int (1 : Int32))] [(.int (1 : Int32))])
    obtain ⟨T1, h1, k1, X1, e1, E1, A1, st1⟩ := newP X0 hx hZ (hw _ (List.mem_of_getElem? (i := 4) rfl)) e0 (g := (mkF m 14 #[.val (.int (1 : Int32))] [(.int (1 : Int32))])) rfl (hb hby d1_14) rfl (by decide) (cap := 7) (by decide) (by decide) (by decide) (by decide)
    obtain ⟨a1, g1⟩ : ∃ z, z = h0.size := ⟨_, rfl⟩
    rw [← g1] at A1 st1
    refine own_go st1 ?_
    show own_R p.tables e below _ T1 (mkF m 16 #[.val (.int (1 : Int32))] [(.ref a1)])
    exact own_end X1 (some (.ref a1)) (fun h => by rw [hret] at h; cases h) hlk (fun fs hr => own_retA X1 hx hret rfl rfl (hb hby d1_16) hr) (by show own_Qm Z _ h0 n0 _ T1.heap _; rw [e1]; exact ⟨a1, k1, rfl, N0, (Keep.refl h0 []).ext E1, Nat.le_of_eq g1.symm, Arv.new A1 (by decide)⟩) (by decide) (by decide)
  · show own_R p.tables e below _ T0 (mkF m 0 #[.val (.int (2 : Int32))] [])
    refine own_go (fun _ => XS.iloadN X0.here hx rfl (hb hby d1_0) rfl ) ?_
    show own_R p.tables e below _ T0 (mkF m 1 #[.val (.int (2 : Int32))] [(.int (2 : Int32))])
    refine own_go (fun _ => XS.ifYes X0.here hx rfl (pc0 := 1) (pc' := 8) rfl (hb hby d1_1) rfl ((if0 _ _).trans (feq (by decide)).2) (by decide) (by decide)) ?_
    show own_R p.tables e below _ T0 (mkF m 8 #[.val (.int (2 : Int32))] [])
    refine own_go (fun _ => XS.iloadN X0.here hx rfl (hb hby d1_8) rfl ) ?_
    show own_R p.tables e below _ T0 (mkF m 9 #[.val (.int (2 : Int32))] [(.int (2 : Int32))])
    refine own_go (fun _ => XS.iconst X0.here hx rfl (hb hby d1_9)) ?_
    show own_R p.tables e below _ T0 (mkF m 10 #[.val (.int (2 : Int32))] [(.int (1 : Int32)), (.int (2 : Int32))])
    refine own_go (fun _ => XS.icmpYes X0.here hx rfl (pc0 := 10) (pc' := 17) rfl (hb hby d1_10) rfl (feq (by decide)).2 (by decide) (by decide)) ?_
    show own_R p.tables e below _ T0 (mkF m 17 #[.val (.int (2 : Int32))] [])
    refine own_go (fun _ => XS.iloadN X0.here hx rfl (hb hby d1_17) rfl ) ?_
    show own_R p.tables e below _ T0 (mkF m 18 #[.val (.int (2 : Int32))] [(.int (2 : Int32))])
    refine own_go (fun _ => XS.iconst X0.here hx rfl (hb hby d1_18)) ?_
    show own_R p.tables e below _ T0 (mkF m 19 #[.val (.int (2 : Int32))] [(.int (2 : Int32)), (.int (2 : Int32))])
    refine own_go (fun _ => XS.icmpNo X0.here hx rfl (hb hby d1_19) rfl (teq (by decide)).2) ?_
    show own_R p.tables e below _ T0 (mkF m 22 #[.val (.int (2 : Int32))] [])
    refine own_go (fun _ => XS.iconst X0.here hx rfl (hb hby d1_22)) ?_
    show own_R p.tables e below _ T0 (mkF m 23 #[.val (.int (2 : Int32))] [(.int (2 : Int32))])
    obtain ⟨T1, h1, k1, X1, e1, E1, A1, st1⟩ := newP X0 hx hZ (hw _ (List.mem_of_getElem? (i := 4) rfl)) e0 (g := (mkF m 23 #[.val (.int (2 : Int32))] [(.int (2 : Int32))])) rfl (hb hby d1_23) rfl (by decide) (cap := 7) (by decide) (by decide) (by decide) (by decide)
    obtain ⟨a1, g1⟩ : ∃ z, z = h0.size := ⟨_, rfl⟩
    rw [← g1] at A1 st1
    refine own_go st1 ?_
    show own_R p.tables e below _ T1 (mkF m 25 #[.val (.int (2 : Int32))] [(.ref a1)])
    exact own_end X1 (some (.ref a1)) (fun h => by rw [hret] at h; cases h) hlk (fun fs hr => own_retA X1 hx hret rfl rfl (hb hby d1_25) hr) (by show own_Qm Z _ h0 n0 _ T1.heap _; rw [e1]; exact ⟨a1, k1, rfl, N0, (Keep.refl h0 []).ext E1, Nat.le_of_eq g1.symm, Arv.new A1 (by decide)⟩) (by decide) (by decide)
  · show own_R p.tables e below _ T0 (mkF m 0 #[.val (.int (3 : Int32))] [])
    refine own_go (fun _ => XS.iloadN X0.here hx rfl (hb hby d1_0) rfl ) ?_
    show own_R p.tables e below _ T0 (mkF m 1 #[.val (.int (3 : Int32))] [(.int (3 : Int32))])
    refine own_go (fun _ => XS.ifYes X0.here hx rfl (pc0 := 1) (pc' := 8) rfl (hb hby d1_1) rfl ((if0 _ _).trans (feq (by decide)).2) (by decide) (by decide)) ?_
    show own_R p.tables e below _ T0 (mkF m 8 #[.val (.int (3 : Int32))] [])
    refine own_go (fun _ => XS.iloadN X0.here hx rfl (hb hby d1_8) rfl ) ?_
    show own_R p.tables e below _ T0 (mkF m 9 #[.val (.int (3 : Int32))] [(.int (3 : Int32))])
    refine own_go (fun _ => XS.iconst X0.here hx rfl (hb hby d1_9)) ?_
    show own_R p.tables e below _ T0 (mkF m 10 #[.val (.int (3 : Int32))] [(.int (1 : Int32)), (.int (3 : Int32))])
    refine own_go (fun _ => XS.icmpYes X0.here hx rfl (pc0 := 10) (pc' := 17) rfl (hb hby d1_10) rfl (feq (by decide)).2 (by decide) (by decide)) ?_
    show own_R p.tables e below _ T0 (mkF m 17 #[.val (.int (3 : Int32))] [])
    refine own_go (fun _ => XS.iloadN X0.here hx rfl (hb hby d1_17) rfl ) ?_
    show own_R p.tables e below _ T0 (mkF m 18 #[.val (.int (3 : Int32))] [(.int (3 : Int32))])
    refine own_go (fun _ => XS.iconst X0.here hx rfl (hb hby d1_18)) ?_
    show own_R p.tables e below _ T0 (mkF m 19 #[.val (.int (3 : Int32))] [(.int (2 : Int32)), (.int (3 : Int32))])
    refine own_go (fun _ => XS.icmpYes X0.here hx rfl (pc0 := 19) (pc' := 26) rfl (hb hby d1_19) rfl (feq (by decide)).2 (by decide) (by decide)) ?_
    show own_R p.tables e below _ T0 (mkF m 26 #[.val (.int (3 : Int32))] [])
    refine own_go (fun _ => XS.iloadN X0.here hx rfl (hb hby d1_26) rfl ) ?_
    show own_R p.tables e below _ T0 (mkF m 27 #[.val (.int (3 : Int32))] [(.int (3 : Int32))])
    refine own_go (fun _ => XS.iconst X0.here hx rfl (hb hby d1_27)) ?_
    show own_R p.tables e below _ T0 (mkF m 28 #[.val (.int (3 : Int32))] [(.int (3 : Int32)), (.int (3 : Int32))])
    refine own_go (fun _ => XS.icmpNo X0.here hx rfl (hb hby d1_28) rfl (teq (by decide)).2) ?_
    show own_R p.tables e below _ T0 (mkF m 31 #[.val (.int (3 : Int32))] [])
    refine own_go (fun _ => XS.iconst X0.here hx rfl (hb hby d1_31)) ?_
    show own_R p.tables e below _ T0 (mkF m 32 #[.val (.int (3 : Int32))] [(.int (3 : Int32))])
    obtain ⟨T1, h1, k1, X1, e1, E1, A1, st1⟩ := newP X0 hx hZ (hw _ (List.mem_of_getElem? (i := 4) rfl)) e0 (g := (mkF m 32 #[.val (.int (3 : Int32))] [(.int (3 : Int32))])) rfl (hb hby d1_32) rfl (by decide) (cap := 7) (by decide) (by decide) (by decide) (by decide)
    obtain ⟨a1, g1⟩ : ∃ z, z = h0.size := ⟨_, rfl⟩
    rw [← g1] at A1 st1
    refine own_go st1 ?_
    show own_R p.tables e below _ T1 (mkF m 34 #[.val (.int (3 : Int32))] [(.ref a1)])
    exact own_end X1 (some (.ref a1)) (fun h => by rw [hret] at h; cases h) hlk (fun fs hr => own_retA X1 hx hret rfl rfl (hb hby d1_34) hr) (by show own_Qm Z _ h0 n0 _ T1.heap _; rw [e1]; exact ⟨a1, k1, rfl, N0, (Keep.refl h0 []).ext E1, Nat.le_of_eq g1.symm, Arv.new A1 (by decide)⟩) (by decide) (by decide)
  · show own_R p.tables e below _ T0 (mkF m 0 #[.val (.int (4 : Int32))] [])
    refine own_go (fun _ => XS.iloadN X0.here hx rfl (hb hby d1_0) rfl ) ?_
    show own_R p.tables e below _ T0 (mkF m 1 #[.val (.int (4 : Int32))] [(.int (4 : Int32))])
    refine own_go (fun _ => XS.ifYes X0.here hx rfl (pc0 := 1) (pc' := 8) rfl (hb hby d1_1) rfl ((if0 _ _).trans (feq (by decide)).2) (by decide) (by decide)) ?_
    show own_R p.tables e below _ T0 (mkF m 8 #[.val (.int (4 : Int32))] [])
    refine own_go (fun _ => XS.iloadN X0.here hx rfl (hb hby d1_8) rfl ) ?_
    show own_R p.tables e below _ T0 (mkF m 9 #[.val (.int (4 : Int32))] [(.int (4 : Int32))])
    refine own_go (fun _ => XS.iconst X0.here hx rfl (hb hby d1_9)) ?_
    show own_R p.tables e below _ T0 (mkF m 10 #[.val (.int (4 : Int32))] [(.int (1 : Int32)), (.int (4 : Int32))])
    refine own_go (fun _ => XS.icmpYes X0.here hx rfl (pc0 := 10) (pc' := 17) rfl (hb hby d1_10) rfl (feq (by decide)).2 (by decide) (by decide)) ?_
    show own_R p.tables e below _ T0 (mkF m 17 #[.val (.int (4 : Int32))] [])
    refine own_go (fun _ => XS.iloadN X0.here hx rfl (hb hby d1_17) rfl ) ?_
    show own_R p.tables e below _ T0 (mkF m 18 #[.val (.int (4 : Int32))] [(.int (4 : Int32))])
    refine own_go (fun _ => XS.iconst X0.here hx rfl (hb hby d1_18)) ?_
    show own_R p.tables e below _ T0 (mkF m 19 #[.val (.int (4 : Int32))] [(.int (2 : Int32)), (.int (4 : Int32))])
    refine own_go (fun _ => XS.icmpYes X0.here hx rfl (pc0 := 19) (pc' := 26) rfl (hb hby d1_19) rfl (feq (by decide)).2 (by decide) (by decide)) ?_
    show own_R p.tables e below _ T0 (mkF m 26 #[.val (.int (4 : Int32))] [])
    refine own_go (fun _ => XS.iloadN X0.here hx rfl (hb hby d1_26) rfl ) ?_
    show own_R p.tables e below _ T0 (mkF m 27 #[.val (.int (4 : Int32))] [(.int (4 : Int32))])
    refine own_go (fun _ => XS.iconst X0.here hx rfl (hb hby d1_27)) ?_
    show own_R p.tables e below _ T0 (mkF m 28 #[.val (.int (4 : Int32))] [(.int (3 : Int32)), (.int (4 : Int32))])
    refine own_go (fun _ => XS.icmpYes X0.here hx rfl (pc0 := 28) (pc' := 35) rfl (hb hby d1_28) rfl (feq (by decide)).2 (by decide) (by decide)) ?_
    show own_R p.tables e below _ T0 (mkF m 35 #[.val (.int (4 : Int32))] [])
    refine own_go (fun _ => XS.iloadN X0.here hx rfl (hb hby d1_35) rfl ) ?_
    show own_R p.tables e below _ T0 (mkF m 36 #[.val (.int (4 : Int32))] [(.int (4 : Int32))])
    refine own_go (fun _ => XS.iconst X0.here hx rfl (hb hby d1_36)) ?_
    show own_R p.tables e below _ T0 (mkF m 37 #[.val (.int (4 : Int32))] [(.int (4 : Int32)), (.int (4 : Int32))])
    refine own_go (fun _ => XS.icmpNo X0.here hx rfl (hb hby d1_37) rfl (teq (by decide)).2) ?_
    show own_R p.tables e below _ T0 (mkF m 40 #[.val (.int (4 : Int32))] [])
    refine own_go (fun _ => XS.iconst X0.here hx rfl (hb hby d1_40)) ?_
    show own_R p.tables e below _ T0 (mkF m 41 #[.val (.int (4 : Int32))] [(.int (4 : Int32))])
    obtain ⟨T1, h1, k1, X1, e1, E1, A1, st1⟩ := newP X0 hx hZ (hw _ (List.mem_of_getElem? (i := 4) rfl)) e0 (g := (mkF m 41 #[.val (.int (4 : Int32))] [(.int (4 : Int32))])) rfl (hb hby d1_41) rfl (by decide) (cap := 7) (by decide) (by decide) (by decide) (by decide)
    obtain ⟨a1, g1⟩ : ∃ z, z = h0.size := ⟨_, rfl⟩
    rw [← g1] at A1 st1
    refine own_go st1 ?_
    show own_R p.tables e below _ T1 (mkF m 43 #[.val (.int (4 : Int32))] [(.ref a1)])
    exact own_end X1 (some (.ref a1)) (fun h => by rw [hret] at h; cases h) hlk (fun fs hr => own_retA X1 hx hret rfl rfl (hb hby d1_43) hr) (by show own_Qm Z _ h0 n0 _ T1.heap _; rw [e1]; exact ⟨a1, k1, rfl, N0, (Keep.refl h0 []).ext E1, Nat.le_of_eq g1.symm, Arv.new A1 (by decide)⟩) (by decide) (by decide)
  · show own_R p.tables e below _ T0 (mkF m 0 #[.val (.int (5 : Int32))] [])
    refine own_go (fun _ => XS.iloadN X0.here hx rfl (hb hby d1_0) rfl ) ?_
    show own_R p.tables e below _ T0 (mkF m 1 #[.val (.int (5 : Int32))] [(.int (5 : Int32))])
    refine own_go (fun _ => XS.ifYes X0.here hx rfl (pc0 := 1) (pc' := 8) rfl (hb hby d1_1) rfl ((if0 _ _).trans (feq (by decide)).2) (by decide) (by decide)) ?_
    show own_R p.tables e below _ T0 (mkF m 8 #[.val (.int (5 : Int32))] [])
    refine own_go (fun _ => XS.iloadN X0.here hx rfl (hb hby d1_8) rfl ) ?_
    show own_R p.tables e below _ T0 (mkF m 9 #[.val (.int (5 : Int32))] [(.int (5 : Int32))])
    refine own_go (fun _ => XS.iconst X0.here hx rfl (hb hby d1_9)) ?_
    show own_R p.tables e below _ T0 (mkF m 10 #[.val (.int (5 : Int32))] [(.int (1 : Int32)), (.int (5 : Int32))])
    refine own_go (fun _ => XS.icmpYes X0.here hx rfl (pc0 := 10) (pc' := 17) rfl (hb hby d1_10) rfl (feq (by decide)).2 (by decide) (by decide)) ?_
    show own_R p.tables e below _ T0 (mkF m 17 #[.val (.int (5 : Int32))] [])
    refine own_go (fun _ => XS.iloadN X0.here hx rfl (hb hby d1_17) rfl ) ?_
    show own_R p.tables e below _ T0 (mkF m 18 #[.val (.int (5 : Int32))] [(.int (5 : Int32))])
    refine own_go (fun _ => XS.iconst X0.here hx rfl (hb hby d1_18)) ?_
    show own_R p.tables e below _ T0 (mkF m 19 #[.val (.int (5 : Int32))] [(.int (2 : Int32)), (.int (5 : Int32))])
    refine own_go (fun _ => XS.icmpYes X0.here hx rfl (pc0 := 19) (pc' := 26) rfl (hb hby d1_19) rfl (feq (by decide)).2 (by decide) (by decide)) ?_
    show own_R p.tables e below _ T0 (mkF m 26 #[.val (.int (5 : Int32))] [])
    refine own_go (fun _ => XS.iloadN X0.here hx rfl (hb hby d1_26) rfl ) ?_
    show own_R p.tables e below _ T0 (mkF m 27 #[.val (.int (5 : Int32))] [(.int (5 : Int32))])
    refine own_go (fun _ => XS.iconst X0.here hx rfl (hb hby d1_27)) ?_
    show own_R p.tables e below _ T0 (mkF m 28 #[.val (.int (5 : Int32))] [(.int (3 : Int32)), (.int (5 : Int32))])
    refine own_go (fun _ => XS.icmpYes X0.here hx rfl (pc0 := 28) (pc' := 35) rfl (hb hby d1_28) rfl (feq (by decide)).2 (by decide) (by decide)) ?_
    show own_R p.tables e below _ T0 (mkF m 35 #[.val (.int (5 : Int32))] [])
    refine own_go (fun _ => XS.iloadN X0.here hx rfl (hb hby d1_35) rfl ) ?_
    show own_R p.tables e below _ T0 (mkF m 36 #[.val (.int (5 : Int32))] [(.int (5 : Int32))])
    refine own_go (fun _ => XS.iconst X0.here hx rfl (hb hby d1_36)) ?_
    show own_R p.tables e below _ T0 (mkF m 37 #[.val (.int (5 : Int32))] [(.int (4 : Int32)), (.int (5 : Int32))])
    refine own_go (fun _ => XS.icmpYes X0.here hx rfl (pc0 := 37) (pc' := 44) rfl (hb hby d1_37) rfl (feq (by decide)).2 (by decide) (by decide)) ?_
    show own_R p.tables e below _ T0 (mkF m 44 #[.val (.int (5 : Int32))] [])
    refine own_go (fun _ => XS.iloadN X0.here hx rfl (hb hby d1_44) rfl ) ?_
    show own_R p.tables e below _ T0 (mkF m 45 #[.val (.int (5 : Int32))] [(.int (5 : Int32))])
    refine own_go (fun _ => XS.iconst X0.here hx rfl (hb hby d1_45)) ?_
    show own_R p.tables e below _ T0 (mkF m 46 #[.val (.int (5 : Int32))] [(.int (5 : Int32)), (.int (5 : Int32))])
    refine own_go (fun _ => XS.icmpNo X0.here hx rfl (hb hby d1_46) rfl (teq (by decide)).2) ?_
    show own_R p.tables e below _ T0 (mkF m 49 #[.val (.int (5 : Int32))] [])
    refine own_go (fun _ => XS.iconst X0.here hx rfl (hb hby d1_49)) ?_
    show own_R p.tables e below _ T0 (mkF m 50 #[.val (.int (5 : Int32))] [(.int (5 : Int32))])
    obtain ⟨T1, h1, k1, X1, e1, E1, A1, st1⟩ := newP X0 hx hZ (hw _ (List.mem_of_getElem? (i := 4) rfl)) e0 (g := (mkF m 50 #[.val (.int (5 : Int32))] [(.int (5 : Int32))])) rfl (hb hby d1_50) rfl (by decide) (cap := 7) (by decide) (by decide) (by decide) (by decide)
    obtain ⟨a1, g1⟩ : ∃ z, z = h0.size := ⟨_, rfl⟩
    rw [← g1] at A1 st1
    refine own_go st1 ?_
    show own_R p.tables e below _ T1 (mkF m 52 #[.val (.int (5 : Int32))] [(.ref a1)])
    exact own_end X1 (some (.ref a1)) (fun h => by rw [hret] at h; cases h) hlk (fun fs hr => own_retA X1 hx hret rfl rfl (hb hby d1_52) hr) (by show own_Qm Z _ h0 n0 _ T1.heap _; rw [e1]; exact ⟨a1, k1, rfl, N0, (Keep.refl h0 []).ext E1, Nat.le_of_eq g1.symm, Arv.new A1 (by decide)⟩) (by decide) (by decide)
  · show own_R p.tables e below _ T0 (mkF m 0 #[.val (.int (6 : Int32))] [])
    refine own_go (fun _ => XS.iloadN X0.here hx rfl (hb hby d1_0) rfl ) ?_
    show own_R p.tables e below _ T0 (mkF m 1 #[.val (.int (6 : Int32))] [(.int (6 : Int32))])
    refine own_go (fun _ => XS.ifYes X0.here hx rfl (pc0 := 1) (pc' := 8) rfl (hb hby d1_1) rfl ((if0 _ _).trans (feq (by decide)).2) (by decide) (by decide)) ?_
    show own_R p.tables e below _ T0 (mkF m 8 #[.val (.int (6 : Int32))] [])
    refine own_go (fun _ => XS.iloadN X0.here hx rfl (hb hby d1_8) rfl ) ?_
    show own_R p.tables e below _ T0 (mkF m 9 #[.val (.int (6 : Int32))] [(.int (6 : Int32))])
    refine own_go (fun _ => XS.iconst X0.here hx rfl (hb hby d1_9)) ?_
    show own_R p.tables e below _ T0 (mkF m 10 #[.val (.int (6 : Int32))] [(.int (1 : Int32)), (.int (6 : Int32))])
    refine own_go (fun _ => XS.icmpYes X0.here hx rfl (pc0 := 10) (pc' := 17) rfl (hb hby d1_10) rfl (feq (by decide)).2 (by decide) (by decide)) ?_
    show own_R p.tables e below _ T0 (mkF m 17 #[.val (.int (6 : Int32))] [])
    refine own_go (fun _ => XS.iloadN X0.here hx rfl (hb hby d1_17) rfl ) ?_
    show own_R p.tables e below _ T0 (mkF m 18 #[.val (.int (6 : Int32))] [(.int (6 : Int32))])
    refine own_go (fun _ => XS.iconst X0.here hx rfl (hb hby d1_18)) ?_
    show own_R p.tables e below _ T0 (mkF m 19 #[.val (.int (6 : Int32))] [(.int (2 : Int32)), (.int (6 : Int32))])
    refine own_go (fun _ => XS.icmpYes X0.here hx rfl (pc0 := 19) (pc' := 26) rfl (hb hby d1_19) rfl (feq (by decide)).2 (by decide) (by decide)) ?_
    show own_R p.tables e below _ T0 (mkF m 26 #[.val (.int (6 : Int32))] [])
    refine own_go (fun _ => XS.iloadN X0.here hx rfl (hb hby d1_26) rfl ) ?_
    show own_R p.tables e below _ T0 (mkF m 27 #[.val (.int (6 : Int32))] [(.int (6 : Int32))])
    refine own_go (fun _ => XS.iconst X0.here hx rfl (hb hby d1_27)) ?_
    show own_R p.tables e below _ T0 (mkF m 28 #[.val (.int (6 : Int32))] [(.int (3 : Int32)), (.int (6 : Int32))])
    refine own_go (fun _ => XS.icmpYes X0.here hx rfl (pc0 := 28) (pc' := 35) rfl (hb hby d1_28) rfl (feq (by decide)).2 (by decide) (by decide)) ?_
    show own_R p.tables e below _ T0 (mkF m 35 #[.val (.int (6 : Int32))] [])
    refine own_go (fun _ => XS.iloadN X0.here hx rfl (hb hby d1_35) rfl ) ?_
    show own_R p.tables e below _ T0 (mkF m 36 #[.val (.int (6 : Int32))] [(.int (6 : Int32))])
    refine own_go (fun _ => XS.iconst X0.here hx rfl (hb hby d1_36)) ?_
    show own_R p.tables e below _ T0 (mkF m 37 #[.val (.int (6 : Int32))] [(.int (4 : Int32)), (.int (6 : Int32))])
    refine own_go (fun _ => XS.icmpYes X0.here hx rfl (pc0 := 37) (pc' := 44) rfl (hb hby d1_37) rfl (feq (by decide)).2 (by decide) (by decide)) ?_
    show own_R p.tables e below _ T0 (mkF m 44 #[.val (.int (6 : Int32))] [])
    refine own_go (fun _ => XS.iloadN X0.here hx rfl (hb hby d1_44) rfl ) ?_
    show own_R p.tables e below _ T0 (mkF m 45 #[.val (.int (6 : Int32))] [(.int (6 : Int32))])
    refine own_go (fun _ => XS.iconst X0.here hx rfl (hb hby d1_45)) ?_
    show own_R p.tables e below _ T0 (mkF m 46 #[.val (.int (6 : Int32))] [(.int (5 : Int32)), (.int (6 : Int32))])
    refine own_go (fun _ => XS.icmpYes X0.here hx rfl (pc0 := 46) (pc' := 53) rfl (hb hby d1_46) rfl (feq (by decide)).2 (by decide) (by decide)) ?_
    show own_R p.tables e below _ T0 (mkF m 53 #[.val (.int (6 : Int32))] [])
    refine own_go (fun _ => XS.iloadN X0.here hx rfl (hb hby d1_53) rfl ) ?_
    show own_R p.tables e below _ T0 (mkF m 54 #[.val (.int (6 : Int32))] [(.int (6 : Int32))])
    refine own_go (fun _ => XS.bipush X0.here hx rfl (hb hby d1_54)) ?_
    show own_R p.tables e below _ T0 (mkF m 56 #[.val (.int (6 : Int32))] [(.int (6 : Int32)), (.int (6 : Int32))])
    refine own_go (fun _ => XS.icmpNo X0.here hx rfl (hb hby d1_56) rfl (teq (by decide)).2) ?_
    show own_R p.tables e below _ T0 (mkF m 59 #[.val (.int (6 : Int32))] [])
    refine own_go (fun _ => XS.bipush X0.here hx rfl (hb hby d1_59)) ?_
    show own_R p.tables e below _ T0 (mkF m 61 #[.val (.int (6 : Int32))] [(.int (6 : Int32))])
    obtain ⟨T1, h1, k1, X1, e1, E1, A1, st1⟩ := newP X0 hx hZ (hw _ (List.mem_of_getElem? (i := 4) rfl)) e0 (g := (mkF m 61 #[.val (.int (6 : Int32))] [(.int (6 : Int32))])) rfl (hb hby d1_61) rfl (by decide) (cap := 7) (by decide) (by decide) (by decide) (by decide)
    obtain ⟨a1, g1⟩ : ∃ z, z = h0.size := ⟨_, rfl⟩
    rw [← g1] at A1 st1
    refine own_go st1 ?_
    show own_R p.tables e below _ T1 (mkF m 63 #[.val (.int (6 : Int32))] [(.ref a1)])
    exact own_end X1 (some (.ref a1)) (fun h => by rw [hret] at h; cases h) hlk (fun fs hr => own_retA X1 hx hret rfl rfl (hb hby d1_63) hr) (by show own_Qm Z _ h0 n0 _ T1.heap _; rw [e1]; exact ⟨a1, k1, rfl, N0, (Keep.refl h0 []).ext E1, Nat.le_of_eq g1.symm, Arv.new A1 (by decide)⟩) (by decide) (by decide)
  · show own_R p.tables e below _ T0 (mkF m 0 #[.val (.int (7 : Int32))] [])
    refine own_go (fun _ => XS.iloadN X0.here hx rfl (hb hby d1_0) rfl ) ?_
    show own_R p.tables e below _ T0 (mkF m 1 #[.val (.int (7 : Int32))] [(.int (7 : Int32))])
    refine own_go (fun _ => XS.ifYes X0.here hx rfl (pc0 := 1) (pc' := 8) rfl (hb hby d1_1) rfl ((if0 _ _).trans (feq (by decide)).2) (by decide) (by decide)) ?_
    show own_R p.tables e below _ T0 (mkF m 8 #[.val (.int (7 : Int32))] [])
    refine own_go (fun _ => XS.iloadN X0.here hx rfl (hb hby d1_8) rfl ) ?_
    show own_R p.tables e below _ T0 (mkF m 9 #[.val (.int (7 : Int32))] [(.int (7 : Int32))])
    refine own_go (fun _ => XS.iconst X0.here hx rfl (hb hby d1_9)) ?_
    show own_R p.tables e below _ T0 (mkF m 10 #[.val (.int (7 : Int32))] [(.int (1 : Int32)), (.int (7 : Int32))])
    refine own_go (fun _ => XS.icmpYes X0.here hx rfl (pc0 := 10) (pc' := 17) rfl (hb hby d1_10) rfl (feq (by decide)).2 (by decide) (by decide)) ?_
    show own_R p.tables e below _ T0 (mkF m 17 #[.val (.int (7 : Int32))] [])
    refine own_go (fun _ => XS.iloadN X0.here hx rfl (hb hby d1_17) rfl ) ?_
    show own_R p.tables e below _ T0 (mkF m 18 #[.val (.int (7 : Int32))] [(.int (7 : Int32))])
    refine own_go (fun _ => XS.iconst X0.here hx rfl (hb hby d1_18)) ?_
    show own_R p.tables e below _ T0 (mkF m 19 #[.val (.int (7 : Int32))] [(.int (2 : Int32)), (.int (7 : Int32))])
    refine own_go (fun _ => XS.icmpYes X0.here hx rfl (pc0 := 19) (pc' := 26) rfl (hb hby d1_19) rfl (feq (by decide)).2 (by decide) (by decide)) ?_
    show own_R p.tables e below _ T0 (mkF m 26 #[.val (.int (7 : Int32))] [])
    refine own_go (fun _ => XS.iloadN X0.here hx rfl (hb hby d1_26) rfl ) ?_
    show own_R p.tables e below _ T0 (mkF m 27 #[.val (.int (7 : Int32))] [(.int (7 : Int32))])
    refine own_go (fun _ => XS.iconst X0.here hx rfl (hb hby d1_27)) ?_
    show own_R p.tables e below _ T0 (mkF m 28 #[.val (.int (7 : Int32))] [(.int (3 : Int32)), (.int (7 : Int32))])
    refine own_go (fun _ => XS.icmpYes X0.here hx rfl (pc0 := 28) (pc' := 35) rfl (hb hby d1_28) rfl (feq (by decide)).2 (by decide) (by decide)) ?_
    show own_R p.tables e below _ T0 (mkF m 35 #[.val (.int (7 : Int32))] [])
    refine own_go (fun _ => XS.iloadN X0.here hx rfl (hb hby d1_35) rfl ) ?_
    show own_R p.tables e below _ T0 (mkF m 36 #[.val (.int (7 : Int32))] [(.int (7 : Int32))])
    refine own_go (fun _ => XS.iconst X0.here hx rfl (hb hby d1_36)) ?_
    show own_R p.tables e below _ T0 (mkF m 37 #[.val (.int (7 : Int32))] [(.int (4 : Int32)), (.int (7 : Int32))])
    refine own_go (fun _ => XS.icmpYes X0.here hx rfl (pc0 := 37) (pc' := 44) rfl (hb hby d1_37) rfl (feq (by decide)).2 (by decide) (by decide)) ?_
    show own_R p.tables e below _ T0 (mkF m 44 #[.val (.int (7 : Int32))] [])
    refine own_go (fun _ => XS.iloadN X0.here hx rfl (hb hby d1_44) rfl ) ?_
    show own_R p.tables e below _ T0 (mkF m 45 #[.val (.int (7 : Int32))] [(.int (7 : Int32))])
    refine own_go (fun _ => XS.iconst X0.here hx rfl (hb hby d1_45)) ?_
    show own_R p.tables e below _ T0 (mkF m 46 #[.val (.int (7 : Int32))] [(.int (5 : Int32)), (.int (7 : Int32))])
    refine own_go (fun _ => XS.icmpYes X0.here hx rfl (pc0 := 46) (pc' := 53) rfl (hb hby d1_46) rfl (feq (by decide)).2 (by decide) (by decide)) ?_
    show own_R p.tables e below _ T0 (mkF m 53 #[.val (.int (7 : Int32))] [])
    refine own_go (fun _ => XS.iloadN X0.here hx rfl (hb hby d1_53) rfl ) ?_
    show own_R p.tables e below _ T0 (mkF m 54 #[.val (.int (7 : Int32))] [(.int (7 : Int32))])
    refine own_go (fun _ => XS.bipush X0.here hx rfl (hb hby d1_54)) ?_
    show own_R p.tables e below _ T0 (mkF m 56 #[.val (.int (7 : Int32))] [(.int (6 : Int32)), (.int (7 : Int32))])
    refine own_go (fun _ => XS.icmpYes X0.here hx rfl (pc0 := 56) (pc' := 64) rfl (hb hby d1_56) rfl (feq (by decide)).2 (by decide) (by decide)) ?_
    show own_R p.tables e below _ T0 (mkF m 64 #[.val (.int (7 : Int32))] [])
    refine own_go (fun _ => XS.bipush X0.here hx rfl (hb hby d1_64)) ?_
    show own_R p.tables e below _ T0 (mkF m 66 #[.val (.int (7 : Int32))] [(.int (7 : Int32))])
    obtain ⟨T1, h1, k1, X1, e1, E1, A1, st1⟩ := newP X0 hx hZ (hw _ (List.mem_of_getElem? (i := 4) rfl)) e0 (g := (mkF m 66 #[.val (.int (7 : Int32))] [(.int (7 : Int32))])) rfl (hb hby d1_66) rfl (by decide) (cap := 7) (by decide) (by decide) (by decide) (by decide)
    obtain ⟨a1, g1⟩ : ∃ z, z = h0.size := ⟨_, rfl⟩
    rw [← g1] at A1 st1
    refine own_go st1 ?_
    show own_R p.tables e below _ T1 (mkF m 68 #[.val (.int (7 : Int32))] [(.ref a1)])
    exact own_end X1 (some (.ref a1)) (fun h => by rw [hret] at h; cases h) hlk (fun fs hr => own_retA X1 hx hret rfl rfl (hb hby d1_68) hr) (by show own_Qm Z _ h0 n0 _ T1.heap _; rw [e1]; exact ⟨a1, k1, rfl, N0, (Keep.refl h0 []).ext E1, Nat.le_of_eq g1.symm, Arv.new A1 (by decide)⟩) (by decide) (by decide)
def own_Qi (Z : State) (a t : Addr) (rc : Int32) (h0 : Heap) (n0 : Nat) (v : Option Value) (h : Heap) (L : List Loc) : Prop := v = none ∧ Fr n0 L ∧ Keep h0 h [a] ∧ Exa Z h a "com/example/kookaburra/kookaburra/eval/Ranking" ∧ Fld Z h a "com/example/kookaburra/kookaburra/eval/Ranking" "relevantAt" "[Z" (.ref t) ∧ Fld Z h a "com/example/kookaburra/kookaburra/eval/Ranking" "relevantCount" "I" (.int rc)
set_option maxRecDepth 65536 in
set_option maxHeartbeats 4000000 in
theorem rmInit (l : Launch) (Z : State) (a0 : Array Value) (hw : ∀ d ∈ tables_1, d.before a0 Z = true) (ws : List Jvm.Cond) (h0 : Heap) (n0 : Nat) (a t : Addr) (rc : Int32) (g9 : n0 ≤ a) (E : Exa Z h0 a "com/example/kookaburra/kookaburra/eval/Ranking") (FrelevantAt : Fld Z h0 a "com/example/kookaburra/kookaburra/eval/Ranking" "relevantAt" "[Z" .null) (FrelevantCount : Fld Z h0 a "com/example/kookaburra/kookaburra/eval/Ranking" "relevantCount" "I" (.int 0)) :
    own_C l Z (⟨"com/example/kookaburra/kookaburra/eval/Ranking", "<init>", "([ZI)V"⟩ : MethodName) prog_7_method_1_code 3 none ws ({ frames := 1, cells := 0, slots := 0, locals := 12 } : Room) #[(.ref a), (.ref t), (.int rc)] h0 (own_Qi Z a t rc h0 n0) := by
  refine own_body (ls := #[.val (.ref a), .val (.ref t), .val (.int rc)]) pn_2 (fun m => by first | (simp [entryFrame, mkF, argsToLocals, Value.category]; done) | rfl) ?_
  intro p e s m below meth c T0 hZ hx hby hml hown hnm hret hlk X0 e0
  replace hml : c.maxLocals = 3 := hml
  have N0 := Fr.nil n0
  refine own_go (fun _ => XS.aloadN X0.here hx rfl (hb hby d2_0) rfl rfl) ?_
  show own_R p.tables e below _ T0 (mkF m 1 #[.val (.ref a), .val (.ref t), .val (.int rc)] [(.ref a)])
  obtain ⟨T1, X1, e1, st1⟩ := initO X0 hx hZ hown (hw _ (List.mem_of_getElem? (i := 11) rfl)) (hw _ (List.mem_of_getElem? (i := 12) rfl)) (hw _ (List.mem_of_getElem? (i := 13) rfl)) e0 (g := (mkF m 1 #[.val (.ref a), .val (.ref t), .val (.int rc)] [(.ref a)])) rfl (by rw [hml]; rfl) rfl (hb hby d2_1) (by decide) (W := 0) (by show 2 * 0 + _ ≤ _; exact Nat.le_of_eq rfl) (by decide)
  refine own_go st1 ?_
  show own_R p.tables e below _ T1 (mkF m 4 #[.val (.ref a), .val (.ref t), .val (.int rc)] [])
  refine own_go (fun _ => XS.aloadN X1.here hx rfl (hb hby d2_4) rfl rfl) ?_
  show own_R p.tables e below _ T1 (mkF m 5 #[.val (.ref a), .val (.ref t), .val (.int rc)] [(.ref a)])
  refine own_go (fun _ => XS.aloadN X1.here hx rfl (hb hby d2_5) rfl rfl) ?_
  show own_R p.tables e below _ T1 (mkF m 6 #[.val (.ref a), .val (.ref t), .val (.int rc)] [(.ref t), (.ref a)])
  obtain ⟨T2, h2, X2, e2, W2, st2⟩ := putF X1 hx hZ hown (host := "") (Or.inl (hw _ (List.mem_of_getElem? (i := 14) rfl))) Via.refl e1 FrelevantAt E (Or.inr ⟨(hw _ (List.mem_of_getElem? (i := 15) rfl)), rfl, hnm⟩) (hw _ (List.mem_of_getElem? (i := 6) rfl)) (ty := (.array .boolean)) (by decide) rfl rfl (g := (mkF m 6 #[.val (.ref a), .val (.ref t), .val (.int rc)] [(.ref t), (.ref a)])) rfl rfl (hb hby d2_6)
  refine own_go st2 ?_
  show own_R p.tables e below _ T2 (mkF m 9 #[.val (.ref a), .val (.ref t), .val (.int rc)] [])
  have N2 := Fr.snoc X2 N0 g9
  have K2 : Keep h0 h2 [a] := (Keep.refl h0 [a]).wr W2 (Or.inl (List.mem_singleton.mpr rfl))
  have E2 : Exa Z h2 a "com/example/kookaburra/kookaburra/eval/Ranking" := E.wr W2
  have FrelevantAt2 := FrelevantAt.same W2
  have FrelevantCount2 := FrelevantCount.other W2 (Or.inr (slot_ne (Or.inr (hw _ (List.mem_of_getElem? (i := 17) rfl))) (Or.inr (hw _ (List.mem_of_getElem? (i := 15) rfl))) (by decide) (t := .int) (t' := (.array .boolean)) (by decide) (by decide)))
  refine own_go (fun _ => XS.aloadN X2.here hx rfl (hb hby d2_9) rfl rfl) ?_
  show own_R p.tables e below _ T2 (mkF m 10 #[.val (.ref a), .val (.ref t), .val (.int rc)] [(.ref a)])
  refine own_go (fun _ => XS.iloadN X2.here hx rfl (hb hby d2_10) rfl ) ?_
  show own_R p.tables e below _ T2 (mkF m 11 #[.val (.ref a), .val (.ref t), .val (.int rc)] [(.int rc), (.ref a)])
  obtain ⟨T3, h3, X3, e3, W3, st3⟩ := putF X2 hx hZ hown (host := "") (Or.inl (hw _ (List.mem_of_getElem? (i := 16) rfl))) Via.refl e2 FrelevantCount2 E2 (Or.inr ⟨(hw _ (List.mem_of_getElem? (i := 17) rfl)), rfl, hnm⟩) (hw _ (List.mem_of_getElem? (i := 6) rfl)) (ty := .int) (by decide) rfl rfl (g := (mkF m 11 #[.val (.ref a), .val (.ref t), .val (.int rc)] [(.int rc), (.ref a)])) rfl rfl (hb hby d2_11)
  refine own_go st3 ?_
  show own_R p.tables e below _ T3 (mkF m 14 #[.val (.ref a), .val (.ref t), .val (.int rc)] [])
  have N3 := Fr.snoc X3 N2 g9
  have K3 : Keep h0 h3 [a] := K2.wr W3 (Or.inl (List.mem_singleton.mpr rfl))
  have E3 : Exa Z h3 a "com/example/kookaburra/kookaburra/eval/Ranking" := E2.wr W3
  have FrelevantAt3 := FrelevantAt2.other W3 (Or.inr (slot_ne (Or.inr (hw _ (List.mem_of_getElem? (i := 15) rfl))) (Or.inr (hw _ (List.mem_of_getElem? (i := 17) rfl))) (by decide) (t := (.array .boolean)) (t' := .int) (by decide) (by decide)))
  have FrelevantCount3 := FrelevantCount2.same W3
  exact own_end X3 none (fun _ => rfl) hlk (fun fs hr => X3.returnOut hx hret (hb hby d2_14) hr) (by show own_Qi Z a t rc h0 n0 _ T3.heap _; rw [e3]; exact ⟨rfl, N3, K3, E3, FrelevantAt3, FrelevantCount3⟩) (by decide) (by decide)
def own_rr : List Int32 → Nat → UInt64
  | [], _ => FP.dconst0
  | b :: r, i => if b = 0 then own_rr r (i + 1) else FP.ddiv FP.dconst1 (FP.i2d (Int32.ofNat i))
theorem own_rx : ∀ i : Fin 7, Jvm.Free.Fl.NoNaN64 (FP.ddiv FP.dconst1 (FP.i2d (Int32.ofNat (i.val + 1)))) ∧ ¬ cmpValue (FP.dcmp (FP.ddiv FP.dconst1 (FP.i2d (Int32.ofNat (i.val + 1)))) FP.dconst0) .l = 0 := by
  unfold Jvm.Free.Fl.NoNaN64
  decide +kernel
theorem own_ix : ∀ (N i : Fin 8), i.val < N.val → ((¬ (Int32.ofNat (i.val + 1) - (1 : Int32)) < 0 ∧ (Int32.ofNat (i.val + 1) - (1 : Int32)) < Int32.ofNat N.val) ∧ (Int32.ofNat (i.val + 1) - (1 : Int32)).toNatClampNeg = i.val) ∧ (¬ Int32.ofNat N.val < Int32.ofNat (i.val + 1)) ∧ Int32.ofNat (i.val + 1) + (1 : Int32) = Int32.ofNat (i.val + 1 + 1) := by
  decide +kernel
theorem own_iy : ∀ N : Fin 8, Int32.ofNat N.val < Int32.ofNat (N.val + 1) := by decide +kernel
theorem own_d0 : cmpValue (FP.dcmp FP.dconst0 FP.dconst0) .l = 0 := by decide +kernel
set_option maxRecDepth 65536 in
set_option maxHeartbeats 4000000 in
theorem rmRR (l : Launch) (Z : State) (a0 : Array Value) (hw : ∀ d ∈ tables_1, d.before a0 Z = true) (ws : List Jvm.Cond) (h0 : Heap) (n0 : Nat) (a t : Addr) {kt : ClassId} (bs : List Int32) (hN : bs.length ≤ 7) (F : Fld Z h0 a "com/example/kookaburra/kookaburra/eval/Ranking" "relevantAt" "[Z" (.ref t)) (V : Arv Z h0 t kt .boolean (Int32.ofNat bs.length) (bs.map Value.int) (.int 0)) :
    own_C l Z (⟨"com/example/kookaburra/kookaburra/eval/Ranking", "reciprocalRank", "()D"⟩ : MethodName) prog_7_method_6_code 4 (some .double) ws ({ frames := 0, cells := 0, slots := 0, locals := 0 } : Room) #[(.ref a)] h0 (own_Qr (some (.double (own_rr bs 1))) h0 n0) := by
  refine own_body (ls := #[.val (.ref a), .unset, .unset, .unset]) pn_4 (fun m => by first | (simp [entryFrame, mkF, argsToLocals, Value.category]; done) | rfl) ?_
  intro p e s m below meth c T0 hZ hx hby hml hown hnm hret hlk X0 e0
  replace hml : c.maxLocals = 4 := hml
  have N0 := Fr.nil n0
  have loop : ∀ (k i : Nat) (Tl : State), Stand p l e ({ frames := 0, cells := 0, slots := 0, locals := 0 } : Room) s m #[(.ref a)] below meth c Tl [] 0 0 → Tl.heap = h0 → i + k = bs.length → own_rr bs 1 = own_rr (bs.drop i) (i + 1) → own_R p.tables e below (own_E s below (own_Qr (some (.double (own_rr bs 1))) h0 n0) (({ frames := 0, cells := 0, slots := 0, locals := 0 } : Room)).cells (({ frames := 0, cells := 0, slots := 0, locals := 0 } : Room)).slots) Tl (mkF m 4 #[.val (.ref a), .val (.double FP.dconst0), .second, .val (.int (Int32.ofNat (i + 1)))] []) := by
    intro k
    induction k with
    | zero =>
      intro i Tl Xl el hik hinv
      obtain rfl : i = bs.length := by omega
      show own_R p.tables e below _ Tl (mkF m 4 #[.val (.ref a), .val (.double FP.dconst0), .second, .val (.int (Int32.ofNat (bs.length + 1)))] [])
      refine own_go (fun _ => XS.iloadN Xl.here hx rfl (hb hby d4_4) rfl ) ?_
      show own_R p.tables e below _ Tl (mkF m 5 #[.val (.ref a), .val (.double FP.dconst0), .second, .val (.int (Int32.ofNat (bs.length + 1)))] [(.int (Int32.ofNat (bs.length + 1)))])
      refine own_go (fun _ => XS.aloadN Xl.here hx rfl (hb hby d4_5) rfl rfl) ?_
      show own_R p.tables e below _ Tl (mkF m 6 #[.val (.ref a), .val (.double FP.dconst0), .second, .val (.int (Int32.ofNat (bs.length + 1)))] [(.ref a), (.int (Int32.ofNat (bs.length + 1)))])
      obtain ⟨Ta1, Xa1, ea1, sta1⟩ := getF Xl hx hZ hown (host := "") (Or.inl (hw _ (List.mem_of_getElem? (i := 14) rfl))) Via.refl el F (g := (mkF m 6 #[.val (.ref a), .val (.double FP.dconst0), .second, .val (.int (Int32.ofNat (bs.length + 1)))] [(.ref a), (.int (Int32.ofNat (bs.length + 1)))])) rfl rfl (hb hby d4_6)
      refine own_go sta1 ?_
      show own_R p.tables e below _ Ta1 (mkF m 9 #[.val (.ref a), .val (.double FP.dconst0), .second, .val (.int (Int32.ofNat (bs.length + 1)))] [(.ref t), (.int (Int32.ofNat (bs.length + 1)))])
      refine own_go (own_len Xa1 hx hZ ea1 V (g := (mkF m 9 #[.val (.ref a), .val (.double FP.dconst0), .second, .val (.int (Int32.ofNat (bs.length + 1)))] [(.ref t), (.int (Int32.ofNat (bs.length + 1)))])) rfl rfl (hb hby d4_9)) ?_
      show own_R p.tables e below _ Ta1 (mkF m 10 #[.val (.ref a), .val (.double FP.dconst0), .second, .val (.int (Int32.ofNat (bs.length + 1)))] [(.int (Int32.ofNat bs.length)), (.int (Int32.ofNat (bs.length + 1)))])
      refine own_go (fun _ => XS.icmpYes Xa1.here hx rfl (pc0 := 10) (pc' := 41) rfl (hb hby d4_10) rfl (tlt (own_iy ⟨bs.length, by omega⟩)).2.2.1 (by decide) (by decide)) ?_
      show own_R p.tables e below _ Ta1 (mkF m 41 #[.val (.ref a), .val (.double FP.dconst0), .second, .val (.int (Int32.ofNat (bs.length + 1)))] [])
      refine own_go (fun _ => XS.dloadN Xa1.here hx rfl (hb hby d4_41) rfl ) ?_
      show own_R p.tables e below _ Ta1 (mkF m 42 #[.val (.ref a), .val (.double FP.dconst0), .second, .val (.int (Int32.ofNat (bs.length + 1)))] [(.double FP.dconst0)])
      have hq : own_rr bs 1 = FP.dconst0 := by rw [hinv, List.drop_length]; rfl
      exact own_end Xa1 (some (.double FP.dconst0)) (fun h => by rw [hret] at h; cases h) hlk (fun fs hr => own_retD Xa1 hx hret (hb hby d4_42) hr) ⟨by rw [hq], N0, ea1⟩ (by decide) (by decide)
    | succ k ih =>
      intro i Tl Xl el hik hinv
      have hi : i < bs.length := by omega
      obtain ⟨⟨i1, i2⟩, i3, i4⟩ := own_ix ⟨bs.length, by omega⟩ ⟨i, by omega⟩ hi
      dsimp only at i1 i2 i3 i4
      obtain ⟨b, hb0⟩ : ∃ b, bs[i]? = some b := ⟨bs[i], List.getElem?_eq_getElem hi⟩
      have hbe : bs[i] = b := by rw [List.getElem?_eq_getElem hi] at hb0; exact Option.some.inj hb0
      have hdr : bs.drop i = b :: bs.drop (i + 1) := by rw [List.drop_eq_getElem_cons hi, hbe]
      rw [hdr] at hinv
      show own_R p.tables e below _ Tl (mkF m 4 #[.val (.ref a), .val (.double FP.dconst0), .second, .val (.int (Int32.ofNat (i + 1)))] [])
      refine own_go (fun _ => XS.iloadN Xl.here hx rfl (hb hby d4_4) rfl ) ?_
      show own_R p.tables e below _ Tl (mkF m 5 #[.val (.ref a), .val (.double FP.dconst0), .second, .val (.int (Int32.ofNat (i + 1)))] [(.int (Int32.ofNat (i + 1)))])
      refine own_go (fun _ => XS.aloadN Xl.here hx rfl (hb hby d4_5) rfl rfl) ?_
      show own_R p.tables e below _ Tl (mkF m 6 #[.val (.ref a), .val (.double FP.dconst0), .second, .val (.int (Int32.ofNat (i + 1)))] [(.ref a), (.int (Int32.ofNat (i + 1)))])
      obtain ⟨Tb1, Xb1, eb1, stb1⟩ := getF Xl hx hZ hown (host := "") (Or.inl (hw _ (List.mem_of_getElem? (i := 14) rfl))) Via.refl el F (g := (mkF m 6 #[.val (.ref a), .val (.double FP.dconst0), .second, .val (.int (Int32.ofNat (i + 1)))] [(.ref a), (.int (Int32.ofNat (i + 1)))])) rfl rfl (hb hby d4_6)
      refine own_go stb1 ?_
      show own_R p.tables e below _ Tb1 (mkF m 9 #[.val (.ref a), .val (.double FP.dconst0), .second, .val (.int (Int32.ofNat (i + 1)))] [(.ref t), (.int (Int32.ofNat (i + 1)))])
      refine own_go (own_len Xb1 hx hZ eb1 V (g := (mkF m 9 #[.val (.ref a), .val (.double FP.dconst0), .second, .val (.int (Int32.ofNat (i + 1)))] [(.ref t), (.int (Int32.ofNat (i + 1)))])) rfl rfl (hb hby d4_9)) ?_
      show own_R p.tables e below _ Tb1 (mkF m 10 #[.val (.ref a), .val (.double FP.dconst0), .second, .val (.int (Int32.ofNat (i + 1)))] [(.int (Int32.ofNat bs.length)), (.int (Int32.ofNat (i + 1)))])
      refine own_go (fun _ => XS.icmpNo Xb1.here hx rfl (hb hby d4_10) rfl (flt i3).2.2.1) ?_
      show own_R p.tables e below _ Tb1 (mkF m 13 #[.val (.ref a), .val (.double FP.dconst0), .second, .val (.int (Int32.ofNat (i + 1)))] [])
      refine own_go (fun _ => XS.dloadN Xb1.here hx rfl (hb hby d4_13) rfl ) ?_
      show own_R p.tables e below _ Tb1 (mkF m 14 #[.val (.ref a), .val (.double FP.dconst0), .second, .val (.int (Int32.ofNat (i + 1)))] [(.double FP.dconst0)])
      refine own_go (fun _ => XS.dconst0 Xb1.here hx rfl (hb hby d4_14) rfl) ?_
      show own_R p.tables e below _ Tb1 (mkF m 15 #[.val (.ref a), .val (.double FP.dconst0), .second, .val (.int (Int32.ofNat (i + 1)))] [(.double FP.dconst0), (.double FP.dconst0)])
      refine own_go (fun _ => XS.dcmpS Xb1.here hx rfl (hb hby d4_15) rfl rfl) ?_
      show own_R p.tables e below _ Tb1 (mkF m 16 #[.val (.ref a), .val (.double FP.dconst0), .second, .val (.int (Int32.ofNat (i + 1)))] [(.int (cmpValue (FP.dcmp FP.dconst0 FP.dconst0) .l))])
      refine own_go (fun _ => XS.ifNo Xb1.here hx rfl (hb hby d4_16) rfl ((if0 _ _).trans (teq own_d0).2)) ?_
      show own_R p.tables e below _ Tb1 (mkF m 19 #[.val (.ref a), .val (.double FP.dconst0), .second, .val (.int (Int32.ofNat (i + 1)))] [])
      refine own_go (fun _ => XS.aloadN Xb1.here hx rfl (hb hby d4_19) rfl rfl) ?_
      show own_R p.tables e below _ Tb1 (mkF m 20 #[.val (.ref a), .val (.double FP.dconst0), .second, .val (.int (Int32.ofNat (i + 1)))] [(.ref a)])
      obtain ⟨Tb2, Xb2, eb2, stb2⟩ := getF Xb1 hx hZ hown (host := "") (Or.inl (hw _ (List.mem_of_getElem? (i := 14) rfl))) Via.refl eb1 F (g := (mkF m 20 #[.val (.ref a), .val (.double FP.dconst0), .second, .val (.int (Int32.ofNat (i + 1)))] [(.ref a)])) rfl rfl (hb hby d4_20)
      refine own_go stb2 ?_
      show own_R p.tables e below _ Tb2 (mkF m 23 #[.val (.ref a), .val (.double FP.dconst0), .second, .val (.int (Int32.ofNat (i + 1)))] [(.ref t)])
      refine own_go (fun _ => XS.iloadN Xb2.here hx rfl (hb hby d4_23) rfl ) ?_
      show own_R p.tables e below _ Tb2 (mkF m 24 #[.val (.ref a), .val (.double FP.dconst0), .second, .val (.int (Int32.ofNat (i + 1)))] [(.int (Int32.ofNat (i + 1))), (.ref t)])
      refine own_go (fun _ => XS.iconst Xb2.here hx rfl (hb hby d4_24)) ?_
      show own_R p.tables e below _ Tb2 (mkF m 25 #[.val (.ref a), .val (.double FP.dconst0), .second, .val (.int (Int32.ofNat (i + 1)))] [(.int (1 : Int32)), (.int (Int32.ofNat (i + 1))), (.ref t)])
      refine own_go (fun _ => XS.isub Xb2.here hx rfl (hb hby d4_25) rfl) ?_
      show own_R p.tables e below _ Tb2 (mkF m 26 #[.val (.ref a), .val (.double FP.dconst0), .second, .val (.int (Int32.ofNat (i + 1)))] [(.int ((Int32.ofNat (i + 1)) - (1 : Int32))), (.ref t)])
      refine own_go (own_ldZ Xb2 hx hZ eb2 V (j := ((Int32.ofNat (i + 1)) - (1 : Int32))) i1 (v := (.int b)) (by rw [i2]; simp [List.getD, hb0]) (g := (mkF m 26 #[.val (.ref a), .val (.double FP.dconst0), .second, .val (.int (Int32.ofNat (i + 1)))] [(.int ((Int32.ofNat (i + 1)) - (1 : Int32))), (.ref t)])) rfl rfl (hb hby d4_26)) ?_
      show own_R p.tables e below _ Tb2 (mkF m 27 #[.val (.ref a), .val (.double FP.dconst0), .second, .val (.int (Int32.ofNat (i + 1)))] [(.int b)])
      by_cases hb1 : b = (0 : Int32)
      · show own_R p.tables e below _ Tb2 (mkF m 27 #[.val (.ref a), .val (.double FP.dconst0), .second, .val (.int (Int32.ofNat (i + 1)))] [(.int b)])
        refine own_go (fun _ => XS.ifYes Xb2.here hx rfl (pc0 := 27) (pc' := 35) rfl (hb hby d4_27) rfl ((if0 _ _).trans (teq hb1).1) (by decide) (by decide)) ?_
        show own_R p.tables e below _ Tb2 (mkF m 35 #[.val (.ref a), .val (.double FP.dconst0), .second, .val (.int (Int32.ofNat (i + 1)))] [])
        have hinv2 : own_rr bs 1 = own_rr (bs.drop (i + 1)) (i + 1 + 1) := by rw [hinv]; exact if_pos hb1
        refine own_go (fun _ => XS.iinc Xb2.here hx rfl (hb hby d4_35) rfl (l' := #[.val (.ref a), .val (.double FP.dconst0), .second, .val (.int ((Int32.ofNat (i + 1)) + (1 : Int32)))]) rfl) ?_
        show own_R p.tables e below _ Tb2 (mkF m 38 #[.val (.ref a), .val (.double FP.dconst0), .second, .val (.int ((Int32.ofNat (i + 1)) + (1 : Int32)))] [])
        refine own_go (fun _ => XS.goto Xb2.here hx rfl (pc0 := 38) (pc' := 4) rfl (hb hby d4_38) (by decide) (by decide)) ?_
        show own_R p.tables e below _ Tb2 (mkF m 4 #[.val (.ref a), .val (.double FP.dconst0), .second, .val (.int (Int32.ofNat (i + 1) + (1 : Int32)))] [])
        rw [i4]
        exact ih (i + 1) _ Xb2 eb2 (by omega) hinv2
      · show own_R p.tables e below _ Tb2 (mkF m 27 #[.val (.ref a), .val (.double FP.dconst0), .second, .val (.int (Int32.ofNat (i + 1)))] [(.int b)])
        refine own_go (fun _ => XS.ifNo Xb2.here hx rfl (hb hby d4_27) rfl ((if0 _ _).trans (feq hb1).1)) ?_
        show own_R p.tables e below _ Tb2 (mkF m 30 #[.val (.ref a), .val (.double FP.dconst0), .second, .val (.int (Int32.ofNat (i + 1)))] [])
        have hq : own_rr bs 1 = FP.ddiv FP.dconst1 (FP.i2d (Int32.ofNat (i + 1))) := by rw [hinv]; exact if_neg hb1
        obtain ⟨x1, x2⟩ := own_rx ⟨i, by omega⟩
        dsimp only at x1 x2
        refine own_go (fun _ => XS.dconst1 Xb2.here hx rfl (hb hby d4_30) rfl) ?_
        show own_R p.tables e below _ Tb2 (mkF m 31 #[.val (.ref a), .val (.double FP.dconst0), .second, .val (.int (Int32.ofNat (i + 1)))] [(.double FP.dconst1)])
        refine own_go (fun _ => XS.iloadN Xb2.here hx rfl (hb hby d4_31) rfl ) ?_
        show own_R p.tables e below _ Tb2 (mkF m 32 #[.val (.ref a), .val (.double FP.dconst0), .second, .val (.int (Int32.ofNat (i + 1)))] [(.int (Int32.ofNat (i + 1))), (.double FP.dconst1)])
        refine own_go (fun _ => XS.i2dS Xb2.here hx rfl (hb hby d4_32) rfl rfl) ?_
        show own_R p.tables e below _ Tb2 (mkF m 33 #[.val (.ref a), .val (.double FP.dconst0), .second, .val (.int (Int32.ofNat (i + 1)))] [(.double (FP.i2d (Int32.ofNat (i + 1)))), (.double FP.dconst1)])
        refine own_go (fun _ => XS.ddivS Xb2.here hx rfl (hb hby d4_33) rfl x1 rfl) ?_
        show own_R p.tables e below _ Tb2 (mkF m 34 #[.val (.ref a), .val (.double FP.dconst0), .second, .val (.int (Int32.ofNat (i + 1)))] [(.double (FP.ddiv FP.dconst1 (FP.i2d (Int32.ofNat (i + 1)))))])
        refine own_go (fun _ => XS.dstoreN Xb2.here hx rfl (hb hby d4_34) rfl (l' := #[.val (.ref a), .val (.double (FP.ddiv FP.dconst1 (FP.i2d (Int32.ofNat (i + 1))))), .second, .val (.int (Int32.ofNat (i + 1)))]) rfl) ?_
        show own_R p.tables e below _ Tb2 (mkF m 35 #[.val (.ref a), .val (.double (FP.ddiv FP.dconst1 (FP.i2d (Int32.ofNat (i + 1))))), .second, .val (.int (Int32.ofNat (i + 1)))] [])
        refine own_go (fun _ => XS.iinc Xb2.here hx rfl (hb hby d4_35) rfl (l' := #[.val (.ref a), .val (.double (FP.ddiv FP.dconst1 (FP.i2d (Int32.ofNat (i + 1))))), .second, .val (.int ((Int32.ofNat (i + 1)) + (1 : Int32)))]) rfl) ?_
        show own_R p.tables e below _ Tb2 (mkF m 38 #[.val (.ref a), .val (.double (FP.ddiv FP.dconst1 (FP.i2d (Int32.ofNat (i + 1))))), .second, .val (.int ((Int32.ofNat (i + 1)) + (1 : Int32)))] [])
        refine own_go (fun _ => XS.goto Xb2.here hx rfl (pc0 := 38) (pc' := 4) rfl (hb hby d4_38) (by decide) (by decide)) ?_
        show own_R p.tables e below _ Tb2 (mkF m 4 #[.val (.ref a), .val (.double (FP.ddiv FP.dconst1 (FP.i2d (Int32.ofNat (i + 1))))), .second, .val (.int ((Int32.ofNat (i + 1)) + (1 : Int32)))] [])
        refine own_go (fun _ => XS.iloadN Xb2.here hx rfl (hb hby d4_4) rfl ) ?_
        show own_R p.tables e below _ Tb2 (mkF m 5 #[.val (.ref a), .val (.double (FP.ddiv FP.dconst1 (FP.i2d (Int32.ofNat (i + 1))))), .second, .val (.int ((Int32.ofNat (i + 1)) + (1 : Int32)))] [(.int ((Int32.ofNat (i + 1)) + (1 : Int32)))])
        refine own_go (fun _ => XS.aloadN Xb2.here hx rfl (hb hby d4_5) rfl rfl) ?_
        show own_R p.tables e below _ Tb2 (mkF m 6 #[.val (.ref a), .val (.double (FP.ddiv FP.dconst1 (FP.i2d (Int32.ofNat (i + 1))))), .second, .val (.int ((Int32.ofNat (i + 1)) + (1 : Int32)))] [(.ref a), (.int ((Int32.ofNat (i + 1)) + (1 : Int32)))])
        generalize FP.ddiv FP.dconst1 (FP.i2d (Int32.ofNat (i + 1))) = xx at hq x1 x2 ⊢
        show own_R p.tables e below _ Tb2 (mkF m 6 #[.val (.ref a), .val (.double xx), .second, .val (.int ((Int32.ofNat (i + 1)) + (1 : Int32)))] [(.ref a), (.int ((Int32.ofNat (i + 1)) + (1 : Int32)))])
        obtain ⟨Tb3, Xb3, eb3, stb3⟩ := getF Xb2 hx hZ hown (host := "") (Or.inl (hw _ (List.mem_of_getElem? (i := 14) rfl))) Via.refl eb2 F (g := (mkF m 6 #[.val (.ref a), .val (.double xx), .second, .val (.int ((Int32.ofNat (i + 1)) + (1 : Int32)))] [(.ref a), (.int ((Int32.ofNat (i + 1)) + (1 : Int32)))])) rfl rfl (hb hby d4_6)
        refine own_go stb3 ?_
        show own_R p.tables e below _ Tb3 (mkF m 9 #[.val (.ref a), .val (.double xx), .second, .val (.int ((Int32.ofNat (i + 1)) + (1 : Int32)))] [(.ref t), (.int ((Int32.ofNat (i + 1)) + (1 : Int32)))])
        refine own_go (own_len Xb3 hx hZ eb3 V (g := (mkF m 9 #[.val (.ref a), .val (.double xx), .second, .val (.int ((Int32.ofNat (i + 1)) + (1 : Int32)))] [(.ref t), (.int ((Int32.ofNat (i + 1)) + (1 : Int32)))])) rfl rfl (hb hby d4_9)) ?_
        show own_R p.tables e below _ Tb3 (mkF m 10 #[.val (.ref a), .val (.double xx), .second, .val (.int ((Int32.ofNat (i + 1)) + (1 : Int32)))] [(.int (Int32.ofNat bs.length)), (.int ((Int32.ofNat (i + 1)) + (1 : Int32)))])
        by_cases hg : (Int32.ofNat bs.length) < ((Int32.ofNat (i + 1)) + (1 : Int32))
        · show own_R p.tables e below _ Tb3 (mkF m 10 #[.val (.ref a), .val (.double xx), .second, .val (.int ((Int32.ofNat (i + 1)) + (1 : Int32)))] [(.int (Int32.ofNat bs.length)), (.int ((Int32.ofNat (i + 1)) + (1 : Int32)))])
          refine own_go (fun _ => XS.icmpYes Xb3.here hx rfl (pc0 := 10) (pc' := 41) rfl (hb hby d4_10) rfl (tlt hg).2.2.1 (by decide) (by decide)) ?_
          show own_R p.tables e below _ Tb3 (mkF m 41 #[.val (.ref a), .val (.double xx), .second, .val (.int ((Int32.ofNat (i + 1)) + (1 : Int32)))] [])
          refine own_go (fun _ => XS.dloadN Xb3.here hx rfl (hb hby d4_41) rfl ) ?_
          show own_R p.tables e below _ Tb3 (mkF m 42 #[.val (.ref a), .val (.double xx), .second, .val (.int ((Int32.ofNat (i + 1)) + (1 : Int32)))] [(.double xx)])
          exact own_end Xb3 (some (.double xx)) (fun h => by rw [hret] at h; cases h) hlk (fun fs hr => own_retD Xb3 hx hret (hb hby d4_42) hr) ⟨by rw [hq], N0, eb3⟩ (by decide) (by decide)
        · show own_R p.tables e below _ Tb3 (mkF m 10 #[.val (.ref a), .val (.double xx), .second, .val (.int ((Int32.ofNat (i + 1)) + (1 : Int32)))] [(.int (Int32.ofNat bs.length)), (.int ((Int32.ofNat (i + 1)) + (1 : Int32)))])
          refine own_go (fun _ => XS.icmpNo Xb3.here hx rfl (hb hby d4_10) rfl (flt hg).2.2.1) ?_
          show own_R p.tables e below _ Tb3 (mkF m 13 #[.val (.ref a), .val (.double xx), .second, .val (.int ((Int32.ofNat (i + 1)) + (1 : Int32)))] [])
          refine own_go (fun _ => XS.dloadN Xb3.here hx rfl (hb hby d4_13) rfl ) ?_
          show own_R p.tables e below _ Tb3 (mkF m 14 #[.val (.ref a), .val (.double xx), .second, .val (.int ((Int32.ofNat (i + 1)) + (1 : Int32)))] [(.double xx)])
          refine own_go (fun _ => XS.dconst0 Xb3.here hx rfl (hb hby d4_14) rfl) ?_
          show own_R p.tables e below _ Tb3 (mkF m 15 #[.val (.ref a), .val (.double xx), .second, .val (.int ((Int32.ofNat (i + 1)) + (1 : Int32)))] [(.double FP.dconst0), (.double xx)])
          refine own_go (fun _ => XS.dcmpS Xb3.here hx rfl (hb hby d4_15) rfl rfl) ?_
          show own_R p.tables e below _ Tb3 (mkF m 16 #[.val (.ref a), .val (.double xx), .second, .val (.int ((Int32.ofNat (i + 1)) + (1 : Int32)))] [(.int (cmpValue (FP.dcmp xx FP.dconst0) .l))])
          refine own_go (fun _ => XS.ifYes Xb3.here hx rfl (pc0 := 16) (pc' := 41) rfl (hb hby d4_16) rfl ((if0 _ _).trans (feq x2).2) (by decide) (by decide)) ?_
          show own_R p.tables e below _ Tb3 (mkF m 41 #[.val (.ref a), .val (.double xx), .second, .val (.int ((Int32.ofNat (i + 1)) + (1 : Int32)))] [])
          refine own_go (fun _ => XS.dloadN Xb3.here hx rfl (hb hby d4_41) rfl ) ?_
          show own_R p.tables e below _ Tb3 (mkF m 42 #[.val (.ref a), .val (.double xx), .second, .val (.int ((Int32.ofNat (i + 1)) + (1 : Int32)))] [(.double xx)])
          exact own_end Xb3 (some (.double xx)) (fun h => by rw [hret] at h; cases h) hlk (fun fs hr => own_retD Xb3 hx hret (hb hby d4_42) hr) ⟨by rw [hq], N0, eb3⟩ (by decide) (by decide)
  refine own_go (fun _ => XS.dconst0 X0.here hx rfl (hb hby d4_0) rfl) ?_
  show own_R p.tables e below _ T0 (mkF m 1 #[.val (.ref a), .unset, .unset, .unset] [(.double FP.dconst0)])
  refine own_go (fun _ => XS.dstoreN X0.here hx rfl (hb hby d4_1) rfl (l' := #[.val (.ref a), .val (.double FP.dconst0), .second, .unset]) rfl) ?_
  show own_R p.tables e below _ T0 (mkF m 2 #[.val (.ref a), .val (.double FP.dconst0), .second, .unset] [])
  refine own_go (fun _ => XS.iconst X0.here hx rfl (hb hby d4_2)) ?_
  show own_R p.tables e below _ T0 (mkF m 3 #[.val (.ref a), .val (.double FP.dconst0), .second, .unset] [(.int (1 : Int32))])
  refine own_go (fun _ => XS.istoreN X0.here hx rfl (hb hby d4_3) rfl (l' := #[.val (.ref a), .val (.double FP.dconst0), .second, .val (.int (1 : Int32))]) rfl) ?_
  show own_R p.tables e below _ T0 (mkF m 4 #[.val (.ref a), .val (.double FP.dconst0), .second, .val (.int (1 : Int32))] [])
  exact loop bs.length 0 T0 X0 e0 (by omega) rfl
def own_fx (f : Int32) : UInt64 := if f = 0 then FP.dconst0 else FP.ddiv FP.dconst1 (FP.i2d f)
theorem own_fn : ∀ i : Fin 8, Jvm.Free.Fl.NoNaN64 (own_fx (Int32.ofNat i.val)) := by
  unfold Jvm.Free.Fl.NoNaN64
  decide +kernel
def own_Q0 (n0 : Nat) (v : Option Value) (h : Heap) (L : List Loc) : Prop := v = some (.int (1 : Int32)) ∧ Fr n0 L
set_option maxRecDepth 65536 in
set_option maxHeartbeats 40000000 in
theorem rm0 (l : Launch) (Z : State) (a0 : Array Value) (hw : ∀ d ∈ tables_1, d.before a0 Z = true) (ws : List Jvm.Cond) (h0 : Heap) (n0 : Nat) (sz bits cnt : Int32) (Z0 : n0 ≤ h0.size) :
    own_C l Z x code maxLocals ret ws room_1 #[(.int sz), (.int bits), (.int cnt)] h0 (own_Q0 n0) := by
  refine own_body (ls := #[.val (.int sz), .val (.int bits), .val (.int cnt), .unset, .unset, .unset, .unset, .unset, .unset, .unset, .unset, .unset, .unset, .unset, .unset, .unset, .unset]) pn_0 (fun m => by first | (simp [entryFrame, mkF, argsToLocals, Value.category, maxLocals]; done) | rfl) ?_
  intro p e s m below meth c T0 hZ hx hby hml hown hnm hret hlk X0 e0
  replace hml : c.maxLocals = 17 := hml
  have N0 := Fr.nil n0
  refine own_go (fun _ => XS.iloadN X0.here hx rfl (hb hby at_0) rfl ) ?_
  show own_R p.tables e below _ T0 (mkF m 1 #[.val (.int sz), .val (.int bits), .val (.int cnt), .unset, .unset, .unset, .unset, .unset, .unset, .unset, .unset, .unset, .unset, .unset, .unset, .unset, .unset] [(.int sz)])
  refine own_go (fun _ => XS.bipush X0.here hx rfl (hb hby at_1)) ?_
  show own_R p.tables e below _ T0 (mkF m 3 #[.val (.int sz), .val (.int bits), .val (.int cnt), .unset, .unset, .unset, .unset, .unset, .unset, .unset, .unset, .unset, .unset, .unset, .unset, .unset, .unset] [(.int (7 : Int32)), (.int sz)])
  refine own_go (fun _ => XS.iand X0.here hx rfl (hb hby at_3) rfl) ?_
  show own_R p.tables e below _ T0 (mkF m 4 #[.val (.int sz), .val (.int bits), .val (.int cnt), .unset, .unset, .unset, .unset, .unset, .unset, .unset, .unset, .unset, .unset, .unset, .unset, .unset, .unset] [(.int (sz &&& (7 : Int32)))])
  refine own_go (fun _ => XS.istoreN X0.here hx rfl (hb hby at_4) rfl (l' := #[.val (.int sz), .val (.int bits), .val (.int cnt), .val (.int (sz &&& (7 : Int32))), .unset, .unset, .unset, .unset, .unset, .unset, .unset, .unset, .unset, .unset, .unset, .unset, .unset]) rfl) ?_
  show own_R p.tables e below _ T0 (mkF m 5 #[.val (.int sz), .val (.int bits), .val (.int cnt), .val (.int (sz &&& (7 : Int32))), .unset, .unset, .unset, .unset, .unset, .unset, .unset, .unset, .unset, .unset, .unset, .unset, .unset] [])
  refine own_go (fun _ => XS.iloadN X0.here hx rfl (hb hby at_5) rfl ) ?_
  show own_R p.tables e below _ T0 (mkF m 6 #[.val (.int sz), .val (.int bits), .val (.int cnt), .val (.int (sz &&& (7 : Int32))), .unset, .unset, .unset, .unset, .unset, .unset, .unset, .unset, .unset, .unset, .unset, .unset, .unset] [(.int (sz &&& (7 : Int32)))])
  have hn : own_n7 (sz &&& (7 : Int32)) := by
    have q := c_and sz 7 (by decide)
    rw [show (7 : Int32).toInt = 7 by decide] at q
    have f : ∀ z : Int32, 0 ≤ z.toInt → z.toInt ≤ 7 → own_n7 z := fun z h1 h2 => by
      have : z.toInt = 0 ∨ z.toInt = 1 ∨ z.toInt = 2 ∨ z.toInt = 3 ∨ z.toInt = 4 ∨ z.toInt = 5 ∨ z.toInt = 6 ∨ z.toInt = 7 := by omega
      unfold own_n7
      simp only [← Int32.toInt_inj]
      exact this
    exact f _ q.1 q.2
  generalize sz &&& (7 : Int32) = n at hn ⊢
  show own_R p.tables e below _ T0 (mkF m 6 #[.val (.int sz), .val (.int bits), .val (.int cnt), .val (.int n), .unset, .unset, .unset, .unset, .unset, .unset, .unset, .unset, .unset, .unset, .unset, .unset, .unset] [(.int n)])
  obtain ⟨v1, T1, L1, X1, Q1, st1⟩ := own_callS X0 hx hZ hown (y := (⟨"com/example/kookaburra/kookaburra/eval/RankingReciprocalRankPinLaw", "make", "(I)[Z"⟩ : MethodName)) (hw _ (List.mem_of_getElem? (i := 0) rfl)) (hw _ (List.mem_of_getElem? (i := 1) rfl)) (hw _ (List.mem_of_getElem? (i := 2) rfl)) (hw _ (List.mem_of_getElem? (i := 3) rfl)) (by decide) (rmMk l Z a0 hw [] h0 n0 n hn) (W := 0) (g := (mkF m 6 #[.val (.int sz), .val (.int bits), .val (.int cnt), .val (.int n), .unset, .unset, .unset, .unset, .unset, .unset, .unset, .unset, .unset, .unset, .unset, .unset, .unset] [(.int n)])) rfl (by rw [hml]; rfl) (argsL := [(.int n)]) (rest := []) (lenOf pd__I__Z rfl) rfl rfl (by show 2 * 0 + _ ≤ _; exact Nat.le_of_eq rfl) (hb hby at_6) e0 (by decide) (by decide) (by decide) (by decide)
  obtain ⟨t, kt, rfl, N1q, K1, q1, V1⟩ := Q1
  have N1 := Fr.app N0 N1q
  refine own_go st1 ?_
  show own_R p.tables e below _ T1 (mkF m 9 #[.val (.int sz), .val (.int bits), .val (.int cnt), .val (.int n), .unset, .unset, .unset, .unset, .unset, .unset, .unset, .unset, .unset, .unset, .unset, .unset, .unset] [(.ref t)])
  refine own_go (fun _ => XS.astore X1.here hx rfl (hb hby at_9) rfl rfl (l' := #[.val (.int sz), .val (.int bits), .val (.int cnt), .val (.int n), .val (.ref t), .unset, .unset, .unset, .unset, .unset, .unset, .unset, .unset, .unset, .unset, .unset, .unset]) rfl) ?_
  show own_R p.tables e below _ T1 (mkF m 11 #[.val (.int sz), .val (.int bits), .val (.int cnt), .val (.int n), .val (.ref t), .unset, .unset, .unset, .unset, .unset, .unset, .unset, .unset, .unset, .unset, .unset, .unset] [])
  refine own_go (fun _ => XS.iloadN X1.here hx rfl (hb hby at_11) rfl ) ?_
  show own_R p.tables e below _ T1 (mkF m 12 #[.val (.int sz), .val (.int bits), .val (.int cnt), .val (.int n), .val (.ref t), .unset, .unset, .unset, .unset, .unset, .unset, .unset, .unset, .unset, .unset, .unset, .unset] [(.int bits)])
  refine own_go (fun _ => XS.iconst X1.here hx rfl (hb hby at_12)) ?_
  show own_R p.tables e below _ T1 (mkF m 13 #[.val (.int sz), .val (.int bits), .val (.int cnt), .val (.int n), .val (.ref t), .unset, .unset, .unset, .unset, .unset, .unset, .unset, .unset, .unset, .unset, .unset, .unset] [(.int (1 : Int32)), (.int bits)])
  refine own_go (fun _ => XS.iand X1.here hx rfl (hb hby at_13) rfl) ?_
  show own_R p.tables e below _ T1 (mkF m 14 #[.val (.int sz), .val (.int bits), .val (.int cnt), .val (.int n), .val (.ref t), .unset, .unset, .unset, .unset, .unset, .unset, .unset, .unset, .unset, .unset, .unset, .unset] [(.int (bits &&& (1 : Int32)))])
  have J0 : ∀ b0 : Int32, b0 = 0 ∨ b0 = 1 → own_R p.tables e below (own_E s below (own_Q0 n0) (room_1).cells (room_1).slots) T1 (mkF m 24 #[.val (.int sz), .val (.int bits), .val (.int cnt), .val (.int n), .val (.ref t), .val (.int b0), .unset, .unset, .unset, .unset, .unset, .unset, .unset, .unset, .unset, .unset, .unset] []) := by
    intro b0 hb0
    show own_R p.tables e below _ T1 (mkF m 24 #[.val (.int sz), .val (.int bits), .val (.int cnt), .val (.int n), .val (.ref t), .val (.int b0), .unset, .unset, .unset, .unset, .unset, .unset, .unset, .unset, .unset, .unset, .unset] [])
    refine own_go (fun _ => XS.iloadN X1.here hx rfl (hb hby at_24) rfl ) ?_
    show own_R p.tables e below _ T1 (mkF m 25 #[.val (.int sz), .val (.int bits), .val (.int cnt), .val (.int n), .val (.ref t), .val (.int b0), .unset, .unset, .unset, .unset, .unset, .unset, .unset, .unset, .unset, .unset, .unset] [(.int bits)])
    refine own_go (fun _ => XS.iconst X1.here hx rfl (hb hby at_25)) ?_
    show own_R p.tables e below _ T1 (mkF m 26 #[.val (.int sz), .val (.int bits), .val (.int cnt), .val (.int n), .val (.ref t), .val (.int b0), .unset, .unset, .unset, .unset, .unset, .unset, .unset, .unset, .unset, .unset, .unset] [(.int (2 : Int32)), (.int bits)])
    refine own_go (fun _ => XS.iand X1.here hx rfl (hb hby at_26) rfl) ?_
    show own_R p.tables e below _ T1 (mkF m 27 #[.val (.int sz), .val (.int bits), .val (.int cnt), .val (.int n), .val (.ref t), .val (.int b0), .unset, .unset, .unset, .unset, .unset, .unset, .unset, .unset, .unset, .unset, .unset] [(.int (bits &&& (2 : Int32)))])
    have J1 : ∀ b1 : Int32, b1 = 0 ∨ b1 = 1 → own_R p.tables e below (own_E s below (own_Q0 n0) (room_1).cells (room_1).slots) T1 (mkF m 37 #[.val (.int sz), .val (.int bits), .val (.int cnt), .val (.int n), .val (.ref t), .val (.int b0), .val (.int b1), .unset, .unset, .unset, .unset, .unset, .unset, .unset, .unset, .unset, .unset] []) := by
      intro b1 hb1
      show own_R p.tables e below _ T1 (mkF m 37 #[.val (.int sz), .val (.int bits), .val (.int cnt), .val (.int n), .val (.ref t), .val (.int b0), .val (.int b1), .unset, .unset, .unset, .unset, .unset, .unset, .unset, .unset, .unset, .unset] [])
      refine own_go (fun _ => XS.iloadN X1.here hx rfl (hb hby at_37) rfl ) ?_
      show own_R p.tables e below _ T1 (mkF m 38 #[.val (.int sz), .val (.int bits), .val (.int cnt), .val (.int n), .val (.ref t), .val (.int b0), .val (.int b1), .unset, .unset, .unset, .unset, .unset, .unset, .unset, .unset, .unset, .unset] [(.int bits)])
      refine own_go (fun _ => XS.iconst X1.here hx rfl (hb hby at_38)) ?_
      show own_R p.tables e below _ T1 (mkF m 39 #[.val (.int sz), .val (.int bits), .val (.int cnt), .val (.int n), .val (.ref t), .val (.int b0), .val (.int b1), .unset, .unset, .unset, .unset, .unset, .unset, .unset, .unset, .unset, .unset] [(.int (4 : Int32)), (.int bits)])
      refine own_go (fun _ => XS.iand X1.here hx rfl (hb hby at_39) rfl) ?_
      show own_R p.tables e below _ T1 (mkF m 40 #[.val (.int sz), .val (.int bits), .val (.int cnt), .val (.int n), .val (.ref t), .val (.int b0), .val (.int b1), .unset, .unset, .unset, .unset, .unset, .unset, .unset, .unset, .unset, .unset] [(.int (bits &&& (4 : Int32)))])
      have J2 : ∀ b2 : Int32, b2 = 0 ∨ b2 = 1 → own_R p.tables e below (own_E s below (own_Q0 n0) (room_1).cells (room_1).slots) T1 (mkF m 50 #[.val (.int sz), .val (.int bits), .val (.int cnt), .val (.int n), .val (.ref t), .val (.int b0), .val (.int b1), .val (.int b2), .unset, .unset, .unset, .unset, .unset, .unset, .unset, .unset, .unset] []) := by
        intro b2 hb2
        show own_R p.tables e below _ T1 (mkF m 50 #[.val (.int sz), .val (.int bits), .val (.int cnt), .val (.int n), .val (.ref t), .val (.int b0), .val (.int b1), .val (.int b2), .unset, .unset, .unset, .unset, .unset, .unset, .unset, .unset, .unset] [])
        refine own_go (fun _ => XS.iloadN X1.here hx rfl (hb hby at_50) rfl ) ?_
        show own_R p.tables e below _ T1 (mkF m 51 #[.val (.int sz), .val (.int bits), .val (.int cnt), .val (.int n), .val (.ref t), .val (.int b0), .val (.int b1), .val (.int b2), .unset, .unset, .unset, .unset, .unset, .unset, .unset, .unset, .unset] [(.int bits)])
        refine own_go (fun _ => XS.bipush X1.here hx rfl (hb hby at_51)) ?_
        show own_R p.tables e below _ T1 (mkF m 53 #[.val (.int sz), .val (.int bits), .val (.int cnt), .val (.int n), .val (.ref t), .val (.int b0), .val (.int b1), .val (.int b2), .unset, .unset, .unset, .unset, .unset, .unset, .unset, .unset, .unset] [(.int (8 : Int32)), (.int bits)])
        refine own_go (fun _ => XS.iand X1.here hx rfl (hb hby at_53) rfl) ?_
        show own_R p.tables e below _ T1 (mkF m 54 #[.val (.int sz), .val (.int bits), .val (.int cnt), .val (.int n), .val (.ref t), .val (.int b0), .val (.int b1), .val (.int b2), .unset, .unset, .unset, .unset, .unset, .unset, .unset, .unset, .unset] [(.int (bits &&& (8 : Int32)))])
        have J3 : ∀ b3 : Int32, b3 = 0 ∨ b3 = 1 → own_R p.tables e below (own_E s below (own_Q0 n0) (room_1).cells (room_1).slots) T1 (mkF m 64 #[.val (.int sz), .val (.int bits), .val (.int cnt), .val (.int n), .val (.ref t), .val (.int b0), .val (.int b1), .val (.int b2), .val (.int b3), .unset, .unset, .unset, .unset, .unset, .unset, .unset, .unset] []) := by
          intro b3 hb3
          show own_R p.tables e below _ T1 (mkF m 64 #[.val (.int sz), .val (.int bits), .val (.int cnt), .val (.int n), .val (.ref t), .val (.int b0), .val (.int b1), .val (.int b2), .val (.int b3), .unset, .unset, .unset, .unset, .unset, .unset, .unset, .unset] [])
          refine own_go (fun _ => XS.iloadN X1.here hx rfl (hb hby at_64) rfl ) ?_
          show own_R p.tables e below _ T1 (mkF m 65 #[.val (.int sz), .val (.int bits), .val (.int cnt), .val (.int n), .val (.ref t), .val (.int b0), .val (.int b1), .val (.int b2), .val (.int b3), .unset, .unset, .unset, .unset, .unset, .unset, .unset, .unset] [(.int bits)])
          refine own_go (fun _ => XS.bipush X1.here hx rfl (hb hby at_65)) ?_
          show own_R p.tables e below _ T1 (mkF m 67 #[.val (.int sz), .val (.int bits), .val (.int cnt), .val (.int n), .val (.ref t), .val (.int b0), .val (.int b1), .val (.int b2), .val (.int b3), .unset, .unset, .unset, .unset, .unset, .unset, .unset, .unset] [(.int (16 : Int32)), (.int bits)])
          refine own_go (fun _ => XS.iand X1.here hx rfl (hb hby at_67) rfl) ?_
          show own_R p.tables e below _ T1 (mkF m 68 #[.val (.int sz), .val (.int bits), .val (.int cnt), .val (.int n), .val (.ref t), .val (.int b0), .val (.int b1), .val (.int b2), .val (.int b3), .unset, .unset, .unset, .unset, .unset, .unset, .unset, .unset] [(.int (bits &&& (16 : Int32)))])
          have J4 : ∀ b4 : Int32, b4 = 0 ∨ b4 = 1 → own_R p.tables e below (own_E s below (own_Q0 n0) (room_1).cells (room_1).slots) T1 (mkF m 78 #[.val (.int sz), .val (.int bits), .val (.int cnt), .val (.int n), .val (.ref t), .val (.int b0), .val (.int b1), .val (.int b2), .val (.int b3), .val (.int b4), .unset, .unset, .unset, .unset, .unset, .unset, .unset] []) := by
            intro b4 hb4
            show own_R p.tables e below _ T1 (mkF m 78 #[.val (.int sz), .val (.int bits), .val (.int cnt), .val (.int n), .val (.ref t), .val (.int b0), .val (.int b1), .val (.int b2), .val (.int b3), .val (.int b4), .unset, .unset, .unset, .unset, .unset, .unset, .unset] [])
            refine own_go (fun _ => XS.iloadN X1.here hx rfl (hb hby at_78) rfl ) ?_
            show own_R p.tables e below _ T1 (mkF m 79 #[.val (.int sz), .val (.int bits), .val (.int cnt), .val (.int n), .val (.ref t), .val (.int b0), .val (.int b1), .val (.int b2), .val (.int b3), .val (.int b4), .unset, .unset, .unset, .unset, .unset, .unset, .unset] [(.int bits)])
            refine own_go (fun _ => XS.bipush X1.here hx rfl (hb hby at_79)) ?_
            show own_R p.tables e below _ T1 (mkF m 81 #[.val (.int sz), .val (.int bits), .val (.int cnt), .val (.int n), .val (.ref t), .val (.int b0), .val (.int b1), .val (.int b2), .val (.int b3), .val (.int b4), .unset, .unset, .unset, .unset, .unset, .unset, .unset] [(.int (32 : Int32)), (.int bits)])
            refine own_go (fun _ => XS.iand X1.here hx rfl (hb hby at_81) rfl) ?_
            show own_R p.tables e below _ T1 (mkF m 82 #[.val (.int sz), .val (.int bits), .val (.int cnt), .val (.int n), .val (.ref t), .val (.int b0), .val (.int b1), .val (.int b2), .val (.int b3), .val (.int b4), .unset, .unset, .unset, .unset, .unset, .unset, .unset] [(.int (bits &&& (32 : Int32)))])
            have J5 : ∀ b5 : Int32, b5 = 0 ∨ b5 = 1 → own_R p.tables e below (own_E s below (own_Q0 n0) (room_1).cells (room_1).slots) T1 (mkF m 92 #[.val (.int sz), .val (.int bits), .val (.int cnt), .val (.int n), .val (.ref t), .val (.int b0), .val (.int b1), .val (.int b2), .val (.int b3), .val (.int b4), .val (.int b5), .unset, .unset, .unset, .unset, .unset, .unset] []) := by
              intro b5 hb5
              show own_R p.tables e below _ T1 (mkF m 92 #[.val (.int sz), .val (.int bits), .val (.int cnt), .val (.int n), .val (.ref t), .val (.int b0), .val (.int b1), .val (.int b2), .val (.int b3), .val (.int b4), .val (.int b5), .unset, .unset, .unset, .unset, .unset, .unset] [])
              refine own_go (fun _ => XS.iloadN X1.here hx rfl (hb hby at_92) rfl ) ?_
              show own_R p.tables e below _ T1 (mkF m 93 #[.val (.int sz), .val (.int bits), .val (.int cnt), .val (.int n), .val (.ref t), .val (.int b0), .val (.int b1), .val (.int b2), .val (.int b3), .val (.int b4), .val (.int b5), .unset, .unset, .unset, .unset, .unset, .unset] [(.int bits)])
              refine own_go (fun _ => XS.bipush X1.here hx rfl (hb hby at_93)) ?_
              show own_R p.tables e below _ T1 (mkF m 95 #[.val (.int sz), .val (.int bits), .val (.int cnt), .val (.int n), .val (.ref t), .val (.int b0), .val (.int b1), .val (.int b2), .val (.int b3), .val (.int b4), .val (.int b5), .unset, .unset, .unset, .unset, .unset, .unset] [(.int (64 : Int32)), (.int bits)])
              refine own_go (fun _ => XS.iand X1.here hx rfl (hb hby at_95) rfl) ?_
              show own_R p.tables e below _ T1 (mkF m 96 #[.val (.int sz), .val (.int bits), .val (.int cnt), .val (.int n), .val (.ref t), .val (.int b0), .val (.int b1), .val (.int b2), .val (.int b3), .val (.int b4), .val (.int b5), .unset, .unset, .unset, .unset, .unset, .unset] [(.int (bits &&& (64 : Int32)))])
              have J6 : ∀ b6 : Int32, b6 = 0 ∨ b6 = 1 → own_R p.tables e below (own_E s below (own_Q0 n0) (room_1).cells (room_1).slots) T1 (mkF m 106 #[.val (.int sz), .val (.int bits), .val (.int cnt), .val (.int n), .val (.ref t), .val (.int b0), .val (.int b1), .val (.int b2), .val (.int b3), .val (.int b4), .val (.int b5), .val (.int b6), .unset, .unset, .unset, .unset, .unset] []) := by
                intro b6 hb6
                show own_R p.tables e below _ T1 (mkF m 106 #[.val (.int sz), .val (.int bits), .val (.int cnt), .val (.int n), .val (.ref t), .val (.int b0), .val (.int b1), .val (.int b2), .val (.int b3), .val (.int b4), .val (.int b5), .val (.int b6), .unset, .unset, .unset, .unset, .unset] [])
                rcases hn with rfl | rfl | rfl | rfl | rfl | rfl | rfl | rfl
                · show own_R p.tables e below _ T1 (mkF m 106 #[.val (.int sz), .val (.int bits), .val (.int cnt), .val (.int (0 : Int32)), .val (.ref t), .val (.int b0), .val (.int b1), .val (.int b2), .val (.int b3), .val (.int b4), .val (.int b5), .val (.int b6), .unset, .unset, .unset, .unset, .unset] [])
                  have V2 := V1.pad (pad_rep [] (.int 0) 0)
                  have g1a : n0 ≤ t := Nat.le_trans Z0 q1
                  refine own_go (fun _ => XS.iloadN X1.here hx rfl (hb hby at_106) rfl ) ?_
                  show own_R p.tables e below _ T1 (mkF m 107 #[.val (.int sz), .val (.int bits), .val (.int cnt), .val (.int (0 : Int32)), .val (.ref t), .val (.int b0), .val (.int b1), .val (.int b2), .val (.int b3), .val (.int b4), .val (.int b5), .val (.int b6), .unset, .unset, .unset, .unset, .unset] [(.int (0 : Int32))])
                  refine own_go (fun _ => XS.ifYes X1.here hx rfl (pc0 := 107) (pc' := 116) rfl (hb hby at_107) rfl ((if0 _ _).trans (flt (by decide)).2.2.2) (by decide) (by decide)) ?_
                  show own_R p.tables e below _ T1 (mkF m 116 #[.val (.int sz), .val (.int bits), .val (.int cnt), .val (.int (0 : Int32)), .val (.ref t), .val (.int b0), .val (.int b1), .val (.int b2), .val (.int b3), .val (.int b4), .val (.int b5), .val (.int b6), .unset, .unset, .unset, .unset, .unset] [])
                  refine own_go (fun _ => XS.iloadN X1.here hx rfl (hb hby at_116) rfl ) ?_
                  show own_R p.tables e below _ T1 (mkF m 117 #[.val (.int sz), .val (.int bits), .val (.int cnt), .val (.int (0 : Int32)), .val (.ref t), .val (.int b0), .val (.int b1), .val (.int b2), .val (.int b3), .val (.int b4), .val (.int b5), .val (.int b6), .unset, .unset, .unset, .unset, .unset] [(.int (0 : Int32))])
                  refine own_go (fun _ => XS.iconst X1.here hx rfl (hb hby at_117)) ?_
                  show own_R p.tables e below _ T1 (mkF m 118 #[.val (.int sz), .val (.int bits), .val (.int cnt), .val (.int (0 : Int32)), .val (.ref t), .val (.int b0), .val (.int b1), .val (.int b2), .val (.int b3), .val (.int b4), .val (.int b5), .val (.int b6), .unset, .unset, .unset, .unset, .unset] [(.int (1 : Int32)), (.int (0 : Int32))])
                  refine own_go (fun _ => XS.icmpYes X1.here hx rfl (pc0 := 118) (pc' := 127) rfl (hb hby at_118) rfl (flt (by decide)).2.2.2 (by decide) (by decide)) ?_
                  show own_R p.tables e below _ T1 (mkF m 127 #[.val (.int sz), .val (.int bits), .val (.int cnt), .val (.int (0 : Int32)), .val (.ref t), .val (.int b0), .val (.int b1), .val (.int b2), .val (.int b3), .val (.int b4), .val (.int b5), .val (.int b6), .unset, .unset, .unset, .unset, .unset] [])
                  refine own_go (fun _ => XS.iloadN X1.here hx rfl (hb hby at_127) rfl ) ?_
                  show own_R p.tables e below _ T1 (mkF m 128 #[.val (.int sz), .val (.int bits), .val (.int cnt), .val (.int (0 : Int32)), .val (.ref t), .val (.int b0), .val (.int b1), .val (.int b2), .val (.int b3), .val (.int b4), .val (.int b5), .val (.int b6), .unset, .unset, .unset, .unset, .unset] [(.int (0 : Int32))])
                  refine own_go (fun _ => XS.iconst X1.here hx rfl (hb hby at_128)) ?_
                  show own_R p.tables e below _ T1 (mkF m 129 #[.val (.int sz), .val (.int bits), .val (.int cnt), .val (.int (0 : Int32)), .val (.ref t), .val (.int b0), .val (.int b1), .val (.int b2), .val (.int b3), .val (.int b4), .val (.int b5), .val (.int b6), .unset, .unset, .unset, .unset, .unset] [(.int (2 : Int32)), (.int (0 : Int32))])
                  refine own_go (fun _ => XS.icmpYes X1.here hx rfl (pc0 := 129) (pc' := 138) rfl (hb hby at_129) rfl (flt (by decide)).2.2.2 (by decide) (by decide)) ?_
                  show own_R p.tables e below _ T1 (mkF m 138 #[.val (.int sz), .val (.int bits), .val (.int cnt), .val (.int (0 : Int32)), .val (.ref t), .val (.int b0), .val (.int b1), .val (.int b2), .val (.int b3), .val (.int b4), .val (.int b5), .val (.int b6), .unset, .unset, .unset, .unset, .unset] [])
                  refine own_go (fun _ => XS.iloadN X1.here hx rfl (hb hby at_138) rfl ) ?_
                  show own_R p.tables e below _ T1 (mkF m 139 #[.val (.int sz), .val (.int bits), .val (.int cnt), .val (.int (0 : Int32)), .val (.ref t), .val (.int b0), .val (.int b1), .val (.int b2), .val (.int b3), .val (.int b4), .val (.int b5), .val (.int b6), .unset, .unset, .unset, .unset, .unset] [(.int (0 : Int32))])
                  refine own_go (fun _ => XS.iconst X1.here hx rfl (hb hby at_139)) ?_
                  show own_R p.tables e below _ T1 (mkF m 140 #[.val (.int sz), .val (.int bits), .val (.int cnt), .val (.int (0 : Int32)), .val (.ref t), .val (.int b0), .val (.int b1), .val (.int b2), .val (.int b3), .val (.int b4), .val (.int b5), .val (.int b6), .unset, .unset, .unset, .unset, .unset] [(.int (3 : Int32)), (.int (0 : Int32))])
                  refine own_go (fun _ => XS.icmpYes X1.here hx rfl (pc0 := 140) (pc' := 149) rfl (hb hby at_140) rfl (flt (by decide)).2.2.2 (by decide) (by decide)) ?_
                  show own_R p.tables e below _ T1 (mkF m 149 #[.val (.int sz), .val (.int bits), .val (.int cnt), .val (.int (0 : Int32)), .val (.ref t), .val (.int b0), .val (.int b1), .val (.int b2), .val (.int b3), .val (.int b4), .val (.int b5), .val (.int b6), .unset, .unset, .unset, .unset, .unset] [])
                  refine own_go (fun _ => XS.iloadN X1.here hx rfl (hb hby at_149) rfl ) ?_
                  show own_R p.tables e below _ T1 (mkF m 150 #[.val (.int sz), .val (.int bits), .val (.int cnt), .val (.int (0 : Int32)), .val (.ref t), .val (.int b0), .val (.int b1), .val (.int b2), .val (.int b3), .val (.int b4), .val (.int b5), .val (.int b6), .unset, .unset, .unset, .unset, .unset] [(.int (0 : Int32))])
                  refine own_go (fun _ => XS.iconst X1.here hx rfl (hb hby at_150)) ?_
                  show own_R p.tables e below _ T1 (mkF m 151 #[.val (.int sz), .val (.int bits), .val (.int cnt), .val (.int (0 : Int32)), .val (.ref t), .val (.int b0), .val (.int b1), .val (.int b2), .val (.int b3), .val (.int b4), .val (.int b5), .val (.int b6), .unset, .unset, .unset, .unset, .unset] [(.int (4 : Int32)), (.int (0 : Int32))])
                  refine own_go (fun _ => XS.icmpYes X1.here hx rfl (pc0 := 151) (pc' := 160) rfl (hb hby at_151) rfl (flt (by decide)).2.2.2 (by decide) (by decide)) ?_
                  show own_R p.tables e below _ T1 (mkF m 160 #[.val (.int sz), .val (.int bits), .val (.int cnt), .val (.int (0 : Int32)), .val (.ref t), .val (.int b0), .val (.int b1), .val (.int b2), .val (.int b3), .val (.int b4), .val (.int b5), .val (.int b6), .unset, .unset, .unset, .unset, .unset] [])
                  refine own_go (fun _ => XS.iloadN X1.here hx rfl (hb hby at_160) rfl ) ?_
                  show own_R p.tables e below _ T1 (mkF m 161 #[.val (.int sz), .val (.int bits), .val (.int cnt), .val (.int (0 : Int32)), .val (.ref t), .val (.int b0), .val (.int b1), .val (.int b2), .val (.int b3), .val (.int b4), .val (.int b5), .val (.int b6), .unset, .unset, .unset, .unset, .unset] [(.int (0 : Int32))])
                  refine own_go (fun _ => XS.iconst X1.here hx rfl (hb hby at_161)) ?_
                  show own_R p.tables e below _ T1 (mkF m 162 #[.val (.int sz), .val (.int bits), .val (.int cnt), .val (.int (0 : Int32)), .val (.ref t), .val (.int b0), .val (.int b1), .val (.int b2), .val (.int b3), .val (.int b4), .val (.int b5), .val (.int b6), .unset, .unset, .unset, .unset, .unset] [(.int (5 : Int32)), (.int (0 : Int32))])
                  refine own_go (fun _ => XS.icmpYes X1.here hx rfl (pc0 := 162) (pc' := 171) rfl (hb hby at_162) rfl (flt (by decide)).2.2.2 (by decide) (by decide)) ?_
                  show own_R p.tables e below _ T1 (mkF m 171 #[.val (.int sz), .val (.int bits), .val (.int cnt), .val (.int (0 : Int32)), .val (.ref t), .val (.int b0), .val (.int b1), .val (.int b2), .val (.int b3), .val (.int b4), .val (.int b5), .val (.int b6), .unset, .unset, .unset, .unset, .unset] [])
                  refine own_go (fun _ => XS.iloadN X1.here hx rfl (hb hby at_171) rfl ) ?_
                  show own_R p.tables e below _ T1 (mkF m 172 #[.val (.int sz), .val (.int bits), .val (.int cnt), .val (.int (0 : Int32)), .val (.ref t), .val (.int b0), .val (.int b1), .val (.int b2), .val (.int b3), .val (.int b4), .val (.int b5), .val (.int b6), .unset, .unset, .unset, .unset, .unset] [(.int (0 : Int32))])
                  refine own_go (fun _ => XS.bipush X1.here hx rfl (hb hby at_172)) ?_
                  show own_R p.tables e below _ T1 (mkF m 174 #[.val (.int sz), .val (.int bits), .val (.int cnt), .val (.int (0 : Int32)), .val (.ref t), .val (.int b0), .val (.int b1), .val (.int b2), .val (.int b3), .val (.int b4), .val (.int b5), .val (.int b6), .unset, .unset, .unset, .unset, .unset] [(.int (6 : Int32)), (.int (0 : Int32))])
                  refine own_go (fun _ => XS.icmpYes X1.here hx rfl (pc0 := 174) (pc' := 184) rfl (hb hby at_174) rfl (flt (by decide)).2.2.2 (by decide) (by decide)) ?_
                  show own_R p.tables e below _ T1 (mkF m 184 #[.val (.int sz), .val (.int bits), .val (.int cnt), .val (.int (0 : Int32)), .val (.ref t), .val (.int b0), .val (.int b1), .val (.int b2), .val (.int b3), .val (.int b4), .val (.int b5), .val (.int b6), .unset, .unset, .unset, .unset, .unset] [])
                  obtain ⟨T3, h3, X3, e3, E3, A3, D3, -, st3⟩ := newO X1 hx hZ hown (hw _ (List.mem_of_getElem? (i := 5) rfl)) (hw _ (List.mem_of_getElem? (i := 6) rfl)) (hw _ (List.mem_of_getElem? (i := 7) rfl)) rfl (g := (mkF m 184 #[.val (.int sz), .val (.int bits), .val (.int cnt), .val (.int (0 : Int32)), .val (.ref t), .val (.int b0), .val (.int b1), .val (.int b2), .val (.int b3), .val (.int b4), .val (.int b5), .val (.int b6), .unset, .unset, .unset, .unset, .unset] [])) rfl (hb hby at_184) (by decide) (by decide)
                  obtain ⟨a3, g3⟩ : ∃ z, z = T1.heap.size := ⟨_, rfl⟩
                  rw [← g3] at A3 D3 st3
                  refine own_go st3 ?_
                  show own_R p.tables e below _ T3 (mkF m 187 #[.val (.int sz), .val (.int bits), .val (.int cnt), .val (.int (0 : Int32)), .val (.ref t), .val (.int b0), .val (.int b1), .val (.int b2), .val (.int b3), .val (.int b4), .val (.int b5), .val (.int b6), .unset, .unset, .unset, .unset, .unset] [(.ref a3)])
                  refine own_go (fun _ => XS.dup X3.here hx rfl (hb hby at_187) rfl rfl) ?_
                  show own_R p.tables e below _ T3 (mkF m 188 #[.val (.int sz), .val (.int bits), .val (.int cnt), .val (.int (0 : Int32)), .val (.ref t), .val (.int b0), .val (.int b1), .val (.int b2), .val (.int b3), .val (.int b4), .val (.int b5), .val (.int b6), .unset, .unset, .unset, .unset, .unset] [(.ref a3), (.ref a3)])
                  refine own_go (fun _ => XS.aload X3.here hx rfl (hb hby at_188) rfl rfl) ?_
                  show own_R p.tables e below _ T3 (mkF m 190 #[.val (.int sz), .val (.int bits), .val (.int cnt), .val (.int (0 : Int32)), .val (.ref t), .val (.int b0), .val (.int b1), .val (.int b2), .val (.int b3), .val (.int b4), .val (.int b5), .val (.int b6), .unset, .unset, .unset, .unset, .unset] [(.ref t), (.ref a3), (.ref a3)])
                  refine own_go (fun _ => XS.iloadN X3.here hx rfl (hb hby at_190) rfl ) ?_
                  show own_R p.tables e below _ T3 (mkF m 191 #[.val (.int sz), .val (.int bits), .val (.int cnt), .val (.int (0 : Int32)), .val (.ref t), .val (.int b0), .val (.int b1), .val (.int b2), .val (.int b3), .val (.int b4), .val (.int b5), .val (.int b6), .unset, .unset, .unset, .unset, .unset] [(.int cnt), (.ref t), (.ref a3), (.ref a3)])
                  have g3a : n0 ≤ a3 := Nat.le_trans Z0 (Nat.le_trans K1.1 (Nat.le_of_eq g3.symm))
                  have ne3 : t ≠ a3 := Nat.ne_of_lt (Nat.lt_of_lt_of_le V2.lt (Nat.le_of_eq g3.symm))
                  obtain ⟨v4, T4, L4, X4, Q4, st4⟩ := own_callI X3 hx hZ hown (y := (⟨"com/example/kookaburra/kookaburra/eval/Ranking", "<init>", "([ZI)V"⟩ : MethodName)) rfl (hw _ (List.mem_of_getElem? (i := 8) rfl)) (hw _ (List.mem_of_getElem? (i := 9) rfl)) (hw _ (List.mem_of_getElem? (i := 10) rfl)) (hw _ (List.mem_of_getElem? (i := 7) rfl)) (by decide) (rmInit l Z a0 hw [] h3 n0 a3 t cnt g3a A3 (D3 (Or.inr (hw _ (List.mem_of_getElem? (i := 15) rfl))) (ty := (.array .boolean)) (by decide)) (D3 (Or.inr (hw _ (List.mem_of_getElem? (i := 17) rfl))) (ty := .int) (by decide))) (W := 1) (g := (mkF m 191 #[.val (.int sz), .val (.int bits), .val (.int cnt), .val (.int (0 : Int32)), .val (.ref t), .val (.int b0), .val (.int b1), .val (.int b2), .val (.int b3), .val (.int b4), .val (.int b5), .val (.int b6), .unset, .unset, .unset, .unset, .unset] [(.int cnt), (.ref t), (.ref a3), (.ref a3)])) rfl (by rw [hml]; rfl) (a := a3) (argsL := [(.ref t), (.int cnt)]) (rest := [(.ref a3)]) (lenOf pd___ZI_V rfl) rfl rfl (by show 2 * 0 + _ ≤ _; exact Nat.le_of_eq rfl) (hb hby at_191) e3 (by decide) (by decide) (by decide) (by decide)
                  obtain ⟨rfl, N4q, K4, E4, F4a, F4b⟩ := Q4
                  have N4 := Fr.app N1 N4q
                  have V4 := (V2.ext E3).keep K4 (ninS ne3 nin0)
                  refine own_go st4 ?_
                  show own_R p.tables e below _ T4 (mkF m 194 #[.val (.int sz), .val (.int bits), .val (.int cnt), .val (.int (0 : Int32)), .val (.ref t), .val (.int b0), .val (.int b1), .val (.int b2), .val (.int b3), .val (.int b4), .val (.int b5), .val (.int b6), .unset, .unset, .unset, .unset, .unset] [(.ref a3)])
                  obtain ⟨v5, T5, L5, X5, Q5, st5⟩ := own_callV X4 hx hZ hown (y := (⟨"com/example/kookaburra/kookaburra/eval/Ranking", "reciprocalRank", "()D"⟩ : MethodName)) (hw _ (List.mem_of_getElem? (i := 18) rfl)) (hw _ (List.mem_of_getElem? (i := 19) rfl)) (hw _ (List.mem_of_getElem? (i := 21) rfl)) (hw _ (List.mem_of_getElem? (i := 20) rfl)) (hw _ (List.mem_of_getElem? (i := 22) rfl)) (hw _ (List.mem_of_getElem? (i := 7) rfl)) (by decide) (rmRR l Z a0 hw [] T4.heap n0 a3 t ([] : List Int32) (Nat.le_of_ble_eq_true rfl) F4a V4) E4 (W := 0) (g := (mkF m 194 #[.val (.int sz), .val (.int bits), .val (.int cnt), .val (.int (0 : Int32)), .val (.ref t), .val (.int b0), .val (.int b1), .val (.int b2), .val (.int b3), .val (.int b4), .val (.int b5), .val (.int b6), .unset, .unset, .unset, .unset, .unset] [(.ref a3)])) rfl (by rw [hml]; rfl) (b := a3) (argsL := []) (rest := []) (lenOf pd___D rfl) rfl rfl (by show 2 * 0 + _ ≤ _; exact Nat.le_of_eq rfl) (hb hby at_194) rfl (by decide) (by decide) (by decide) (by decide)
                  obtain ⟨rfl, N5q, e5⟩ := Q5
                  have N5 := Fr.app N4 N5q
                  refine own_go st5 ?_
                  show own_R p.tables e below _ T5 (mkF m 197 #[.val (.int sz), .val (.int bits), .val (.int cnt), .val (.int (0 : Int32)), .val (.ref t), .val (.int b0), .val (.int b1), .val (.int b2), .val (.int b3), .val (.int b4), .val (.int b5), .val (.int b6), .unset, .unset, .unset, .unset, .unset] [(.double (own_rr [] 1))])
                  obtain ⟨xx, hxx⟩ : ∃ z, own_rr [] 1 = z := ⟨_, rfl⟩
                  rw [hxx]
                  show own_R p.tables e below _ T5 (mkF m 197 #[.val (.int sz), .val (.int bits), .val (.int cnt), .val (.int (0 : Int32)), .val (.ref t), .val (.int b0), .val (.int b1), .val (.int b2), .val (.int b3), .val (.int b4), .val (.int b5), .val (.int b6), .unset, .unset, .unset, .unset, .unset] [(.double xx)])
                  refine own_go (fun _ => XS.dstore X5.here hx rfl (hb hby at_197) rfl (l' := #[.val (.int sz), .val (.int bits), .val (.int cnt), .val (.int (0 : Int32)), .val (.ref t), .val (.int b0), .val (.int b1), .val (.int b2), .val (.int b3), .val (.int b4), .val (.int b5), .val (.int b6), .val (.double xx), .second, .unset, .unset, .unset]) rfl) ?_
                  refine own_go (fun _ => XS.iconst X5.here hx rfl (hb hby at_199)) ?_
                  refine own_go (fun _ => XS.istore X5.here hx rfl (hb hby at_200) rfl (l' := #[.val (.int sz), .val (.int bits), .val (.int cnt), .val (.int (0 : Int32)), .val (.ref t), .val (.int b0), .val (.int b1), .val (.int b2), .val (.int b3), .val (.int b4), .val (.int b5), .val (.int b6), .val (.double xx), .second, .val (.int (0 : Int32)), .unset, .unset]) rfl) ?_
                  show own_R p.tables e below _ T5 (mkF m 202 #[.val (.int sz), .val (.int bits), .val (.int cnt), .val (.int (0 : Int32)), .val (.ref t), .val (.int b0), .val (.int b1), .val (.int b2), .val (.int b3), .val (.int b4), .val (.int b5), .val (.int b6), .val (.double xx), .second, .val (.int (0 : Int32)), .unset, .unset] [])
                  have JT : ∀ f : Int32, xx = own_fx f → Jvm.Free.Fl.NoNaN64 (own_fx f) → own_R p.tables e below (own_E s below (own_Q0 n0) (room_1).cells (room_1).slots) T5 (mkF m 313 #[.val (.int sz), .val (.int bits), .val (.int cnt), .val (.int (0 : Int32)), .val (.ref t), .val (.int b0), .val (.int b1), .val (.int b2), .val (.int b3), .val (.int b4), .val (.int b5), .val (.int b6), .val (.double xx), .second, .val (.int f), .unset, .unset] []) := by
                    intro f hf hnn
                    show own_R p.tables e below _ T5 (mkF m 313 #[.val (.int sz), .val (.int bits), .val (.int cnt), .val (.int (0 : Int32)), .val (.ref t), .val (.int b0), .val (.int b1), .val (.int b2), .val (.int b3), .val (.int b4), .val (.int b5), .val (.int b6), .val (.double xx), .second, .val (.int f), .unset, .unset] [])
                    refine own_go (fun _ => XS.iload X5.here hx rfl (hb hby at_313) rfl ) ?_
                    show own_R p.tables e below _ T5 (mkF m 315 #[.val (.int sz), .val (.int bits), .val (.int cnt), .val (.int (0 : Int32)), .val (.ref t), .val (.int b0), .val (.int b1), .val (.int b2), .val (.int b3), .val (.int b4), .val (.int b5), .val (.int b6), .val (.double xx), .second, .val (.int f), .unset, .unset] [(.int f)])
                    by_cases hf0 : f = (0 : Int32)
                    · show own_R p.tables e below _ T5 (mkF m 315 #[.val (.int sz), .val (.int bits), .val (.int cnt), .val (.int (0 : Int32)), .val (.ref t), .val (.int b0), .val (.int b1), .val (.int b2), .val (.int b3), .val (.int b4), .val (.int b5), .val (.int b6), .val (.double xx), .second, .val (.int f), .unset, .unset] [(.int f)])
                      refine own_go (fun _ => XS.ifNo X5.here hx rfl (hb hby at_315) rfl ((if0 _ _).trans (teq hf0).2)) ?_
                      show own_R p.tables e below _ T5 (mkF m 318 #[.val (.int sz), .val (.int bits), .val (.int cnt), .val (.int (0 : Int32)), .val (.ref t), .val (.int b0), .val (.int b1), .val (.int b2), .val (.int b3), .val (.int b4), .val (.int b5), .val (.int b6), .val (.double xx), .second, .val (.int f), .unset, .unset] [])
                      have hfx : own_fx f = FP.dconst0 := if_pos hf0
                      rw [hfx] at hf hnn
                      show own_R p.tables e below _ T5 (mkF m 318 #[.val (.int sz), .val (.int bits), .val (.int cnt), .val (.int (0 : Int32)), .val (.ref t), .val (.int b0), .val (.int b1), .val (.int b2), .val (.int b3), .val (.int b4), .val (.int b5), .val (.int b6), .val (.double xx), .second, .val (.int f), .unset, .unset] [])
                      refine own_go (fun _ => XS.dconst0 X5.here hx rfl (hb hby at_318) rfl) ?_
                      refine own_go (fun _ => XS.goto X5.here hx rfl (pc0 := 319) (pc' := 327) rfl (hb hby at_319) (by decide) (by decide)) ?_
                      refine own_go (fun _ => XS.dstore X5.here hx rfl (hb hby at_327) rfl (l' := #[.val (.int sz), .val (.int bits), .val (.int cnt), .val (.int (0 : Int32)), .val (.ref t), .val (.int b0), .val (.int b1), .val (.int b2), .val (.int b3), .val (.int b4), .val (.int b5), .val (.int b6), .val (.double xx), .second, .val (.int f), .val (.double FP.dconst0), .second]) rfl) ?_
                      refine own_go (fun _ => XS.dload X5.here hx rfl (hb hby at_329) rfl ) ?_
                      show own_R p.tables e below _ T5 (mkF m 331 #[.val (.int sz), .val (.int bits), .val (.int cnt), .val (.int (0 : Int32)), .val (.ref t), .val (.int b0), .val (.int b1), .val (.int b2), .val (.int b3), .val (.int b4), .val (.int b5), .val (.int b6), .val (.double xx), .second, .val (.int f), .val (.double FP.dconst0), .second] [(.double xx)])
                      refine own_go (fun _ => XS.dload X5.here hx rfl (hb hby at_331) rfl ) ?_
                      refine own_go (fun _ => XS.dcmpS X5.here hx rfl (hb hby at_333) rfl rfl) ?_
                      show own_R p.tables e below _ T5 (mkF m 334 #[.val (.int sz), .val (.int bits), .val (.int cnt), .val (.int (0 : Int32)), .val (.ref t), .val (.int b0), .val (.int b1), .val (.int b2), .val (.int b3), .val (.int b4), .val (.int b5), .val (.int b6), .val (.double xx), .second, .val (.int f), .val (.double FP.dconst0), .second] [(.int (cmpValue (FP.dcmp xx FP.dconst0) .l))])
                      refine own_go (fun _ => XS.ifNo X5.here hx rfl (hb hby at_334) rfl ((if0 _ _).trans (teq (by rw [hf]; exact dcmpV_self hnn _)).2)) ?_
                      show own_R p.tables e below _ T5 (mkF m 337 #[.val (.int sz), .val (.int bits), .val (.int cnt), .val (.int (0 : Int32)), .val (.ref t), .val (.int b0), .val (.int b1), .val (.int b2), .val (.int b3), .val (.int b4), .val (.int b5), .val (.int b6), .val (.double xx), .second, .val (.int f), .val (.double FP.dconst0), .second] [])
                      refine own_go (fun _ => XS.iconst X5.here hx rfl (hb hby at_337)) ?_
                      refine own_go (fun _ => XS.goto X5.here hx rfl (pc0 := 338) (pc' := 342) rfl (hb hby at_338) (by decide) (by decide)) ?_
                      show own_R p.tables e below _ T5 (mkF m 342 #[.val (.int sz), .val (.int bits), .val (.int cnt), .val (.int (0 : Int32)), .val (.ref t), .val (.int b0), .val (.int b1), .val (.int b2), .val (.int b3), .val (.int b4), .val (.int b5), .val (.int b6), .val (.double xx), .second, .val (.int f), .val (.double FP.dconst0), .second] [(.int (1 : Int32))])
                      exact own_end X5 (some (.int (1 : Int32))) (fun h => by rw [hret] at h; cases h) hlk (fun fs hr => retN X5 hx (t := .boolean) hret (by simp) (hb hby at_342) hr) ⟨rfl, N5⟩ (by decide) (by decide)
                    · show own_R p.tables e below _ T5 (mkF m 315 #[.val (.int sz), .val (.int bits), .val (.int cnt), .val (.int (0 : Int32)), .val (.ref t), .val (.int b0), .val (.int b1), .val (.int b2), .val (.int b3), .val (.int b4), .val (.int b5), .val (.int b6), .val (.double xx), .second, .val (.int f), .unset, .unset] [(.int f)])
                      refine own_go (fun _ => XS.ifYes X5.here hx rfl (pc0 := 315) (pc' := 322) rfl (hb hby at_315) rfl ((if0 _ _).trans (feq hf0).2) (by decide) (by decide)) ?_
                      show own_R p.tables e below _ T5 (mkF m 322 #[.val (.int sz), .val (.int bits), .val (.int cnt), .val (.int (0 : Int32)), .val (.ref t), .val (.int b0), .val (.int b1), .val (.int b2), .val (.int b3), .val (.int b4), .val (.int b5), .val (.int b6), .val (.double xx), .second, .val (.int f), .unset, .unset] [])
                      have hfx : own_fx f = FP.ddiv FP.dconst1 (FP.i2d f) := if_neg hf0
                      rw [hfx] at hf hnn
                      show own_R p.tables e below _ T5 (mkF m 322 #[.val (.int sz), .val (.int bits), .val (.int cnt), .val (.int (0 : Int32)), .val (.ref t), .val (.int b0), .val (.int b1), .val (.int b2), .val (.int b3), .val (.int b4), .val (.int b5), .val (.int b6), .val (.double xx), .second, .val (.int f), .unset, .unset] [])
                      refine own_go (fun _ => XS.dconst1 X5.here hx rfl (hb hby at_322) rfl) ?_
                      refine own_go (fun _ => XS.iload X5.here hx rfl (hb hby at_323) rfl ) ?_
                      refine own_go (fun _ => XS.i2dS X5.here hx rfl (hb hby at_325) rfl rfl) ?_
                      refine own_go (fun _ => XS.ddivS X5.here hx rfl (hb hby at_326) rfl hnn rfl) ?_
                      show own_R p.tables e below _ T5 (mkF m 327 #[.val (.int sz), .val (.int bits), .val (.int cnt), .val (.int (0 : Int32)), .val (.ref t), .val (.int b0), .val (.int b1), .val (.int b2), .val (.int b3), .val (.int b4), .val (.int b5), .val (.int b6), .val (.double xx), .second, .val (.int f), .unset, .unset] [(.double (FP.ddiv FP.dconst1 (FP.i2d f)))])
                      refine own_go (fun _ => XS.dstore X5.here hx rfl (hb hby at_327) rfl (l' := #[.val (.int sz), .val (.int bits), .val (.int cnt), .val (.int (0 : Int32)), .val (.ref t), .val (.int b0), .val (.int b1), .val (.int b2), .val (.int b3), .val (.int b4), .val (.int b5), .val (.int b6), .val (.double xx), .second, .val (.int f), .val (.double (FP.ddiv FP.dconst1 (FP.i2d f))), .second]) rfl) ?_
                      refine own_go (fun _ => XS.dload X5.here hx rfl (hb hby at_329) rfl ) ?_
                      refine own_go (fun _ => XS.dload X5.here hx rfl (hb hby at_331) rfl ) ?_
                      refine own_go (fun _ => XS.dcmpS X5.here hx rfl (hb hby at_333) rfl rfl) ?_
                      show own_R p.tables e below _ T5 (mkF m 334 #[.val (.int sz), .val (.int bits), .val (.int cnt), .val (.int (0 : Int32)), .val (.ref t), .val (.int b0), .val (.int b1), .val (.int b2), .val (.int b3), .val (.int b4), .val (.int b5), .val (.int b6), .val (.double xx), .second, .val (.int f), .val (.double (FP.ddiv FP.dconst1 (FP.i2d f))), .second] [(.int (cmpValue (FP.dcmp xx (FP.ddiv FP.dconst1 (FP.i2d f))) .l))])
                      refine own_go (fun _ => XS.ifNo X5.here hx rfl (hb hby at_334) rfl ((if0 _ _).trans (teq (by rw [hf]; exact dcmpV_self hnn _)).2)) ?_
                      show own_R p.tables e below _ T5 (mkF m 337 #[.val (.int sz), .val (.int bits), .val (.int cnt), .val (.int (0 : Int32)), .val (.ref t), .val (.int b0), .val (.int b1), .val (.int b2), .val (.int b3), .val (.int b4), .val (.int b5), .val (.int b6), .val (.double xx), .second, .val (.int f), .val (.double (FP.ddiv FP.dconst1 (FP.i2d f))), .second] [])
                      refine own_go (fun _ => XS.iconst X5.here hx rfl (hb hby at_337)) ?_
                      refine own_go (fun _ => XS.goto X5.here hx rfl (pc0 := 338) (pc' := 342) rfl (hb hby at_338) (by decide) (by decide)) ?_
                      show own_R p.tables e below _ T5 (mkF m 342 #[.val (.int sz), .val (.int bits), .val (.int cnt), .val (.int (0 : Int32)), .val (.ref t), .val (.int b0), .val (.int b1), .val (.int b2), .val (.int b3), .val (.int b4), .val (.int b5), .val (.int b6), .val (.double xx), .second, .val (.int f), .val (.double (FP.ddiv FP.dconst1 (FP.i2d f))), .second] [(.int (1 : Int32))])
                      exact own_end X5 (some (.int (1 : Int32))) (fun h => by rw [hret] at h; cases h) hlk (fun fs hr => retN X5 hx (t := .boolean) hret (by simp) (hb hby at_342) hr) ⟨rfl, N5⟩ (by decide) (by decide)
                  refine own_go (fun _ => XS.iloadN X5.here hx rfl (hb hby at_202) rfl ) ?_
                  show own_R p.tables e below _ T5 (mkF m 203 #[.val (.int sz), .val (.int bits), .val (.int cnt), .val (.int (0 : Int32)), .val (.ref t), .val (.int b0), .val (.int b1), .val (.int b2), .val (.int b3), .val (.int b4), .val (.int b5), .val (.int b6), .val (.double xx), .second, .val (.int (0 : Int32)), .unset, .unset] [(.int (0 : Int32))])
                  refine own_go (fun _ => XS.ifYes X5.here hx rfl (pc0 := 203) (pc' := 217) rfl (hb hby at_203) rfl ((if0 _ _).trans (flt (by decide)).2.2.2) (by decide) (by decide)) ?_
                  show own_R p.tables e below _ T5 (mkF m 217 #[.val (.int sz), .val (.int bits), .val (.int cnt), .val (.int (0 : Int32)), .val (.ref t), .val (.int b0), .val (.int b1), .val (.int b2), .val (.int b3), .val (.int b4), .val (.int b5), .val (.int b6), .val (.double xx), .second, .val (.int (0 : Int32)), .unset, .unset] [])
                  refine own_go (fun _ => XS.iloadN X5.here hx rfl (hb hby at_217) rfl ) ?_
                  show own_R p.tables e below _ T5 (mkF m 218 #[.val (.int sz), .val (.int bits), .val (.int cnt), .val (.int (0 : Int32)), .val (.ref t), .val (.int b0), .val (.int b1), .val (.int b2), .val (.int b3), .val (.int b4), .val (.int b5), .val (.int b6), .val (.double xx), .second, .val (.int (0 : Int32)), .unset, .unset] [(.int (0 : Int32))])
                  refine own_go (fun _ => XS.iconst X5.here hx rfl (hb hby at_218)) ?_
                  show own_R p.tables e below _ T5 (mkF m 219 #[.val (.int sz), .val (.int bits), .val (.int cnt), .val (.int (0 : Int32)), .val (.ref t), .val (.int b0), .val (.int b1), .val (.int b2), .val (.int b3), .val (.int b4), .val (.int b5), .val (.int b6), .val (.double xx), .second, .val (.int (0 : Int32)), .unset, .unset] [(.int (1 : Int32)), (.int (0 : Int32))])
                  refine own_go (fun _ => XS.icmpYes X5.here hx rfl (pc0 := 219) (pc' := 233) rfl (hb hby at_219) rfl (flt (by decide)).2.2.2 (by decide) (by decide)) ?_
                  show own_R p.tables e below _ T5 (mkF m 233 #[.val (.int sz), .val (.int bits), .val (.int cnt), .val (.int (0 : Int32)), .val (.ref t), .val (.int b0), .val (.int b1), .val (.int b2), .val (.int b3), .val (.int b4), .val (.int b5), .val (.int b6), .val (.double xx), .second, .val (.int (0 : Int32)), .unset, .unset] [])
                  refine own_go (fun _ => XS.iloadN X5.here hx rfl (hb hby at_233) rfl ) ?_
                  show own_R p.tables e below _ T5 (mkF m 234 #[.val (.int sz), .val (.int bits), .val (.int cnt), .val (.int (0 : Int32)), .val (.ref t), .val (.int b0), .val (.int b1), .val (.int b2), .val (.int b3), .val (.int b4), .val (.int b5), .val (.int b6), .val (.double xx), .second, .val (.int (0 : Int32)), .unset, .unset] [(.int (0 : Int32))])
                  refine own_go (fun _ => XS.iconst X5.here hx rfl (hb hby at_234)) ?_
                  show own_R p.tables e below _ T5 (mkF m 235 #[.val (.int sz), .val (.int bits), .val (.int cnt), .val (.int (0 : Int32)), .val (.ref t), .val (.int b0), .val (.int b1), .val (.int b2), .val (.int b3), .val (.int b4), .val (.int b5), .val (.int b6), .val (.double xx), .second, .val (.int (0 : Int32)), .unset, .unset] [(.int (2 : Int32)), (.int (0 : Int32))])
                  refine own_go (fun _ => XS.icmpYes X5.here hx rfl (pc0 := 235) (pc' := 249) rfl (hb hby at_235) rfl (flt (by decide)).2.2.2 (by decide) (by decide)) ?_
                  show own_R p.tables e below _ T5 (mkF m 249 #[.val (.int sz), .val (.int bits), .val (.int cnt), .val (.int (0 : Int32)), .val (.ref t), .val (.int b0), .val (.int b1), .val (.int b2), .val (.int b3), .val (.int b4), .val (.int b5), .val (.int b6), .val (.double xx), .second, .val (.int (0 : Int32)), .unset, .unset] [])
                  refine own_go (fun _ => XS.iloadN X5.here hx rfl (hb hby at_249) rfl ) ?_
                  show own_R p.tables e below _ T5 (mkF m 250 #[.val (.int sz), .val (.int bits), .val (.int cnt), .val (.int (0 : Int32)), .val (.ref t), .val (.int b0), .val (.int b1), .val (.int b2), .val (.int b3), .val (.int b4), .val (.int b5), .val (.int b6), .val (.double xx), .second, .val (.int (0 : Int32)), .unset, .unset] [(.int (0 : Int32))])
                  refine own_go (fun _ => XS.iconst X5.here hx rfl (hb hby at_250)) ?_
                  show own_R p.tables e below _ T5 (mkF m 251 #[.val (.int sz), .val (.int bits), .val (.int cnt), .val (.int (0 : Int32)), .val (.ref t), .val (.int b0), .val (.int b1), .val (.int b2), .val (.int b3), .val (.int b4), .val (.int b5), .val (.int b6), .val (.double xx), .second, .val (.int (0 : Int32)), .unset, .unset] [(.int (3 : Int32)), (.int (0 : Int32))])
                  refine own_go (fun _ => XS.icmpYes X5.here hx rfl (pc0 := 251) (pc' := 265) rfl (hb hby at_251) rfl (flt (by decide)).2.2.2 (by decide) (by decide)) ?_
                  show own_R p.tables e below _ T5 (mkF m 265 #[.val (.int sz), .val (.int bits), .val (.int cnt), .val (.int (0 : Int32)), .val (.ref t), .val (.int b0), .val (.int b1), .val (.int b2), .val (.int b3), .val (.int b4), .val (.int b5), .val (.int b6), .val (.double xx), .second, .val (.int (0 : Int32)), .unset, .unset] [])
                  refine own_go (fun _ => XS.iloadN X5.here hx rfl (hb hby at_265) rfl ) ?_
                  show own_R p.tables e below _ T5 (mkF m 266 #[.val (.int sz), .val (.int bits), .val (.int cnt), .val (.int (0 : Int32)), .val (.ref t), .val (.int b0), .val (.int b1), .val (.int b2), .val (.int b3), .val (.int b4), .val (.int b5), .val (.int b6), .val (.double xx), .second, .val (.int (0 : Int32)), .unset, .unset] [(.int (0 : Int32))])
                  refine own_go (fun _ => XS.iconst X5.here hx rfl (hb hby at_266)) ?_
                  show own_R p.tables e below _ T5 (mkF m 267 #[.val (.int sz), .val (.int bits), .val (.int cnt), .val (.int (0 : Int32)), .val (.ref t), .val (.int b0), .val (.int b1), .val (.int b2), .val (.int b3), .val (.int b4), .val (.int b5), .val (.int b6), .val (.double xx), .second, .val (.int (0 : Int32)), .unset, .unset] [(.int (4 : Int32)), (.int (0 : Int32))])
                  refine own_go (fun _ => XS.icmpYes X5.here hx rfl (pc0 := 267) (pc' := 281) rfl (hb hby at_267) rfl (flt (by decide)).2.2.2 (by decide) (by decide)) ?_
                  show own_R p.tables e below _ T5 (mkF m 281 #[.val (.int sz), .val (.int bits), .val (.int cnt), .val (.int (0 : Int32)), .val (.ref t), .val (.int b0), .val (.int b1), .val (.int b2), .val (.int b3), .val (.int b4), .val (.int b5), .val (.int b6), .val (.double xx), .second, .val (.int (0 : Int32)), .unset, .unset] [])
                  refine own_go (fun _ => XS.iloadN X5.here hx rfl (hb hby at_281) rfl ) ?_
                  show own_R p.tables e below _ T5 (mkF m 282 #[.val (.int sz), .val (.int bits), .val (.int cnt), .val (.int (0 : Int32)), .val (.ref t), .val (.int b0), .val (.int b1), .val (.int b2), .val (.int b3), .val (.int b4), .val (.int b5), .val (.int b6), .val (.double xx), .second, .val (.int (0 : Int32)), .unset, .unset] [(.int (0 : Int32))])
                  refine own_go (fun _ => XS.iconst X5.here hx rfl (hb hby at_282)) ?_
                  show own_R p.tables e below _ T5 (mkF m 283 #[.val (.int sz), .val (.int bits), .val (.int cnt), .val (.int (0 : Int32)), .val (.ref t), .val (.int b0), .val (.int b1), .val (.int b2), .val (.int b3), .val (.int b4), .val (.int b5), .val (.int b6), .val (.double xx), .second, .val (.int (0 : Int32)), .unset, .unset] [(.int (5 : Int32)), (.int (0 : Int32))])
                  refine own_go (fun _ => XS.icmpYes X5.here hx rfl (pc0 := 283) (pc' := 298) rfl (hb hby at_283) rfl (flt (by decide)).2.2.2 (by decide) (by decide)) ?_
                  show own_R p.tables e below _ T5 (mkF m 298 #[.val (.int sz), .val (.int bits), .val (.int cnt), .val (.int (0 : Int32)), .val (.ref t), .val (.int b0), .val (.int b1), .val (.int b2), .val (.int b3), .val (.int b4), .val (.int b5), .val (.int b6), .val (.double xx), .second, .val (.int (0 : Int32)), .unset, .unset] [])
                  refine own_go (fun _ => XS.iloadN X5.here hx rfl (hb hby at_298) rfl ) ?_
                  show own_R p.tables e below _ T5 (mkF m 299 #[.val (.int sz), .val (.int bits), .val (.int cnt), .val (.int (0 : Int32)), .val (.ref t), .val (.int b0), .val (.int b1), .val (.int b2), .val (.int b3), .val (.int b4), .val (.int b5), .val (.int b6), .val (.double xx), .second, .val (.int (0 : Int32)), .unset, .unset] [(.int (0 : Int32))])
                  refine own_go (fun _ => XS.bipush X5.here hx rfl (hb hby at_299)) ?_
                  show own_R p.tables e below _ T5 (mkF m 301 #[.val (.int sz), .val (.int bits), .val (.int cnt), .val (.int (0 : Int32)), .val (.ref t), .val (.int b0), .val (.int b1), .val (.int b2), .val (.int b3), .val (.int b4), .val (.int b5), .val (.int b6), .val (.double xx), .second, .val (.int (0 : Int32)), .unset, .unset] [(.int (6 : Int32)), (.int (0 : Int32))])
                  refine own_go (fun _ => XS.icmpYes X5.here hx rfl (pc0 := 301) (pc' := 313) rfl (hb hby at_301) rfl (flt (by decide)).2.2.2 (by decide) (by decide)) ?_
                  show own_R p.tables e below _ T5 (mkF m 313 #[.val (.int sz), .val (.int bits), .val (.int cnt), .val (.int (0 : Int32)), .val (.ref t), .val (.int b0), .val (.int b1), .val (.int b2), .val (.int b3), .val (.int b4), .val (.int b5), .val (.int b6), .val (.double xx), .second, .val (.int (0 : Int32)), .unset, .unset] [])
                  exact JT 0 (hxx.symm.trans (by simp [own_rr, own_fx])) (own_fn 0)
                · show own_R p.tables e below _ T1 (mkF m 106 #[.val (.int sz), .val (.int bits), .val (.int cnt), .val (.int (1 : Int32)), .val (.ref t), .val (.int b0), .val (.int b1), .val (.int b2), .val (.int b3), .val (.int b4), .val (.int b5), .val (.int b6), .unset, .unset, .unset, .unset, .unset] [])
                  have V2 := V1.pad (pad_rep [] (.int 0) 1)
                  have g1a : n0 ≤ t := Nat.le_trans Z0 q1
                  refine own_go (fun _ => XS.iloadN X1.here hx rfl (hb hby at_106) rfl ) ?_
                  show own_R p.tables e below _ T1 (mkF m 107 #[.val (.int sz), .val (.int bits), .val (.int cnt), .val (.int (1 : Int32)), .val (.ref t), .val (.int b0), .val (.int b1), .val (.int b2), .val (.int b3), .val (.int b4), .val (.int b5), .val (.int b6), .unset, .unset, .unset, .unset, .unset] [(.int (1 : Int32))])
                  refine own_go (fun _ => XS.ifNo X1.here hx rfl (hb hby at_107) rfl ((if0 _ _).trans (tlt (by decide)).2.2.2)) ?_
                  show own_R p.tables e below _ T1 (mkF m 110 #[.val (.int sz), .val (.int bits), .val (.int cnt), .val (.int (1 : Int32)), .val (.ref t), .val (.int b0), .val (.int b1), .val (.int b2), .val (.int b3), .val (.int b4), .val (.int b5), .val (.int b6), .unset, .unset, .unset, .unset, .unset] [])
                  refine own_go (fun _ => XS.aload X1.here hx rfl (hb hby at_110) rfl rfl) ?_
                  show own_R p.tables e below _ T1 (mkF m 112 #[.val (.int sz), .val (.int bits), .val (.int cnt), .val (.int (1 : Int32)), .val (.ref t), .val (.int b0), .val (.int b1), .val (.int b2), .val (.int b3), .val (.int b4), .val (.int b5), .val (.int b6), .unset, .unset, .unset, .unset, .unset] [(.ref t)])
                  refine own_go (fun _ => XS.iconst X1.here hx rfl (hb hby at_112)) ?_
                  show own_R p.tables e below _ T1 (mkF m 113 #[.val (.int sz), .val (.int bits), .val (.int cnt), .val (.int (1 : Int32)), .val (.ref t), .val (.int b0), .val (.int b1), .val (.int b2), .val (.int b3), .val (.int b4), .val (.int b5), .val (.int b6), .unset, .unset, .unset, .unset, .unset] [(.int (0 : Int32)), (.ref t)])
                  refine own_go (fun _ => XS.iload X1.here hx rfl (hb hby at_113) rfl ) ?_
                  show own_R p.tables e below _ T1 (mkF m 115 #[.val (.int sz), .val (.int bits), .val (.int cnt), .val (.int (1 : Int32)), .val (.ref t), .val (.int b0), .val (.int b1), .val (.int b2), .val (.int b3), .val (.int b4), .val (.int b5), .val (.int b6), .unset, .unset, .unset, .unset, .unset] [(.int b0), (.int (0 : Int32)), (.ref t)])
                  obtain ⟨Ts0, hs0, Xs0, es0, Ws0, Vs0, sts0⟩ := own_stZ X1 hx hZ rfl V2 (j := (0 : Int32)) ⟨by decide, by decide⟩ 0 rfl (Nat.le_of_ble_eq_true rfl) hb0 (g := (mkF m 115 #[.val (.int sz), .val (.int bits), .val (.int cnt), .val (.int (1 : Int32)), .val (.ref t), .val (.int b0), .val (.int b1), .val (.int b2), .val (.int b3), .val (.int b4), .val (.int b5), .val (.int b6), .unset, .unset, .unset, .unset, .unset] [(.int b0), (.int (0 : Int32)), (.ref t)])) rfl rfl (hb hby at_115)
                  have Ks0 : Keep h0 hs0 [] := K1.wr Ws0 (Or.inr q1)
                  have Ns0 := Fr.snoc Xs0 N1 g1a
                  refine own_go sts0 ?_
                  show own_R p.tables e below _ Ts0 (mkF m 116 #[.val (.int sz), .val (.int bits), .val (.int cnt), .val (.int (1 : Int32)), .val (.ref t), .val (.int b0), .val (.int b1), .val (.int b2), .val (.int b3), .val (.int b4), .val (.int b5), .val (.int b6), .unset, .unset, .unset, .unset, .unset] [])
                  refine own_go (fun _ => XS.iloadN Xs0.here hx rfl (hb hby at_116) rfl ) ?_
                  show own_R p.tables e below _ Ts0 (mkF m 117 #[.val (.int sz), .val (.int bits), .val (.int cnt), .val (.int (1 : Int32)), .val (.ref t), .val (.int b0), .val (.int b1), .val (.int b2), .val (.int b3), .val (.int b4), .val (.int b5), .val (.int b6), .unset, .unset, .unset, .unset, .unset] [(.int (1 : Int32))])
                  refine own_go (fun _ => XS.iconst Xs0.here hx rfl (hb hby at_117)) ?_
                  show own_R p.tables e below _ Ts0 (mkF m 118 #[.val (.int sz), .val (.int bits), .val (.int cnt), .val (.int (1 : Int32)), .val (.ref t), .val (.int b0), .val (.int b1), .val (.int b2), .val (.int b3), .val (.int b4), .val (.int b5), .val (.int b6), .unset, .unset, .unset, .unset, .unset] [(.int (1 : Int32)), (.int (1 : Int32))])
                  refine own_go (fun _ => XS.icmpYes Xs0.here hx rfl (pc0 := 118) (pc' := 127) rfl (hb hby at_118) rfl (flt (by decide)).2.2.2 (by decide) (by decide)) ?_
                  show own_R p.tables e below _ Ts0 (mkF m 127 #[.val (.int sz), .val (.int bits), .val (.int cnt), .val (.int (1 : Int32)), .val (.ref t), .val (.int b0), .val (.int b1), .val (.int b2), .val (.int b3), .val (.int b4), .val (.int b5), .val (.int b6), .unset, .unset, .unset, .unset, .unset] [])
                  refine own_go (fun _ => XS.iloadN Xs0.here hx rfl (hb hby at_127) rfl ) ?_
                  show own_R p.tables e below _ Ts0 (mkF m 128 #[.val (.int sz), .val (.int bits), .val (.int cnt), .val (.int (1 : Int32)), .val (.ref t), .val (.int b0), .val (.int b1), .val (.int b2), .val (.int b3), .val (.int b4), .val (.int b5), .val (.int b6), .unset, .unset, .unset, .unset, .unset] [(.int (1 : Int32))])
                  refine own_go (fun _ => XS.iconst Xs0.here hx rfl (hb hby at_128)) ?_
                  show own_R p.tables e below _ Ts0 (mkF m 129 #[.val (.int sz), .val (.int bits), .val (.int cnt), .val (.int (1 : Int32)), .val (.ref t), .val (.int b0), .val (.int b1), .val (.int b2), .val (.int b3), .val (.int b4), .val (.int b5), .val (.int b6), .unset, .unset, .unset, .unset, .unset] [(.int (2 : Int32)), (.int (1 : Int32))])
                  refine own_go (fun _ => XS.icmpYes Xs0.here hx rfl (pc0 := 129) (pc' := 138) rfl (hb hby at_129) rfl (flt (by decide)).2.2.2 (by decide) (by decide)) ?_
                  show own_R p.tables e below _ Ts0 (mkF m 138 #[.val (.int sz), .val (.int bits), .val (.int cnt), .val (.int (1 : Int32)), .val (.ref t), .val (.int b0), .val (.int b1), .val (.int b2), .val (.int b3), .val (.int b4), .val (.int b5), .val (.int b6), .unset, .unset, .unset, .unset, .unset] [])
                  refine own_go (fun _ => XS.iloadN Xs0.here hx rfl (hb hby at_138) rfl ) ?_
                  show own_R p.tables e below _ Ts0 (mkF m 139 #[.val (.int sz), .val (.int bits), .val (.int cnt), .val (.int (1 : Int32)), .val (.ref t), .val (.int b0), .val (.int b1), .val (.int b2), .val (.int b3), .val (.int b4), .val (.int b5), .val (.int b6), .unset, .unset, .unset, .unset, .unset] [(.int (1 : Int32))])
                  refine own_go (fun _ => XS.iconst Xs0.here hx rfl (hb hby at_139)) ?_
                  show own_R p.tables e below _ Ts0 (mkF m 140 #[.val (.int sz), .val (.int bits), .val (.int cnt), .val (.int (1 : Int32)), .val (.ref t), .val (.int b0), .val (.int b1), .val (.int b2), .val (.int b3), .val (.int b4), .val (.int b5), .val (.int b6), .unset, .unset, .unset, .unset, .unset] [(.int (3 : Int32)), (.int (1 : Int32))])
                  refine own_go (fun _ => XS.icmpYes Xs0.here hx rfl (pc0 := 140) (pc' := 149) rfl (hb hby at_140) rfl (flt (by decide)).2.2.2 (by decide) (by decide)) ?_
                  show own_R p.tables e below _ Ts0 (mkF m 149 #[.val (.int sz), .val (.int bits), .val (.int cnt), .val (.int (1 : Int32)), .val (.ref t), .val (.int b0), .val (.int b1), .val (.int b2), .val (.int b3), .val (.int b4), .val (.int b5), .val (.int b6), .unset, .unset, .unset, .unset, .unset] [])
                  refine own_go (fun _ => XS.iloadN Xs0.here hx rfl (hb hby at_149) rfl ) ?_
                  show own_R p.tables e below _ Ts0 (mkF m 150 #[.val (.int sz), .val (.int bits), .val (.int cnt), .val (.int (1 : Int32)), .val (.ref t), .val (.int b0), .val (.int b1), .val (.int b2), .val (.int b3), .val (.int b4), .val (.int b5), .val (.int b6), .unset, .unset, .unset, .unset, .unset] [(.int (1 : Int32))])
                  refine own_go (fun _ => XS.iconst Xs0.here hx rfl (hb hby at_150)) ?_
                  show own_R p.tables e below _ Ts0 (mkF m 151 #[.val (.int sz), .val (.int bits), .val (.int cnt), .val (.int (1 : Int32)), .val (.ref t), .val (.int b0), .val (.int b1), .val (.int b2), .val (.int b3), .val (.int b4), .val (.int b5), .val (.int b6), .unset, .unset, .unset, .unset, .unset] [(.int (4 : Int32)), (.int (1 : Int32))])
                  refine own_go (fun _ => XS.icmpYes Xs0.here hx rfl (pc0 := 151) (pc' := 160) rfl (hb hby at_151) rfl (flt (by decide)).2.2.2 (by decide) (by decide)) ?_
                  show own_R p.tables e below _ Ts0 (mkF m 160 #[.val (.int sz), .val (.int bits), .val (.int cnt), .val (.int (1 : Int32)), .val (.ref t), .val (.int b0), .val (.int b1), .val (.int b2), .val (.int b3), .val (.int b4), .val (.int b5), .val (.int b6), .unset, .unset, .unset, .unset, .unset] [])
                  refine own_go (fun _ => XS.iloadN Xs0.here hx rfl (hb hby at_160) rfl ) ?_
                  show own_R p.tables e below _ Ts0 (mkF m 161 #[.val (.int sz), .val (.int bits), .val (.int cnt), .val (.int (1 : Int32)), .val (.ref t), .val (.int b0), .val (.int b1), .val (.int b2), .val (.int b3), .val (.int b4), .val (.int b5), .val (.int b6), .unset, .unset, .unset, .unset, .unset] [(.int (1 : Int32))])
                  refine own_go (fun _ => XS.iconst Xs0.here hx rfl (hb hby at_161)) ?_
                  show own_R p.tables e below _ Ts0 (mkF m 162 #[.val (.int sz), .val (.int bits), .val (.int cnt), .val (.int (1 : Int32)), .val (.ref t), .val (.int b0), .val (.int b1), .val (.int b2), .val (.int b3), .val (.int b4), .val (.int b5), .val (.int b6), .unset, .unset, .unset, .unset, .unset] [(.int (5 : Int32)), (.int (1 : Int32))])
                  refine own_go (fun _ => XS.icmpYes Xs0.here hx rfl (pc0 := 162) (pc' := 171) rfl (hb hby at_162) rfl (flt (by decide)).2.2.2 (by decide) (by decide)) ?_
                  show own_R p.tables e below _ Ts0 (mkF m 171 #[.val (.int sz), .val (.int bits), .val (.int cnt), .val (.int (1 : Int32)), .val (.ref t), .val (.int b0), .val (.int b1), .val (.int b2), .val (.int b3), .val (.int b4), .val (.int b5), .val (.int b6), .unset, .unset, .unset, .unset, .unset] [])
                  refine own_go (fun _ => XS.iloadN Xs0.here hx rfl (hb hby at_171) rfl ) ?_
                  show own_R p.tables e below _ Ts0 (mkF m 172 #[.val (.int sz), .val (.int bits), .val (.int cnt), .val (.int (1 : Int32)), .val (.ref t), .val (.int b0), .val (.int b1), .val (.int b2), .val (.int b3), .val (.int b4), .val (.int b5), .val (.int b6), .unset, .unset, .unset, .unset, .unset] [(.int (1 : Int32))])
                  refine own_go (fun _ => XS.bipush Xs0.here hx rfl (hb hby at_172)) ?_
                  show own_R p.tables e below _ Ts0 (mkF m 174 #[.val (.int sz), .val (.int bits), .val (.int cnt), .val (.int (1 : Int32)), .val (.ref t), .val (.int b0), .val (.int b1), .val (.int b2), .val (.int b3), .val (.int b4), .val (.int b5), .val (.int b6), .unset, .unset, .unset, .unset, .unset] [(.int (6 : Int32)), (.int (1 : Int32))])
                  refine own_go (fun _ => XS.icmpYes Xs0.here hx rfl (pc0 := 174) (pc' := 184) rfl (hb hby at_174) rfl (flt (by decide)).2.2.2 (by decide) (by decide)) ?_
                  show own_R p.tables e below _ Ts0 (mkF m 184 #[.val (.int sz), .val (.int bits), .val (.int cnt), .val (.int (1 : Int32)), .val (.ref t), .val (.int b0), .val (.int b1), .val (.int b2), .val (.int b3), .val (.int b4), .val (.int b5), .val (.int b6), .unset, .unset, .unset, .unset, .unset] [])
                  obtain ⟨T3, h3, X3, e3, E3, A3, D3, -, st3⟩ := newO Xs0 hx hZ hown (hw _ (List.mem_of_getElem? (i := 5) rfl)) (hw _ (List.mem_of_getElem? (i := 6) rfl)) (hw _ (List.mem_of_getElem? (i := 7) rfl)) es0 (g := (mkF m 184 #[.val (.int sz), .val (.int bits), .val (.int cnt), .val (.int (1 : Int32)), .val (.ref t), .val (.int b0), .val (.int b1), .val (.int b2), .val (.int b3), .val (.int b4), .val (.int b5), .val (.int b6), .unset, .unset, .unset, .unset, .unset] [])) rfl (hb hby at_184) (by decide) (by decide)
                  obtain ⟨a3, g3⟩ : ∃ z, z = hs0.size := ⟨_, rfl⟩
                  rw [← g3] at A3 D3 st3
                  refine own_go st3 ?_
                  show own_R p.tables e below _ T3 (mkF m 187 #[.val (.int sz), .val (.int bits), .val (.int cnt), .val (.int (1 : Int32)), .val (.ref t), .val (.int b0), .val (.int b1), .val (.int b2), .val (.int b3), .val (.int b4), .val (.int b5), .val (.int b6), .unset, .unset, .unset, .unset, .unset] [(.ref a3)])
                  refine own_go (fun _ => XS.dup X3.here hx rfl (hb hby at_187) rfl rfl) ?_
                  show own_R p.tables e below _ T3 (mkF m 188 #[.val (.int sz), .val (.int bits), .val (.int cnt), .val (.int (1 : Int32)), .val (.ref t), .val (.int b0), .val (.int b1), .val (.int b2), .val (.int b3), .val (.int b4), .val (.int b5), .val (.int b6), .unset, .unset, .unset, .unset, .unset] [(.ref a3), (.ref a3)])
                  refine own_go (fun _ => XS.aload X3.here hx rfl (hb hby at_188) rfl rfl) ?_
                  show own_R p.tables e below _ T3 (mkF m 190 #[.val (.int sz), .val (.int bits), .val (.int cnt), .val (.int (1 : Int32)), .val (.ref t), .val (.int b0), .val (.int b1), .val (.int b2), .val (.int b3), .val (.int b4), .val (.int b5), .val (.int b6), .unset, .unset, .unset, .unset, .unset] [(.ref t), (.ref a3), (.ref a3)])
                  refine own_go (fun _ => XS.iloadN X3.here hx rfl (hb hby at_190) rfl ) ?_
                  show own_R p.tables e below _ T3 (mkF m 191 #[.val (.int sz), .val (.int bits), .val (.int cnt), .val (.int (1 : Int32)), .val (.ref t), .val (.int b0), .val (.int b1), .val (.int b2), .val (.int b3), .val (.int b4), .val (.int b5), .val (.int b6), .unset, .unset, .unset, .unset, .unset] [(.int cnt), (.ref t), (.ref a3), (.ref a3)])
                  have g3a : n0 ≤ a3 := Nat.le_trans Z0 (Nat.le_trans Ks0.1 (Nat.le_of_eq g3.symm))
                  have ne3 : t ≠ a3 := Nat.ne_of_lt (Nat.lt_of_lt_of_le Vs0.lt (Nat.le_of_eq g3.symm))
                  obtain ⟨v4, T4, L4, X4, Q4, st4⟩ := own_callI X3 hx hZ hown (y := (⟨"com/example/kookaburra/kookaburra/eval/Ranking", "<init>", "([ZI)V"⟩ : MethodName)) rfl (hw _ (List.mem_of_getElem? (i := 8) rfl)) (hw _ (List.mem_of_getElem? (i := 9) rfl)) (hw _ (List.mem_of_getElem? (i := 10) rfl)) (hw _ (List.mem_of_getElem? (i := 7) rfl)) (by decide) (rmInit l Z a0 hw [] h3 n0 a3 t cnt g3a A3 (D3 (Or.inr (hw _ (List.mem_of_getElem? (i := 15) rfl))) (ty := (.array .boolean)) (by decide)) (D3 (Or.inr (hw _ (List.mem_of_getElem? (i := 17) rfl))) (ty := .int) (by decide))) (W := 1) (g := (mkF m 191 #[.val (.int sz), .val (.int bits), .val (.int cnt), .val (.int (1 : Int32)), .val (.ref t), .val (.int b0), .val (.int b1), .val (.int b2), .val (.int b3), .val (.int b4), .val (.int b5), .val (.int b6), .unset, .unset, .unset, .unset, .unset] [(.int cnt), (.ref t), (.ref a3), (.ref a3)])) rfl (by rw [hml]; rfl) (a := a3) (argsL := [(.ref t), (.int cnt)]) (rest := [(.ref a3)]) (lenOf pd___ZI_V rfl) rfl rfl (by show 2 * 0 + _ ≤ _; exact Nat.le_of_eq rfl) (hb hby at_191) e3 (by decide) (by decide) (by decide) (by decide)
                  obtain ⟨rfl, N4q, K4, E4, F4a, F4b⟩ := Q4
                  have N4 := Fr.app Ns0 N4q
                  have V4 := (Vs0.ext E3).keep K4 (ninS ne3 nin0)
                  refine own_go st4 ?_
                  show own_R p.tables e below _ T4 (mkF m 194 #[.val (.int sz), .val (.int bits), .val (.int cnt), .val (.int (1 : Int32)), .val (.ref t), .val (.int b0), .val (.int b1), .val (.int b2), .val (.int b3), .val (.int b4), .val (.int b5), .val (.int b6), .unset, .unset, .unset, .unset, .unset] [(.ref a3)])
                  obtain ⟨v5, T5, L5, X5, Q5, st5⟩ := own_callV X4 hx hZ hown (y := (⟨"com/example/kookaburra/kookaburra/eval/Ranking", "reciprocalRank", "()D"⟩ : MethodName)) (hw _ (List.mem_of_getElem? (i := 18) rfl)) (hw _ (List.mem_of_getElem? (i := 19) rfl)) (hw _ (List.mem_of_getElem? (i := 21) rfl)) (hw _ (List.mem_of_getElem? (i := 20) rfl)) (hw _ (List.mem_of_getElem? (i := 22) rfl)) (hw _ (List.mem_of_getElem? (i := 7) rfl)) (by decide) (rmRR l Z a0 hw [] T4.heap n0 a3 t ([b0] : List Int32) (Nat.le_of_ble_eq_true rfl) F4a V4) E4 (W := 0) (g := (mkF m 194 #[.val (.int sz), .val (.int bits), .val (.int cnt), .val (.int (1 : Int32)), .val (.ref t), .val (.int b0), .val (.int b1), .val (.int b2), .val (.int b3), .val (.int b4), .val (.int b5), .val (.int b6), .unset, .unset, .unset, .unset, .unset] [(.ref a3)])) rfl (by rw [hml]; rfl) (b := a3) (argsL := []) (rest := []) (lenOf pd___D rfl) rfl rfl (by show 2 * 0 + _ ≤ _; exact Nat.le_of_eq rfl) (hb hby at_194) rfl (by decide) (by decide) (by decide) (by decide)
                  obtain ⟨rfl, N5q, e5⟩ := Q5
                  have N5 := Fr.app N4 N5q
                  refine own_go st5 ?_
                  show own_R p.tables e below _ T5 (mkF m 197 #[.val (.int sz), .val (.int bits), .val (.int cnt), .val (.int (1 : Int32)), .val (.ref t), .val (.int b0), .val (.int b1), .val (.int b2), .val (.int b3), .val (.int b4), .val (.int b5), .val (.int b6), .unset, .unset, .unset, .unset, .unset] [(.double (own_rr [b0] 1))])
                  obtain ⟨xx, hxx⟩ : ∃ z, own_rr [b0] 1 = z := ⟨_, rfl⟩
                  rw [hxx]
                  show own_R p.tables e below _ T5 (mkF m 197 #[.val (.int sz), .val (.int bits), .val (.int cnt), .val (.int (1 : Int32)), .val (.ref t), .val (.int b0), .val (.int b1), .val (.int b2), .val (.int b3), .val (.int b4), .val (.int b5), .val (.int b6), .unset, .unset, .unset, .unset, .unset] [(.double xx)])
                  refine own_go (fun _ => XS.dstore X5.here hx rfl (hb hby at_197) rfl (l' := #[.val (.int sz), .val (.int bits), .val (.int cnt), .val (.int (1 : Int32)), .val (.ref t), .val (.int b0), .val (.int b1), .val (.int b2), .val (.int b3), .val (.int b4), .val (.int b5), .val (.int b6), .val (.double xx), .second, .unset, .unset, .unset]) rfl) ?_
                  refine own_go (fun _ => XS.iconst X5.here hx rfl (hb hby at_199)) ?_
                  refine own_go (fun _ => XS.istore X5.here hx rfl (hb hby at_200) rfl (l' := #[.val (.int sz), .val (.int bits), .val (.int cnt), .val (.int (1 : Int32)), .val (.ref t), .val (.int b0), .val (.int b1), .val (.int b2), .val (.int b3), .val (.int b4), .val (.int b5), .val (.int b6), .val (.double xx), .second, .val (.int (0 : Int32)), .unset, .unset]) rfl) ?_
                  show own_R p.tables e below _ T5 (mkF m 202 #[.val (.int sz), .val (.int bits), .val (.int cnt), .val (.int (1 : Int32)), .val (.ref t), .val (.int b0), .val (.int b1), .val (.int b2), .val (.int b3), .val (.int b4), .val (.int b5), .val (.int b6), .val (.double xx), .second, .val (.int (0 : Int32)), .unset, .unset] [])
                  have JT : ∀ f : Int32, xx = own_fx f → Jvm.Free.Fl.NoNaN64 (own_fx f) → own_R p.tables e below (own_E s below (own_Q0 n0) (room_1).cells (room_1).slots) T5 (mkF m 313 #[.val (.int sz), .val (.int bits), .val (.int cnt), .val (.int (1 : Int32)), .val (.ref t), .val (.int b0), .val (.int b1), .val (.int b2), .val (.int b3), .val (.int b4), .val (.int b5), .val (.int b6), .val (.double xx), .second, .val (.int f), .unset, .unset] []) := by
                    intro f hf hnn
                    show own_R p.tables e below _ T5 (mkF m 313 #[.val (.int sz), .val (.int bits), .val (.int cnt), .val (.int (1 : Int32)), .val (.ref t), .val (.int b0), .val (.int b1), .val (.int b2), .val (.int b3), .val (.int b4), .val (.int b5), .val (.int b6), .val (.double xx), .second, .val (.int f), .unset, .unset] [])
                    refine own_go (fun _ => XS.iload X5.here hx rfl (hb hby at_313) rfl ) ?_
                    show own_R p.tables e below _ T5 (mkF m 315 #[.val (.int sz), .val (.int bits), .val (.int cnt), .val (.int (1 : Int32)), .val (.ref t), .val (.int b0), .val (.int b1), .val (.int b2), .val (.int b3), .val (.int b4), .val (.int b5), .val (.int b6), .val (.double xx), .second, .val (.int f), .unset, .unset] [(.int f)])
                    by_cases hf0 : f = (0 : Int32)
                    · show own_R p.tables e below _ T5 (mkF m 315 #[.val (.int sz), .val (.int bits), .val (.int cnt), .val (.int (1 : Int32)), .val (.ref t), .val (.int b0), .val (.int b1), .val (.int b2), .val (.int b3), .val (.int b4), .val (.int b5), .val (.int b6), .val (.double xx), .second, .val (.int f), .unset, .unset] [(.int f)])
                      refine own_go (fun _ => XS.ifNo X5.here hx rfl (hb hby at_315) rfl ((if0 _ _).trans (teq hf0).2)) ?_
                      show own_R p.tables e below _ T5 (mkF m 318 #[.val (.int sz), .val (.int bits), .val (.int cnt), .val (.int (1 : Int32)), .val (.ref t), .val (.int b0), .val (.int b1), .val (.int b2), .val (.int b3), .val (.int b4), .val (.int b5), .val (.int b6), .val (.double xx), .second, .val (.int f), .unset, .unset] [])
                      have hfx : own_fx f = FP.dconst0 := if_pos hf0
                      rw [hfx] at hf hnn
                      show own_R p.tables e below _ T5 (mkF m 318 #[.val (.int sz), .val (.int bits), .val (.int cnt), .val (.int (1 : Int32)), .val (.ref t), .val (.int b0), .val (.int b1), .val (.int b2), .val (.int b3), .val (.int b4), .val (.int b5), .val (.int b6), .val (.double xx), .second, .val (.int f), .unset, .unset] [])
                      refine own_go (fun _ => XS.dconst0 X5.here hx rfl (hb hby at_318) rfl) ?_
                      refine own_go (fun _ => XS.goto X5.here hx rfl (pc0 := 319) (pc' := 327) rfl (hb hby at_319) (by decide) (by decide)) ?_
                      refine own_go (fun _ => XS.dstore X5.here hx rfl (hb hby at_327) rfl (l' := #[.val (.int sz), .val (.int bits), .val (.int cnt), .val (.int (1 : Int32)), .val (.ref t), .val (.int b0), .val (.int b1), .val (.int b2), .val (.int b3), .val (.int b4), .val (.int b5), .val (.int b6), .val (.double xx), .second, .val (.int f), .val (.double FP.dconst0), .second]) rfl) ?_
                      refine own_go (fun _ => XS.dload X5.here hx rfl (hb hby at_329) rfl ) ?_
                      show own_R p.tables e below _ T5 (mkF m 331 #[.val (.int sz), .val (.int bits), .val (.int cnt), .val (.int (1 : Int32)), .val (.ref t), .val (.int b0), .val (.int b1), .val (.int b2), .val (.int b3), .val (.int b4), .val (.int b5), .val (.int b6), .val (.double xx), .second, .val (.int f), .val (.double FP.dconst0), .second] [(.double xx)])
                      refine own_go (fun _ => XS.dload X5.here hx rfl (hb hby at_331) rfl ) ?_
                      refine own_go (fun _ => XS.dcmpS X5.here hx rfl (hb hby at_333) rfl rfl) ?_
                      show own_R p.tables e below _ T5 (mkF m 334 #[.val (.int sz), .val (.int bits), .val (.int cnt), .val (.int (1 : Int32)), .val (.ref t), .val (.int b0), .val (.int b1), .val (.int b2), .val (.int b3), .val (.int b4), .val (.int b5), .val (.int b6), .val (.double xx), .second, .val (.int f), .val (.double FP.dconst0), .second] [(.int (cmpValue (FP.dcmp xx FP.dconst0) .l))])
                      refine own_go (fun _ => XS.ifNo X5.here hx rfl (hb hby at_334) rfl ((if0 _ _).trans (teq (by rw [hf]; exact dcmpV_self hnn _)).2)) ?_
                      show own_R p.tables e below _ T5 (mkF m 337 #[.val (.int sz), .val (.int bits), .val (.int cnt), .val (.int (1 : Int32)), .val (.ref t), .val (.int b0), .val (.int b1), .val (.int b2), .val (.int b3), .val (.int b4), .val (.int b5), .val (.int b6), .val (.double xx), .second, .val (.int f), .val (.double FP.dconst0), .second] [])
                      refine own_go (fun _ => XS.iconst X5.here hx rfl (hb hby at_337)) ?_
                      refine own_go (fun _ => XS.goto X5.here hx rfl (pc0 := 338) (pc' := 342) rfl (hb hby at_338) (by decide) (by decide)) ?_
                      show own_R p.tables e below _ T5 (mkF m 342 #[.val (.int sz), .val (.int bits), .val (.int cnt), .val (.int (1 : Int32)), .val (.ref t), .val (.int b0), .val (.int b1), .val (.int b2), .val (.int b3), .val (.int b4), .val (.int b5), .val (.int b6), .val (.double xx), .second, .val (.int f), .val (.double FP.dconst0), .second] [(.int (1 : Int32))])
                      exact own_end X5 (some (.int (1 : Int32))) (fun h => by rw [hret] at h; cases h) hlk (fun fs hr => retN X5 hx (t := .boolean) hret (by simp) (hb hby at_342) hr) ⟨rfl, N5⟩ (by decide) (by decide)
                    · show own_R p.tables e below _ T5 (mkF m 315 #[.val (.int sz), .val (.int bits), .val (.int cnt), .val (.int (1 : Int32)), .val (.ref t), .val (.int b0), .val (.int b1), .val (.int b2), .val (.int b3), .val (.int b4), .val (.int b5), .val (.int b6), .val (.double xx), .second, .val (.int f), .unset, .unset] [(.int f)])
                      refine own_go (fun _ => XS.ifYes X5.here hx rfl (pc0 := 315) (pc' := 322) rfl (hb hby at_315) rfl ((if0 _ _).trans (feq hf0).2) (by decide) (by decide)) ?_
                      show own_R p.tables e below _ T5 (mkF m 322 #[.val (.int sz), .val (.int bits), .val (.int cnt), .val (.int (1 : Int32)), .val (.ref t), .val (.int b0), .val (.int b1), .val (.int b2), .val (.int b3), .val (.int b4), .val (.int b5), .val (.int b6), .val (.double xx), .second, .val (.int f), .unset, .unset] [])
                      have hfx : own_fx f = FP.ddiv FP.dconst1 (FP.i2d f) := if_neg hf0
                      rw [hfx] at hf hnn
                      show own_R p.tables e below _ T5 (mkF m 322 #[.val (.int sz), .val (.int bits), .val (.int cnt), .val (.int (1 : Int32)), .val (.ref t), .val (.int b0), .val (.int b1), .val (.int b2), .val (.int b3), .val (.int b4), .val (.int b5), .val (.int b6), .val (.double xx), .second, .val (.int f), .unset, .unset] [])
                      refine own_go (fun _ => XS.dconst1 X5.here hx rfl (hb hby at_322) rfl) ?_
                      refine own_go (fun _ => XS.iload X5.here hx rfl (hb hby at_323) rfl ) ?_
                      refine own_go (fun _ => XS.i2dS X5.here hx rfl (hb hby at_325) rfl rfl) ?_
                      refine own_go (fun _ => XS.ddivS X5.here hx rfl (hb hby at_326) rfl hnn rfl) ?_
                      show own_R p.tables e below _ T5 (mkF m 327 #[.val (.int sz), .val (.int bits), .val (.int cnt), .val (.int (1 : Int32)), .val (.ref t), .val (.int b0), .val (.int b1), .val (.int b2), .val (.int b3), .val (.int b4), .val (.int b5), .val (.int b6), .val (.double xx), .second, .val (.int f), .unset, .unset] [(.double (FP.ddiv FP.dconst1 (FP.i2d f)))])
                      refine own_go (fun _ => XS.dstore X5.here hx rfl (hb hby at_327) rfl (l' := #[.val (.int sz), .val (.int bits), .val (.int cnt), .val (.int (1 : Int32)), .val (.ref t), .val (.int b0), .val (.int b1), .val (.int b2), .val (.int b3), .val (.int b4), .val (.int b5), .val (.int b6), .val (.double xx), .second, .val (.int f), .val (.double (FP.ddiv FP.dconst1 (FP.i2d f))), .second]) rfl) ?_
                      refine own_go (fun _ => XS.dload X5.here hx rfl (hb hby at_329) rfl ) ?_
                      refine own_go (fun _ => XS.dload X5.here hx rfl (hb hby at_331) rfl ) ?_
                      refine own_go (fun _ => XS.dcmpS X5.here hx rfl (hb hby at_333) rfl rfl) ?_
                      show own_R p.tables e below _ T5 (mkF m 334 #[.val (.int sz), .val (.int bits), .val (.int cnt), .val (.int (1 : Int32)), .val (.ref t), .val (.int b0), .val (.int b1), .val (.int b2), .val (.int b3), .val (.int b4), .val (.int b5), .val (.int b6), .val (.double xx), .second, .val (.int f), .val (.double (FP.ddiv FP.dconst1 (FP.i2d f))), .second] [(.int (cmpValue (FP.dcmp xx (FP.ddiv FP.dconst1 (FP.i2d f))) .l))])
                      refine own_go (fun _ => XS.ifNo X5.here hx rfl (hb hby at_334) rfl ((if0 _ _).trans (teq (by rw [hf]; exact dcmpV_self hnn _)).2)) ?_
                      show own_R p.tables e below _ T5 (mkF m 337 #[.val (.int sz), .val (.int bits), .val (.int cnt), .val (.int (1 : Int32)), .val (.ref t), .val (.int b0), .val (.int b1), .val (.int b2), .val (.int b3), .val (.int b4), .val (.int b5), .val (.int b6), .val (.double xx), .second, .val (.int f), .val (.double (FP.ddiv FP.dconst1 (FP.i2d f))), .second] [])
                      refine own_go (fun _ => XS.iconst X5.here hx rfl (hb hby at_337)) ?_
                      refine own_go (fun _ => XS.goto X5.here hx rfl (pc0 := 338) (pc' := 342) rfl (hb hby at_338) (by decide) (by decide)) ?_
                      show own_R p.tables e below _ T5 (mkF m 342 #[.val (.int sz), .val (.int bits), .val (.int cnt), .val (.int (1 : Int32)), .val (.ref t), .val (.int b0), .val (.int b1), .val (.int b2), .val (.int b3), .val (.int b4), .val (.int b5), .val (.int b6), .val (.double xx), .second, .val (.int f), .val (.double (FP.ddiv FP.dconst1 (FP.i2d f))), .second] [(.int (1 : Int32))])
                      exact own_end X5 (some (.int (1 : Int32))) (fun h => by rw [hret] at h; cases h) hlk (fun fs hr => retN X5 hx (t := .boolean) hret (by simp) (hb hby at_342) hr) ⟨rfl, N5⟩ (by decide) (by decide)
                  refine own_go (fun _ => XS.iloadN X5.here hx rfl (hb hby at_202) rfl ) ?_
                  show own_R p.tables e below _ T5 (mkF m 203 #[.val (.int sz), .val (.int bits), .val (.int cnt), .val (.int (1 : Int32)), .val (.ref t), .val (.int b0), .val (.int b1), .val (.int b2), .val (.int b3), .val (.int b4), .val (.int b5), .val (.int b6), .val (.double xx), .second, .val (.int (0 : Int32)), .unset, .unset] [(.int (1 : Int32))])
                  refine own_go (fun _ => XS.ifNo X5.here hx rfl (hb hby at_203) rfl ((if0 _ _).trans (tlt (by decide)).2.2.2)) ?_
                  show own_R p.tables e below _ T5 (mkF m 206 #[.val (.int sz), .val (.int bits), .val (.int cnt), .val (.int (1 : Int32)), .val (.ref t), .val (.int b0), .val (.int b1), .val (.int b2), .val (.int b3), .val (.int b4), .val (.int b5), .val (.int b6), .val (.double xx), .second, .val (.int (0 : Int32)), .unset, .unset] [])
                  refine own_go (fun _ => XS.iload X5.here hx rfl (hb hby at_206) rfl ) ?_
                  show own_R p.tables e below _ T5 (mkF m 208 #[.val (.int sz), .val (.int bits), .val (.int cnt), .val (.int (1 : Int32)), .val (.ref t), .val (.int b0), .val (.int b1), .val (.int b2), .val (.int b3), .val (.int b4), .val (.int b5), .val (.int b6), .val (.double xx), .second, .val (.int (0 : Int32)), .unset, .unset] [(.int b0)])
                  by_cases k0 : b0 = (0 : Int32)
                  · show own_R p.tables e below _ T5 (mkF m 208 #[.val (.int sz), .val (.int bits), .val (.int cnt), .val (.int (1 : Int32)), .val (.ref t), .val (.int b0), .val (.int b1), .val (.int b2), .val (.int b3), .val (.int b4), .val (.int b5), .val (.int b6), .val (.double xx), .second, .val (.int (0 : Int32)), .unset, .unset] [(.int b0)])
                    refine own_go (fun _ => XS.ifYes X5.here hx rfl (pc0 := 208) (pc' := 217) rfl (hb hby at_208) rfl ((if0 _ _).trans (teq k0).1) (by decide) (by decide)) ?_
                    show own_R p.tables e below _ T5 (mkF m 217 #[.val (.int sz), .val (.int bits), .val (.int cnt), .val (.int (1 : Int32)), .val (.ref t), .val (.int b0), .val (.int b1), .val (.int b2), .val (.int b3), .val (.int b4), .val (.int b5), .val (.int b6), .val (.double xx), .second, .val (.int (0 : Int32)), .unset, .unset] [])
                    refine own_go (fun _ => XS.iloadN X5.here hx rfl (hb hby at_217) rfl ) ?_
                    show own_R p.tables e below _ T5 (mkF m 218 #[.val (.int sz), .val (.int bits), .val (.int cnt), .val (.int (1 : Int32)), .val (.ref t), .val (.int b0), .val (.int b1), .val (.int b2), .val (.int b3), .val (.int b4), .val (.int b5), .val (.int b6), .val (.double xx), .second, .val (.int (0 : Int32)), .unset, .unset] [(.int (1 : Int32))])
                    refine own_go (fun _ => XS.iconst X5.here hx rfl (hb hby at_218)) ?_
                    show own_R p.tables e below _ T5 (mkF m 219 #[.val (.int sz), .val (.int bits), .val (.int cnt), .val (.int (1 : Int32)), .val (.ref t), .val (.int b0), .val (.int b1), .val (.int b2), .val (.int b3), .val (.int b4), .val (.int b5), .val (.int b6), .val (.double xx), .second, .val (.int (0 : Int32)), .unset, .unset] [(.int (1 : Int32)), (.int (1 : Int32))])
                    refine own_go (fun _ => XS.icmpYes X5.here hx rfl (pc0 := 219) (pc' := 233) rfl (hb hby at_219) rfl (flt (by decide)).2.2.2 (by decide) (by decide)) ?_
                    show own_R p.tables e below _ T5 (mkF m 233 #[.val (.int sz), .val (.int bits), .val (.int cnt), .val (.int (1 : Int32)), .val (.ref t), .val (.int b0), .val (.int b1), .val (.int b2), .val (.int b3), .val (.int b4), .val (.int b5), .val (.int b6), .val (.double xx), .second, .val (.int (0 : Int32)), .unset, .unset] [])
                    refine own_go (fun _ => XS.iloadN X5.here hx rfl (hb hby at_233) rfl ) ?_
                    show own_R p.tables e below _ T5 (mkF m 234 #[.val (.int sz), .val (.int bits), .val (.int cnt), .val (.int (1 : Int32)), .val (.ref t), .val (.int b0), .val (.int b1), .val (.int b2), .val (.int b3), .val (.int b4), .val (.int b5), .val (.int b6), .val (.double xx), .second, .val (.int (0 : Int32)), .unset, .unset] [(.int (1 : Int32))])
                    refine own_go (fun _ => XS.iconst X5.here hx rfl (hb hby at_234)) ?_
                    show own_R p.tables e below _ T5 (mkF m 235 #[.val (.int sz), .val (.int bits), .val (.int cnt), .val (.int (1 : Int32)), .val (.ref t), .val (.int b0), .val (.int b1), .val (.int b2), .val (.int b3), .val (.int b4), .val (.int b5), .val (.int b6), .val (.double xx), .second, .val (.int (0 : Int32)), .unset, .unset] [(.int (2 : Int32)), (.int (1 : Int32))])
                    refine own_go (fun _ => XS.icmpYes X5.here hx rfl (pc0 := 235) (pc' := 249) rfl (hb hby at_235) rfl (flt (by decide)).2.2.2 (by decide) (by decide)) ?_
                    show own_R p.tables e below _ T5 (mkF m 249 #[.val (.int sz), .val (.int bits), .val (.int cnt), .val (.int (1 : Int32)), .val (.ref t), .val (.int b0), .val (.int b1), .val (.int b2), .val (.int b3), .val (.int b4), .val (.int b5), .val (.int b6), .val (.double xx), .second, .val (.int (0 : Int32)), .unset, .unset] [])
                    refine own_go (fun _ => XS.iloadN X5.here hx rfl (hb hby at_249) rfl ) ?_
                    show own_R p.tables e below _ T5 (mkF m 250 #[.val (.int sz), .val (.int bits), .val (.int cnt), .val (.int (1 : Int32)), .val (.ref t), .val (.int b0), .val (.int b1), .val (.int b2), .val (.int b3), .val (.int b4), .val (.int b5), .val (.int b6), .val (.double xx), .second, .val (.int (0 : Int32)), .unset, .unset] [(.int (1 : Int32))])
                    refine own_go (fun _ => XS.iconst X5.here hx rfl (hb hby at_250)) ?_
                    show own_R p.tables e below _ T5 (mkF m 251 #[.val (.int sz), .val (.int bits), .val (.int cnt), .val (.int (1 : Int32)), .val (.ref t), .val (.int b0), .val (.int b1), .val (.int b2), .val (.int b3), .val (.int b4), .val (.int b5), .val (.int b6), .val (.double xx), .second, .val (.int (0 : Int32)), .unset, .unset] [(.int (3 : Int32)), (.int (1 : Int32))])
                    refine own_go (fun _ => XS.icmpYes X5.here hx rfl (pc0 := 251) (pc' := 265) rfl (hb hby at_251) rfl (flt (by decide)).2.2.2 (by decide) (by decide)) ?_
                    show own_R p.tables e below _ T5 (mkF m 265 #[.val (.int sz), .val (.int bits), .val (.int cnt), .val (.int (1 : Int32)), .val (.ref t), .val (.int b0), .val (.int b1), .val (.int b2), .val (.int b3), .val (.int b4), .val (.int b5), .val (.int b6), .val (.double xx), .second, .val (.int (0 : Int32)), .unset, .unset] [])
                    refine own_go (fun _ => XS.iloadN X5.here hx rfl (hb hby at_265) rfl ) ?_
                    show own_R p.tables e below _ T5 (mkF m 266 #[.val (.int sz), .val (.int bits), .val (.int cnt), .val (.int (1 : Int32)), .val (.ref t), .val (.int b0), .val (.int b1), .val (.int b2), .val (.int b3), .val (.int b4), .val (.int b5), .val (.int b6), .val (.double xx), .second, .val (.int (0 : Int32)), .unset, .unset] [(.int (1 : Int32))])
                    refine own_go (fun _ => XS.iconst X5.here hx rfl (hb hby at_266)) ?_
                    show own_R p.tables e below _ T5 (mkF m 267 #[.val (.int sz), .val (.int bits), .val (.int cnt), .val (.int (1 : Int32)), .val (.ref t), .val (.int b0), .val (.int b1), .val (.int b2), .val (.int b3), .val (.int b4), .val (.int b5), .val (.int b6), .val (.double xx), .second, .val (.int (0 : Int32)), .unset, .unset] [(.int (4 : Int32)), (.int (1 : Int32))])
                    refine own_go (fun _ => XS.icmpYes X5.here hx rfl (pc0 := 267) (pc' := 281) rfl (hb hby at_267) rfl (flt (by decide)).2.2.2 (by decide) (by decide)) ?_
                    show own_R p.tables e below _ T5 (mkF m 281 #[.val (.int sz), .val (.int bits), .val (.int cnt), .val (.int (1 : Int32)), .val (.ref t), .val (.int b0), .val (.int b1), .val (.int b2), .val (.int b3), .val (.int b4), .val (.int b5), .val (.int b6), .val (.double xx), .second, .val (.int (0 : Int32)), .unset, .unset] [])
                    refine own_go (fun _ => XS.iloadN X5.here hx rfl (hb hby at_281) rfl ) ?_
                    show own_R p.tables e below _ T5 (mkF m 282 #[.val (.int sz), .val (.int bits), .val (.int cnt), .val (.int (1 : Int32)), .val (.ref t), .val (.int b0), .val (.int b1), .val (.int b2), .val (.int b3), .val (.int b4), .val (.int b5), .val (.int b6), .val (.double xx), .second, .val (.int (0 : Int32)), .unset, .unset] [(.int (1 : Int32))])
                    refine own_go (fun _ => XS.iconst X5.here hx rfl (hb hby at_282)) ?_
                    show own_R p.tables e below _ T5 (mkF m 283 #[.val (.int sz), .val (.int bits), .val (.int cnt), .val (.int (1 : Int32)), .val (.ref t), .val (.int b0), .val (.int b1), .val (.int b2), .val (.int b3), .val (.int b4), .val (.int b5), .val (.int b6), .val (.double xx), .second, .val (.int (0 : Int32)), .unset, .unset] [(.int (5 : Int32)), (.int (1 : Int32))])
                    refine own_go (fun _ => XS.icmpYes X5.here hx rfl (pc0 := 283) (pc' := 298) rfl (hb hby at_283) rfl (flt (by decide)).2.2.2 (by decide) (by decide)) ?_
                    show own_R p.tables e below _ T5 (mkF m 298 #[.val (.int sz), .val (.int bits), .val (.int cnt), .val (.int (1 : Int32)), .val (.ref t), .val (.int b0), .val (.int b1), .val (.int b2), .val (.int b3), .val (.int b4), .val (.int b5), .val (.int b6), .val (.double xx), .second, .val (.int (0 : Int32)), .unset, .unset] [])
                    refine own_go (fun _ => XS.iloadN X5.here hx rfl (hb hby at_298) rfl ) ?_
                    show own_R p.tables e below _ T5 (mkF m 299 #[.val (.int sz), .val (.int bits), .val (.int cnt), .val (.int (1 : Int32)), .val (.ref t), .val (.int b0), .val (.int b1), .val (.int b2), .val (.int b3), .val (.int b4), .val (.int b5), .val (.int b6), .val (.double xx), .second, .val (.int (0 : Int32)), .unset, .unset] [(.int (1 : Int32))])
                    refine own_go (fun _ => XS.bipush X5.here hx rfl (hb hby at_299)) ?_
                    show own_R p.tables e below _ T5 (mkF m 301 #[.val (.int sz), .val (.int bits), .val (.int cnt), .val (.int (1 : Int32)), .val (.ref t), .val (.int b0), .val (.int b1), .val (.int b2), .val (.int b3), .val (.int b4), .val (.int b5), .val (.int b6), .val (.double xx), .second, .val (.int (0 : Int32)), .unset, .unset] [(.int (6 : Int32)), (.int (1 : Int32))])
                    refine own_go (fun _ => XS.icmpYes X5.here hx rfl (pc0 := 301) (pc' := 313) rfl (hb hby at_301) rfl (flt (by decide)).2.2.2 (by decide) (by decide)) ?_
                    show own_R p.tables e below _ T5 (mkF m 313 #[.val (.int sz), .val (.int bits), .val (.int cnt), .val (.int (1 : Int32)), .val (.ref t), .val (.int b0), .val (.int b1), .val (.int b2), .val (.int b3), .val (.int b4), .val (.int b5), .val (.int b6), .val (.double xx), .second, .val (.int (0 : Int32)), .unset, .unset] [])
                    exact JT 0 (hxx.symm.trans (by simp [own_rr, own_fx, k0])) (own_fn 0)
                  · show own_R p.tables e below _ T5 (mkF m 208 #[.val (.int sz), .val (.int bits), .val (.int cnt), .val (.int (1 : Int32)), .val (.ref t), .val (.int b0), .val (.int b1), .val (.int b2), .val (.int b3), .val (.int b4), .val (.int b5), .val (.int b6), .val (.double xx), .second, .val (.int (0 : Int32)), .unset, .unset] [(.int b0)])
                    refine own_go (fun _ => XS.ifNo X5.here hx rfl (hb hby at_208) rfl ((if0 _ _).trans (feq k0).1)) ?_
                    show own_R p.tables e below _ T5 (mkF m 211 #[.val (.int sz), .val (.int bits), .val (.int cnt), .val (.int (1 : Int32)), .val (.ref t), .val (.int b0), .val (.int b1), .val (.int b2), .val (.int b3), .val (.int b4), .val (.int b5), .val (.int b6), .val (.double xx), .second, .val (.int (0 : Int32)), .unset, .unset] [])
                    refine own_go (fun _ => XS.iconst X5.here hx rfl (hb hby at_211)) ?_
                    refine own_go (fun _ => XS.istore X5.here hx rfl (hb hby at_212) rfl (l' := #[.val (.int sz), .val (.int bits), .val (.int cnt), .val (.int (1 : Int32)), .val (.ref t), .val (.int b0), .val (.int b1), .val (.int b2), .val (.int b3), .val (.int b4), .val (.int b5), .val (.int b6), .val (.double xx), .second, .val (.int (1 : Int32)), .unset, .unset]) rfl) ?_
                    refine own_go (fun _ => XS.goto X5.here hx rfl (pc0 := 214) (pc' := 313) rfl (hb hby at_214) (by decide) (by decide)) ?_
                    show own_R p.tables e below _ T5 (mkF m 313 #[.val (.int sz), .val (.int bits), .val (.int cnt), .val (.int (1 : Int32)), .val (.ref t), .val (.int b0), .val (.int b1), .val (.int b2), .val (.int b3), .val (.int b4), .val (.int b5), .val (.int b6), .val (.double xx), .second, .val (.int (1 : Int32)), .unset, .unset] [])
                    exact JT 1 (hxx.symm.trans (by simp [own_rr, own_fx, k0])) (own_fn 1)
                · show own_R p.tables e below _ T1 (mkF m 106 #[.val (.int sz), .val (.int bits), .val (.int cnt), .val (.int (2 : Int32)), .val (.ref t), .val (.int b0), .val (.int b1), .val (.int b2), .val (.int b3), .val (.int b4), .val (.int b5), .val (.int b6), .unset, .unset, .unset, .unset, .unset] [])
                  have V2 := V1.pad (pad_rep [] (.int 0) 2)
                  have g1a : n0 ≤ t := Nat.le_trans Z0 q1
                  refine own_go (fun _ => XS.iloadN X1.here hx rfl (hb hby at_106) rfl ) ?_
                  show own_R p.tables e below _ T1 (mkF m 107 #[.val (.int sz), .val (.int bits), .val (.int cnt), .val (.int (2 : Int32)), .val (.ref t), .val (.int b0), .val (.int b1), .val (.int b2), .val (.int b3), .val (.int b4), .val (.int b5), .val (.int b6), .unset, .unset, .unset, .unset, .unset] [(.int (2 : Int32))])
                  refine own_go (fun _ => XS.ifNo X1.here hx rfl (hb hby at_107) rfl ((if0 _ _).trans (tlt (by decide)).2.2.2)) ?_
                  show own_R p.tables e below _ T1 (mkF m 110 #[.val (.int sz), .val (.int bits), .val (.int cnt), .val (.int (2 : Int32)), .val (.ref t), .val (.int b0), .val (.int b1), .val (.int b2), .val (.int b3), .val (.int b4), .val (.int b5), .val (.int b6), .unset, .unset, .unset, .unset, .unset] [])
                  refine own_go (fun _ => XS.aload X1.here hx rfl (hb hby at_110) rfl rfl) ?_
                  show own_R p.tables e below _ T1 (mkF m 112 #[.val (.int sz), .val (.int bits), .val (.int cnt), .val (.int (2 : Int32)), .val (.ref t), .val (.int b0), .val (.int b1), .val (.int b2), .val (.int b3), .val (.int b4), .val (.int b5), .val (.int b6), .unset, .unset, .unset, .unset, .unset] [(.ref t)])
                  refine own_go (fun _ => XS.iconst X1.here hx rfl (hb hby at_112)) ?_
                  show own_R p.tables e below _ T1 (mkF m 113 #[.val (.int sz), .val (.int bits), .val (.int cnt), .val (.int (2 : Int32)), .val (.ref t), .val (.int b0), .val (.int b1), .val (.int b2), .val (.int b3), .val (.int b4), .val (.int b5), .val (.int b6), .unset, .unset, .unset, .unset, .unset] [(.int (0 : Int32)), (.ref t)])
                  refine own_go (fun _ => XS.iload X1.here hx rfl (hb hby at_113) rfl ) ?_
                  show own_R p.tables e below _ T1 (mkF m 115 #[.val (.int sz), .val (.int bits), .val (.int cnt), .val (.int (2 : Int32)), .val (.ref t), .val (.int b0), .val (.int b1), .val (.int b2), .val (.int b3), .val (.int b4), .val (.int b5), .val (.int b6), .unset, .unset, .unset, .unset, .unset] [(.int b0), (.int (0 : Int32)), (.ref t)])
                  obtain ⟨Ts0, hs0, Xs0, es0, Ws0, Vs0, sts0⟩ := own_stZ X1 hx hZ rfl V2 (j := (0 : Int32)) ⟨by decide, by decide⟩ 0 rfl (Nat.le_of_ble_eq_true rfl) hb0 (g := (mkF m 115 #[.val (.int sz), .val (.int bits), .val (.int cnt), .val (.int (2 : Int32)), .val (.ref t), .val (.int b0), .val (.int b1), .val (.int b2), .val (.int b3), .val (.int b4), .val (.int b5), .val (.int b6), .unset, .unset, .unset, .unset, .unset] [(.int b0), (.int (0 : Int32)), (.ref t)])) rfl rfl (hb hby at_115)
                  have Ks0 : Keep h0 hs0 [] := K1.wr Ws0 (Or.inr q1)
                  have Ns0 := Fr.snoc Xs0 N1 g1a
                  refine own_go sts0 ?_
                  show own_R p.tables e below _ Ts0 (mkF m 116 #[.val (.int sz), .val (.int bits), .val (.int cnt), .val (.int (2 : Int32)), .val (.ref t), .val (.int b0), .val (.int b1), .val (.int b2), .val (.int b3), .val (.int b4), .val (.int b5), .val (.int b6), .unset, .unset, .unset, .unset, .unset] [])
                  refine own_go (fun _ => XS.iloadN Xs0.here hx rfl (hb hby at_116) rfl ) ?_
                  show own_R p.tables e below _ Ts0 (mkF m 117 #[.val (.int sz), .val (.int bits), .val (.int cnt), .val (.int (2 : Int32)), .val (.ref t), .val (.int b0), .val (.int b1), .val (.int b2), .val (.int b3), .val (.int b4), .val (.int b5), .val (.int b6), .unset, .unset, .unset, .unset, .unset] [(.int (2 : Int32))])
                  refine own_go (fun _ => XS.iconst Xs0.here hx rfl (hb hby at_117)) ?_
                  show own_R p.tables e below _ Ts0 (mkF m 118 #[.val (.int sz), .val (.int bits), .val (.int cnt), .val (.int (2 : Int32)), .val (.ref t), .val (.int b0), .val (.int b1), .val (.int b2), .val (.int b3), .val (.int b4), .val (.int b5), .val (.int b6), .unset, .unset, .unset, .unset, .unset] [(.int (1 : Int32)), (.int (2 : Int32))])
                  refine own_go (fun _ => XS.icmpNo Xs0.here hx rfl (hb hby at_118) rfl (tlt (by decide)).2.2.2) ?_
                  show own_R p.tables e below _ Ts0 (mkF m 121 #[.val (.int sz), .val (.int bits), .val (.int cnt), .val (.int (2 : Int32)), .val (.ref t), .val (.int b0), .val (.int b1), .val (.int b2), .val (.int b3), .val (.int b4), .val (.int b5), .val (.int b6), .unset, .unset, .unset, .unset, .unset] [])
                  refine own_go (fun _ => XS.aload Xs0.here hx rfl (hb hby at_121) rfl rfl) ?_
                  show own_R p.tables e below _ Ts0 (mkF m 123 #[.val (.int sz), .val (.int bits), .val (.int cnt), .val (.int (2 : Int32)), .val (.ref t), .val (.int b0), .val (.int b1), .val (.int b2), .val (.int b3), .val (.int b4), .val (.int b5), .val (.int b6), .unset, .unset, .unset, .unset, .unset] [(.ref t)])
                  refine own_go (fun _ => XS.iconst Xs0.here hx rfl (hb hby at_123)) ?_
                  show own_R p.tables e below _ Ts0 (mkF m 124 #[.val (.int sz), .val (.int bits), .val (.int cnt), .val (.int (2 : Int32)), .val (.ref t), .val (.int b0), .val (.int b1), .val (.int b2), .val (.int b3), .val (.int b4), .val (.int b5), .val (.int b6), .unset, .unset, .unset, .unset, .unset] [(.int (1 : Int32)), (.ref t)])
                  refine own_go (fun _ => XS.iload Xs0.here hx rfl (hb hby at_124) rfl ) ?_
                  show own_R p.tables e below _ Ts0 (mkF m 126 #[.val (.int sz), .val (.int bits), .val (.int cnt), .val (.int (2 : Int32)), .val (.ref t), .val (.int b0), .val (.int b1), .val (.int b2), .val (.int b3), .val (.int b4), .val (.int b5), .val (.int b6), .unset, .unset, .unset, .unset, .unset] [(.int b1), (.int (1 : Int32)), (.ref t)])
                  obtain ⟨Ts1, hs1, Xs1, es1, Ws1, Vs1, sts1⟩ := own_stZ Xs0 hx hZ es0 Vs0 (j := (1 : Int32)) ⟨by decide, by decide⟩ 1 rfl (Nat.le_of_ble_eq_true rfl) hb1 (g := (mkF m 126 #[.val (.int sz), .val (.int bits), .val (.int cnt), .val (.int (2 : Int32)), .val (.ref t), .val (.int b0), .val (.int b1), .val (.int b2), .val (.int b3), .val (.int b4), .val (.int b5), .val (.int b6), .unset, .unset, .unset, .unset, .unset] [(.int b1), (.int (1 : Int32)), (.ref t)])) rfl rfl (hb hby at_126)
                  have Ks1 : Keep h0 hs1 [] := Ks0.wr Ws1 (Or.inr q1)
                  have Ns1 := Fr.snoc Xs1 Ns0 g1a
                  refine own_go sts1 ?_
                  show own_R p.tables e below _ Ts1 (mkF m 127 #[.val (.int sz), .val (.int bits), .val (.int cnt), .val (.int (2 : Int32)), .val (.ref t), .val (.int b0), .val (.int b1), .val (.int b2), .val (.int b3), .val (.int b4), .val (.int b5), .val (.int b6), .unset, .unset, .unset, .unset, .unset] [])
                  refine own_go (fun _ => XS.iloadN Xs1.here hx rfl (hb hby at_127) rfl ) ?_
                  show own_R p.tables e below _ Ts1 (mkF m 128 #[.val (.int sz), .val (.int bits), .val (.int cnt), .val (.int (2 : Int32)), .val (.ref t), .val (.int b0), .val (.int b1), .val (.int b2), .val (.int b3), .val (.int b4), .val (.int b5), .val (.int b6), .unset, .unset, .unset, .unset, .unset] [(.int (2 : Int32))])
                  refine own_go (fun _ => XS.iconst Xs1.here hx rfl (hb hby at_128)) ?_
                  show own_R p.tables e below _ Ts1 (mkF m 129 #[.val (.int sz), .val (.int bits), .val (.int cnt), .val (.int (2 : Int32)), .val (.ref t), .val (.int b0), .val (.int b1), .val (.int b2), .val (.int b3), .val (.int b4), .val (.int b5), .val (.int b6), .unset, .unset, .unset, .unset, .unset] [(.int (2 : Int32)), (.int (2 : Int32))])
                  refine own_go (fun _ => XS.icmpYes Xs1.here hx rfl (pc0 := 129) (pc' := 138) rfl (hb hby at_129) rfl (flt (by decide)).2.2.2 (by decide) (by decide)) ?_
                  show own_R p.tables e below _ Ts1 (mkF m 138 #[.val (.int sz), .val (.int bits), .val (.int cnt), .val (.int (2 : Int32)), .val (.ref t), .val (.int b0), .val (.int b1), .val (.int b2), .val (.int b3), .val (.int b4), .val (.int b5), .val (.int b6), .unset, .unset, .unset, .unset, .unset] [])
                  refine own_go (fun _ => XS.iloadN Xs1.here hx rfl (hb hby at_138) rfl ) ?_
                  show own_R p.tables e below _ Ts1 (mkF m 139 #[.val (.int sz), .val (.int bits), .val (.int cnt), .val (.int (2 : Int32)), .val (.ref t), .val (.int b0), .val (.int b1), .val (.int b2), .val (.int b3), .val (.int b4), .val (.int b5), .val (.int b6), .unset, .unset, .unset, .unset, .unset] [(.int (2 : Int32))])
                  refine own_go (fun _ => XS.iconst Xs1.here hx rfl (hb hby at_139)) ?_
                  show own_R p.tables e below _ Ts1 (mkF m 140 #[.val (.int sz), .val (.int bits), .val (.int cnt), .val (.int (2 : Int32)), .val (.ref t), .val (.int b0), .val (.int b1), .val (.int b2), .val (.int b3), .val (.int b4), .val (.int b5), .val (.int b6), .unset, .unset, .unset, .unset, .unset] [(.int (3 : Int32)), (.int (2 : Int32))])
                  refine own_go (fun _ => XS.icmpYes Xs1.here hx rfl (pc0 := 140) (pc' := 149) rfl (hb hby at_140) rfl (flt (by decide)).2.2.2 (by decide) (by decide)) ?_
                  show own_R p.tables e below _ Ts1 (mkF m 149 #[.val (.int sz), .val (.int bits), .val (.int cnt), .val (.int (2 : Int32)), .val (.ref t), .val (.int b0), .val (.int b1), .val (.int b2), .val (.int b3), .val (.int b4), .val (.int b5), .val (.int b6), .unset, .unset, .unset, .unset, .unset] [])
                  refine own_go (fun _ => XS.iloadN Xs1.here hx rfl (hb hby at_149) rfl ) ?_
                  show own_R p.tables e below _ Ts1 (mkF m 150 #[.val (.int sz), .val (.int bits), .val (.int cnt), .val (.int (2 : Int32)), .val (.ref t), .val (.int b0), .val (.int b1), .val (.int b2), .val (.int b3), .val (.int b4), .val (.int b5), .val (.int b6), .unset, .unset, .unset, .unset, .unset] [(.int (2 : Int32))])
                  refine own_go (fun _ => XS.iconst Xs1.here hx rfl (hb hby at_150)) ?_
                  show own_R p.tables e below _ Ts1 (mkF m 151 #[.val (.int sz), .val (.int bits), .val (.int cnt), .val (.int (2 : Int32)), .val (.ref t), .val (.int b0), .val (.int b1), .val (.int b2), .val (.int b3), .val (.int b4), .val (.int b5), .val (.int b6), .unset, .unset, .unset, .unset, .unset] [(.int (4 : Int32)), (.int (2 : Int32))])
                  refine own_go (fun _ => XS.icmpYes Xs1.here hx rfl (pc0 := 151) (pc' := 160) rfl (hb hby at_151) rfl (flt (by decide)).2.2.2 (by decide) (by decide)) ?_
                  show own_R p.tables e below _ Ts1 (mkF m 160 #[.val (.int sz), .val (.int bits), .val (.int cnt), .val (.int (2 : Int32)), .val (.ref t), .val (.int b0), .val (.int b1), .val (.int b2), .val (.int b3), .val (.int b4), .val (.int b5), .val (.int b6), .unset, .unset, .unset, .unset, .unset] [])
                  refine own_go (fun _ => XS.iloadN Xs1.here hx rfl (hb hby at_160) rfl ) ?_
                  show own_R p.tables e below _ Ts1 (mkF m 161 #[.val (.int sz), .val (.int bits), .val (.int cnt), .val (.int (2 : Int32)), .val (.ref t), .val (.int b0), .val (.int b1), .val (.int b2), .val (.int b3), .val (.int b4), .val (.int b5), .val (.int b6), .unset, .unset, .unset, .unset, .unset] [(.int (2 : Int32))])
                  refine own_go (fun _ => XS.iconst Xs1.here hx rfl (hb hby at_161)) ?_
                  show own_R p.tables e below _ Ts1 (mkF m 162 #[.val (.int sz), .val (.int bits), .val (.int cnt), .val (.int (2 : Int32)), .val (.ref t), .val (.int b0), .val (.int b1), .val (.int b2), .val (.int b3), .val (.int b4), .val (.int b5), .val (.int b6), .unset, .unset, .unset, .unset, .unset] [(.int (5 : Int32)), (.int (2 : Int32))])
                  refine own_go (fun _ => XS.icmpYes Xs1.here hx rfl (pc0 := 162) (pc' := 171) rfl (hb hby at_162) rfl (flt (by decide)).2.2.2 (by decide) (by decide)) ?_
                  show own_R p.tables e below _ Ts1 (mkF m 171 #[.val (.int sz), .val (.int bits), .val (.int cnt), .val (.int (2 : Int32)), .val (.ref t), .val (.int b0), .val (.int b1), .val (.int b2), .val (.int b3), .val (.int b4), .val (.int b5), .val (.int b6), .unset, .unset, .unset, .unset, .unset] [])
                  refine own_go (fun _ => XS.iloadN Xs1.here hx rfl (hb hby at_171) rfl ) ?_
                  show own_R p.tables e below _ Ts1 (mkF m 172 #[.val (.int sz), .val (.int bits), .val (.int cnt), .val (.int (2 : Int32)), .val (.ref t), .val (.int b0), .val (.int b1), .val (.int b2), .val (.int b3), .val (.int b4), .val (.int b5), .val (.int b6), .unset, .unset, .unset, .unset, .unset] [(.int (2 : Int32))])
                  refine own_go (fun _ => XS.bipush Xs1.here hx rfl (hb hby at_172)) ?_
                  show own_R p.tables e below _ Ts1 (mkF m 174 #[.val (.int sz), .val (.int bits), .val (.int cnt), .val (.int (2 : Int32)), .val (.ref t), .val (.int b0), .val (.int b1), .val (.int b2), .val (.int b3), .val (.int b4), .val (.int b5), .val (.int b6), .unset, .unset, .unset, .unset, .unset] [(.int (6 : Int32)), (.int (2 : Int32))])
                  refine own_go (fun _ => XS.icmpYes Xs1.here hx rfl (pc0 := 174) (pc' := 184) rfl (hb hby at_174) rfl (flt (by decide)).2.2.2 (by decide) (by decide)) ?_
                  show own_R p.tables e below _ Ts1 (mkF m 184 #[.val (.int sz), .val (.int bits), .val (.int cnt), .val (.int (2 : Int32)), .val (.ref t), .val (.int b0), .val (.int b1), .val (.int b2), .val (.int b3), .val (.int b4), .val (.int b5), .val (.int b6), .unset, .unset, .unset, .unset, .unset] [])
                  obtain ⟨T3, h3, X3, e3, E3, A3, D3, -, st3⟩ := newO Xs1 hx hZ hown (hw _ (List.mem_of_getElem? (i := 5) rfl)) (hw _ (List.mem_of_getElem? (i := 6) rfl)) (hw _ (List.mem_of_getElem? (i := 7) rfl)) es1 (g := (mkF m 184 #[.val (.int sz), .val (.int bits), .val (.int cnt), .val (.int (2 : Int32)), .val (.ref t), .val (.int b0), .val (.int b1), .val (.int b2), .val (.int b3), .val (.int b4), .val (.int b5), .val (.int b6), .unset, .unset, .unset, .unset, .unset] [])) rfl (hb hby at_184) (by decide) (by decide)
                  obtain ⟨a3, g3⟩ : ∃ z, z = hs1.size := ⟨_, rfl⟩
                  rw [← g3] at A3 D3 st3
                  refine own_go st3 ?_
                  show own_R p.tables e below _ T3 (mkF m 187 #[.val (.int sz), .val (.int bits), .val (.int cnt), .val (.int (2 : Int32)), .val (.ref t), .val (.int b0), .val (.int b1), .val (.int b2), .val (.int b3), .val (.int b4), .val (.int b5), .val (.int b6), .unset, .unset, .unset, .unset, .unset] [(.ref a3)])
                  refine own_go (fun _ => XS.dup X3.here hx rfl (hb hby at_187) rfl rfl) ?_
                  show own_R p.tables e below _ T3 (mkF m 188 #[.val (.int sz), .val (.int bits), .val (.int cnt), .val (.int (2 : Int32)), .val (.ref t), .val (.int b0), .val (.int b1), .val (.int b2), .val (.int b3), .val (.int b4), .val (.int b5), .val (.int b6), .unset, .unset, .unset, .unset, .unset] [(.ref a3), (.ref a3)])
                  refine own_go (fun _ => XS.aload X3.here hx rfl (hb hby at_188) rfl rfl) ?_
                  show own_R p.tables e below _ T3 (mkF m 190 #[.val (.int sz), .val (.int bits), .val (.int cnt), .val (.int (2 : Int32)), .val (.ref t), .val (.int b0), .val (.int b1), .val (.int b2), .val (.int b3), .val (.int b4), .val (.int b5), .val (.int b6), .unset, .unset, .unset, .unset, .unset] [(.ref t), (.ref a3), (.ref a3)])
                  refine own_go (fun _ => XS.iloadN X3.here hx rfl (hb hby at_190) rfl ) ?_
                  show own_R p.tables e below _ T3 (mkF m 191 #[.val (.int sz), .val (.int bits), .val (.int cnt), .val (.int (2 : Int32)), .val (.ref t), .val (.int b0), .val (.int b1), .val (.int b2), .val (.int b3), .val (.int b4), .val (.int b5), .val (.int b6), .unset, .unset, .unset, .unset, .unset] [(.int cnt), (.ref t), (.ref a3), (.ref a3)])
                  have g3a : n0 ≤ a3 := Nat.le_trans Z0 (Nat.le_trans Ks1.1 (Nat.le_of_eq g3.symm))
                  have ne3 : t ≠ a3 := Nat.ne_of_lt (Nat.lt_of_lt_of_le Vs1.lt (Nat.le_of_eq g3.symm))
                  obtain ⟨v4, T4, L4, X4, Q4, st4⟩ := own_callI X3 hx hZ hown (y := (⟨"com/example/kookaburra/kookaburra/eval/Ranking", "<init>", "([ZI)V"⟩ : MethodName)) rfl (hw _ (List.mem_of_getElem? (i := 8) rfl)) (hw _ (List.mem_of_getElem? (i := 9) rfl)) (hw _ (List.mem_of_getElem? (i := 10) rfl)) (hw _ (List.mem_of_getElem? (i := 7) rfl)) (by decide) (rmInit l Z a0 hw [] h3 n0 a3 t cnt g3a A3 (D3 (Or.inr (hw _ (List.mem_of_getElem? (i := 15) rfl))) (ty := (.array .boolean)) (by decide)) (D3 (Or.inr (hw _ (List.mem_of_getElem? (i := 17) rfl))) (ty := .int) (by decide))) (W := 1) (g := (mkF m 191 #[.val (.int sz), .val (.int bits), .val (.int cnt), .val (.int (2 : Int32)), .val (.ref t), .val (.int b0), .val (.int b1), .val (.int b2), .val (.int b3), .val (.int b4), .val (.int b5), .val (.int b6), .unset, .unset, .unset, .unset, .unset] [(.int cnt), (.ref t), (.ref a3), (.ref a3)])) rfl (by rw [hml]; rfl) (a := a3) (argsL := [(.ref t), (.int cnt)]) (rest := [(.ref a3)]) (lenOf pd___ZI_V rfl) rfl rfl (by show 2 * 0 + _ ≤ _; exact Nat.le_of_eq rfl) (hb hby at_191) e3 (by decide) (by decide) (by decide) (by decide)
                  obtain ⟨rfl, N4q, K4, E4, F4a, F4b⟩ := Q4
                  have N4 := Fr.app Ns1 N4q
                  have V4 := (Vs1.ext E3).keep K4 (ninS ne3 nin0)
                  refine own_go st4 ?_
                  show own_R p.tables e below _ T4 (mkF m 194 #[.val (.int sz), .val (.int bits), .val (.int cnt), .val (.int (2 : Int32)), .val (.ref t), .val (.int b0), .val (.int b1), .val (.int b2), .val (.int b3), .val (.int b4), .val (.int b5), .val (.int b6), .unset, .unset, .unset, .unset, .unset] [(.ref a3)])
                  obtain ⟨v5, T5, L5, X5, Q5, st5⟩ := own_callV X4 hx hZ hown (y := (⟨"com/example/kookaburra/kookaburra/eval/Ranking", "reciprocalRank", "()D"⟩ : MethodName)) (hw _ (List.mem_of_getElem? (i := 18) rfl)) (hw _ (List.mem_of_getElem? (i := 19) rfl)) (hw _ (List.mem_of_getElem? (i := 21) rfl)) (hw _ (List.mem_of_getElem? (i := 20) rfl)) (hw _ (List.mem_of_getElem? (i := 22) rfl)) (hw _ (List.mem_of_getElem? (i := 7) rfl)) (by decide) (rmRR l Z a0 hw [] T4.heap n0 a3 t ([b0, b1] : List Int32) (Nat.le_of_ble_eq_true rfl) F4a V4) E4 (W := 0) (g := (mkF m 194 #[.val (.int sz), .val (.int bits), .val (.int cnt), .val (.int (2 : Int32)), .val (.ref t), .val (.int b0), .val (.int b1), .val (.int b2), .val (.int b3), .val (.int b4), .val (.int b5), .val (.int b6), .unset, .unset, .unset, .unset, .unset] [(.ref a3)])) rfl (by rw [hml]; rfl) (b := a3) (argsL := []) (rest := []) (lenOf pd___D rfl) rfl rfl (by show 2 * 0 + _ ≤ _; exact Nat.le_of_eq rfl) (hb hby at_194) rfl (by decide) (by decide) (by decide) (by decide)
                  obtain ⟨rfl, N5q, e5⟩ := Q5
                  have N5 := Fr.app N4 N5q
                  refine own_go st5 ?_
                  show own_R p.tables e below _ T5 (mkF m 197 #[.val (.int sz), .val (.int bits), .val (.int cnt), .val (.int (2 : Int32)), .val (.ref t), .val (.int b0), .val (.int b1), .val (.int b2), .val (.int b3), .val (.int b4), .val (.int b5), .val (.int b6), .unset, .unset, .unset, .unset, .unset] [(.double (own_rr [b0, b1] 1))])
                  obtain ⟨xx, hxx⟩ : ∃ z, own_rr [b0, b1] 1 = z := ⟨_, rfl⟩
                  rw [hxx]
                  show own_R p.tables e below _ T5 (mkF m 197 #[.val (.int sz), .val (.int bits), .val (.int cnt), .val (.int (2 : Int32)), .val (.ref t), .val (.int b0), .val (.int b1), .val (.int b2), .val (.int b3), .val (.int b4), .val (.int b5), .val (.int b6), .unset, .unset, .unset, .unset, .unset] [(.double xx)])
                  refine own_go (fun _ => XS.dstore X5.here hx rfl (hb hby at_197) rfl (l' := #[.val (.int sz), .val (.int bits), .val (.int cnt), .val (.int (2 : Int32)), .val (.ref t), .val (.int b0), .val (.int b1), .val (.int b2), .val (.int b3), .val (.int b4), .val (.int b5), .val (.int b6), .val (.double xx), .second, .unset, .unset, .unset]) rfl) ?_
                  refine own_go (fun _ => XS.iconst X5.here hx rfl (hb hby at_199)) ?_
                  refine own_go (fun _ => XS.istore X5.here hx rfl (hb hby at_200) rfl (l' := #[.val (.int sz), .val (.int bits), .val (.int cnt), .val (.int (2 : Int32)), .val (.ref t), .val (.int b0), .val (.int b1), .val (.int b2), .val (.int b3), .val (.int b4), .val (.int b5), .val (.int b6), .val (.double xx), .second, .val (.int (0 : Int32)), .unset, .unset]) rfl) ?_
                  show own_R p.tables e below _ T5 (mkF m 202 #[.val (.int sz), .val (.int bits), .val (.int cnt), .val (.int (2 : Int32)), .val (.ref t), .val (.int b0), .val (.int b1), .val (.int b2), .val (.int b3), .val (.int b4), .val (.int b5), .val (.int b6), .val (.double xx), .second, .val (.int (0 : Int32)), .unset, .unset] [])
                  have JT : ∀ f : Int32, xx = own_fx f → Jvm.Free.Fl.NoNaN64 (own_fx f) → own_R p.tables e below (own_E s below (own_Q0 n0) (room_1).cells (room_1).slots) T5 (mkF m 313 #[.val (.int sz), .val (.int bits), .val (.int cnt), .val (.int (2 : Int32)), .val (.ref t), .val (.int b0), .val (.int b1), .val (.int b2), .val (.int b3), .val (.int b4), .val (.int b5), .val (.int b6), .val (.double xx), .second, .val (.int f), .unset, .unset] []) := by
                    intro f hf hnn
                    show own_R p.tables e below _ T5 (mkF m 313 #[.val (.int sz), .val (.int bits), .val (.int cnt), .val (.int (2 : Int32)), .val (.ref t), .val (.int b0), .val (.int b1), .val (.int b2), .val (.int b3), .val (.int b4), .val (.int b5), .val (.int b6), .val (.double xx), .second, .val (.int f), .unset, .unset] [])
                    refine own_go (fun _ => XS.iload X5.here hx rfl (hb hby at_313) rfl ) ?_
                    show own_R p.tables e below _ T5 (mkF m 315 #[.val (.int sz), .val (.int bits), .val (.int cnt), .val (.int (2 : Int32)), .val (.ref t), .val (.int b0), .val (.int b1), .val (.int b2), .val (.int b3), .val (.int b4), .val (.int b5), .val (.int b6), .val (.double xx), .second, .val (.int f), .unset, .unset] [(.int f)])
                    by_cases hf0 : f = (0 : Int32)
                    · show own_R p.tables e below _ T5 (mkF m 315 #[.val (.int sz), .val (.int bits), .val (.int cnt), .val (.int (2 : Int32)), .val (.ref t), .val (.int b0), .val (.int b1), .val (.int b2), .val (.int b3), .val (.int b4), .val (.int b5), .val (.int b6), .val (.double xx), .second, .val (.int f), .unset, .unset] [(.int f)])
                      refine own_go (fun _ => XS.ifNo X5.here hx rfl (hb hby at_315) rfl ((if0 _ _).trans (teq hf0).2)) ?_
                      show own_R p.tables e below _ T5 (mkF m 318 #[.val (.int sz), .val (.int bits), .val (.int cnt), .val (.int (2 : Int32)), .val (.ref t), .val (.int b0), .val (.int b1), .val (.int b2), .val (.int b3), .val (.int b4), .val (.int b5), .val (.int b6), .val (.double xx), .second, .val (.int f), .unset, .unset] [])
                      have hfx : own_fx f = FP.dconst0 := if_pos hf0
                      rw [hfx] at hf hnn
                      show own_R p.tables e below _ T5 (mkF m 318 #[.val (.int sz), .val (.int bits), .val (.int cnt), .val (.int (2 : Int32)), .val (.ref t), .val (.int b0), .val (.int b1), .val (.int b2), .val (.int b3), .val (.int b4), .val (.int b5), .val (.int b6), .val (.double xx), .second, .val (.int f), .unset, .unset] [])
                      refine own_go (fun _ => XS.dconst0 X5.here hx rfl (hb hby at_318) rfl) ?_
                      refine own_go (fun _ => XS.goto X5.here hx rfl (pc0 := 319) (pc' := 327) rfl (hb hby at_319) (by decide) (by decide)) ?_
                      refine own_go (fun _ => XS.dstore X5.here hx rfl (hb hby at_327) rfl (l' := #[.val (.int sz), .val (.int bits), .val (.int cnt), .val (.int (2 : Int32)), .val (.ref t), .val (.int b0), .val (.int b1), .val (.int b2), .val (.int b3), .val (.int b4), .val (.int b5), .val (.int b6), .val (.double xx), .second, .val (.int f), .val (.double FP.dconst0), .second]) rfl) ?_
                      refine own_go (fun _ => XS.dload X5.here hx rfl (hb hby at_329) rfl ) ?_
                      show own_R p.tables e below _ T5 (mkF m 331 #[.val (.int sz), .val (.int bits), .val (.int cnt), .val (.int (2 : Int32)), .val (.ref t), .val (.int b0), .val (.int b1), .val (.int b2), .val (.int b3), .val (.int b4), .val (.int b5), .val (.int b6), .val (.double xx), .second, .val (.int f), .val (.double FP.dconst0), .second] [(.double xx)])
                      refine own_go (fun _ => XS.dload X5.here hx rfl (hb hby at_331) rfl ) ?_
                      refine own_go (fun _ => XS.dcmpS X5.here hx rfl (hb hby at_333) rfl rfl) ?_
                      show own_R p.tables e below _ T5 (mkF m 334 #[.val (.int sz), .val (.int bits), .val (.int cnt), .val (.int (2 : Int32)), .val (.ref t), .val (.int b0), .val (.int b1), .val (.int b2), .val (.int b3), .val (.int b4), .val (.int b5), .val (.int b6), .val (.double xx), .second, .val (.int f), .val (.double FP.dconst0), .second] [(.int (cmpValue (FP.dcmp xx FP.dconst0) .l))])
                      refine own_go (fun _ => XS.ifNo X5.here hx rfl (hb hby at_334) rfl ((if0 _ _).trans (teq (by rw [hf]; exact dcmpV_self hnn _)).2)) ?_
                      show own_R p.tables e below _ T5 (mkF m 337 #[.val (.int sz), .val (.int bits), .val (.int cnt), .val (.int (2 : Int32)), .val (.ref t), .val (.int b0), .val (.int b1), .val (.int b2), .val (.int b3), .val (.int b4), .val (.int b5), .val (.int b6), .val (.double xx), .second, .val (.int f), .val (.double FP.dconst0), .second] [])
                      refine own_go (fun _ => XS.iconst X5.here hx rfl (hb hby at_337)) ?_
                      refine own_go (fun _ => XS.goto X5.here hx rfl (pc0 := 338) (pc' := 342) rfl (hb hby at_338) (by decide) (by decide)) ?_
                      show own_R p.tables e below _ T5 (mkF m 342 #[.val (.int sz), .val (.int bits), .val (.int cnt), .val (.int (2 : Int32)), .val (.ref t), .val (.int b0), .val (.int b1), .val (.int b2), .val (.int b3), .val (.int b4), .val (.int b5), .val (.int b6), .val (.double xx), .second, .val (.int f), .val (.double FP.dconst0), .second] [(.int (1 : Int32))])
                      exact own_end X5 (some (.int (1 : Int32))) (fun h => by rw [hret] at h; cases h) hlk (fun fs hr => retN X5 hx (t := .boolean) hret (by simp) (hb hby at_342) hr) ⟨rfl, N5⟩ (by decide) (by decide)
                    · show own_R p.tables e below _ T5 (mkF m 315 #[.val (.int sz), .val (.int bits), .val (.int cnt), .val (.int (2 : Int32)), .val (.ref t), .val (.int b0), .val (.int b1), .val (.int b2), .val (.int b3), .val (.int b4), .val (.int b5), .val (.int b6), .val (.double xx), .second, .val (.int f), .unset, .unset] [(.int f)])
                      refine own_go (fun _ => XS.ifYes X5.here hx rfl (pc0 := 315) (pc' := 322) rfl (hb hby at_315) rfl ((if0 _ _).trans (feq hf0).2) (by decide) (by decide)) ?_
                      show own_R p.tables e below _ T5 (mkF m 322 #[.val (.int sz), .val (.int bits), .val (.int cnt), .val (.int (2 : Int32)), .val (.ref t), .val (.int b0), .val (.int b1), .val (.int b2), .val (.int b3), .val (.int b4), .val (.int b5), .val (.int b6), .val (.double xx), .second, .val (.int f), .unset, .unset] [])
                      have hfx : own_fx f = FP.ddiv FP.dconst1 (FP.i2d f) := if_neg hf0
                      rw [hfx] at hf hnn
                      show own_R p.tables e below _ T5 (mkF m 322 #[.val (.int sz), .val (.int bits), .val (.int cnt), .val (.int (2 : Int32)), .val (.ref t), .val (.int b0), .val (.int b1), .val (.int b2), .val (.int b3), .val (.int b4), .val (.int b5), .val (.int b6), .val (.double xx), .second, .val (.int f), .unset, .unset] [])
                      refine own_go (fun _ => XS.dconst1 X5.here hx rfl (hb hby at_322) rfl) ?_
                      refine own_go (fun _ => XS.iload X5.here hx rfl (hb hby at_323) rfl ) ?_
                      refine own_go (fun _ => XS.i2dS X5.here hx rfl (hb hby at_325) rfl rfl) ?_
                      refine own_go (fun _ => XS.ddivS X5.here hx rfl (hb hby at_326) rfl hnn rfl) ?_
                      show own_R p.tables e below _ T5 (mkF m 327 #[.val (.int sz), .val (.int bits), .val (.int cnt), .val (.int (2 : Int32)), .val (.ref t), .val (.int b0), .val (.int b1), .val (.int b2), .val (.int b3), .val (.int b4), .val (.int b5), .val (.int b6), .val (.double xx), .second, .val (.int f), .unset, .unset] [(.double (FP.ddiv FP.dconst1 (FP.i2d f)))])
                      refine own_go (fun _ => XS.dstore X5.here hx rfl (hb hby at_327) rfl (l' := #[.val (.int sz), .val (.int bits), .val (.int cnt), .val (.int (2 : Int32)), .val (.ref t), .val (.int b0), .val (.int b1), .val (.int b2), .val (.int b3), .val (.int b4), .val (.int b5), .val (.int b6), .val (.double xx), .second, .val (.int f), .val (.double (FP.ddiv FP.dconst1 (FP.i2d f))), .second]) rfl) ?_
                      refine own_go (fun _ => XS.dload X5.here hx rfl (hb hby at_329) rfl ) ?_
                      refine own_go (fun _ => XS.dload X5.here hx rfl (hb hby at_331) rfl ) ?_
                      refine own_go (fun _ => XS.dcmpS X5.here hx rfl (hb hby at_333) rfl rfl) ?_
                      show own_R p.tables e below _ T5 (mkF m 334 #[.val (.int sz), .val (.int bits), .val (.int cnt), .val (.int (2 : Int32)), .val (.ref t), .val (.int b0), .val (.int b1), .val (.int b2), .val (.int b3), .val (.int b4), .val (.int b5), .val (.int b6), .val (.double xx), .second, .val (.int f), .val (.double (FP.ddiv FP.dconst1 (FP.i2d f))), .second] [(.int (cmpValue (FP.dcmp xx (FP.ddiv FP.dconst1 (FP.i2d f))) .l))])
                      refine own_go (fun _ => XS.ifNo X5.here hx rfl (hb hby at_334) rfl ((if0 _ _).trans (teq (by rw [hf]; exact dcmpV_self hnn _)).2)) ?_
                      show own_R p.tables e below _ T5 (mkF m 337 #[.val (.int sz), .val (.int bits), .val (.int cnt), .val (.int (2 : Int32)), .val (.ref t), .val (.int b0), .val (.int b1), .val (.int b2), .val (.int b3), .val (.int b4), .val (.int b5), .val (.int b6), .val (.double xx), .second, .val (.int f), .val (.double (FP.ddiv FP.dconst1 (FP.i2d f))), .second] [])
                      refine own_go (fun _ => XS.iconst X5.here hx rfl (hb hby at_337)) ?_
                      refine own_go (fun _ => XS.goto X5.here hx rfl (pc0 := 338) (pc' := 342) rfl (hb hby at_338) (by decide) (by decide)) ?_
                      show own_R p.tables e below _ T5 (mkF m 342 #[.val (.int sz), .val (.int bits), .val (.int cnt), .val (.int (2 : Int32)), .val (.ref t), .val (.int b0), .val (.int b1), .val (.int b2), .val (.int b3), .val (.int b4), .val (.int b5), .val (.int b6), .val (.double xx), .second, .val (.int f), .val (.double (FP.ddiv FP.dconst1 (FP.i2d f))), .second] [(.int (1 : Int32))])
                      exact own_end X5 (some (.int (1 : Int32))) (fun h => by rw [hret] at h; cases h) hlk (fun fs hr => retN X5 hx (t := .boolean) hret (by simp) (hb hby at_342) hr) ⟨rfl, N5⟩ (by decide) (by decide)
                  refine own_go (fun _ => XS.iloadN X5.here hx rfl (hb hby at_202) rfl ) ?_
                  show own_R p.tables e below _ T5 (mkF m 203 #[.val (.int sz), .val (.int bits), .val (.int cnt), .val (.int (2 : Int32)), .val (.ref t), .val (.int b0), .val (.int b1), .val (.int b2), .val (.int b3), .val (.int b4), .val (.int b5), .val (.int b6), .val (.double xx), .second, .val (.int (0 : Int32)), .unset, .unset] [(.int (2 : Int32))])
                  refine own_go (fun _ => XS.ifNo X5.here hx rfl (hb hby at_203) rfl ((if0 _ _).trans (tlt (by decide)).2.2.2)) ?_
                  show own_R p.tables e below _ T5 (mkF m 206 #[.val (.int sz), .val (.int bits), .val (.int cnt), .val (.int (2 : Int32)), .val (.ref t), .val (.int b0), .val (.int b1), .val (.int b2), .val (.int b3), .val (.int b4), .val (.int b5), .val (.int b6), .val (.double xx), .second, .val (.int (0 : Int32)), .unset, .unset] [])
                  refine own_go (fun _ => XS.iload X5.here hx rfl (hb hby at_206) rfl ) ?_
                  show own_R p.tables e below _ T5 (mkF m 208 #[.val (.int sz), .val (.int bits), .val (.int cnt), .val (.int (2 : Int32)), .val (.ref t), .val (.int b0), .val (.int b1), .val (.int b2), .val (.int b3), .val (.int b4), .val (.int b5), .val (.int b6), .val (.double xx), .second, .val (.int (0 : Int32)), .unset, .unset] [(.int b0)])
                  by_cases k0 : b0 = (0 : Int32)
                  · show own_R p.tables e below _ T5 (mkF m 208 #[.val (.int sz), .val (.int bits), .val (.int cnt), .val (.int (2 : Int32)), .val (.ref t), .val (.int b0), .val (.int b1), .val (.int b2), .val (.int b3), .val (.int b4), .val (.int b5), .val (.int b6), .val (.double xx), .second, .val (.int (0 : Int32)), .unset, .unset] [(.int b0)])
                    refine own_go (fun _ => XS.ifYes X5.here hx rfl (pc0 := 208) (pc' := 217) rfl (hb hby at_208) rfl ((if0 _ _).trans (teq k0).1) (by decide) (by decide)) ?_
                    show own_R p.tables e below _ T5 (mkF m 217 #[.val (.int sz), .val (.int bits), .val (.int cnt), .val (.int (2 : Int32)), .val (.ref t), .val (.int b0), .val (.int b1), .val (.int b2), .val (.int b3), .val (.int b4), .val (.int b5), .val (.int b6), .val (.double xx), .second, .val (.int (0 : Int32)), .unset, .unset] [])
                    refine own_go (fun _ => XS.iloadN X5.here hx rfl (hb hby at_217) rfl ) ?_
                    show own_R p.tables e below _ T5 (mkF m 218 #[.val (.int sz), .val (.int bits), .val (.int cnt), .val (.int (2 : Int32)), .val (.ref t), .val (.int b0), .val (.int b1), .val (.int b2), .val (.int b3), .val (.int b4), .val (.int b5), .val (.int b6), .val (.double xx), .second, .val (.int (0 : Int32)), .unset, .unset] [(.int (2 : Int32))])
                    refine own_go (fun _ => XS.iconst X5.here hx rfl (hb hby at_218)) ?_
                    show own_R p.tables e below _ T5 (mkF m 219 #[.val (.int sz), .val (.int bits), .val (.int cnt), .val (.int (2 : Int32)), .val (.ref t), .val (.int b0), .val (.int b1), .val (.int b2), .val (.int b3), .val (.int b4), .val (.int b5), .val (.int b6), .val (.double xx), .second, .val (.int (0 : Int32)), .unset, .unset] [(.int (1 : Int32)), (.int (2 : Int32))])
                    refine own_go (fun _ => XS.icmpNo X5.here hx rfl (hb hby at_219) rfl (tlt (by decide)).2.2.2) ?_
                    show own_R p.tables e below _ T5 (mkF m 222 #[.val (.int sz), .val (.int bits), .val (.int cnt), .val (.int (2 : Int32)), .val (.ref t), .val (.int b0), .val (.int b1), .val (.int b2), .val (.int b3), .val (.int b4), .val (.int b5), .val (.int b6), .val (.double xx), .second, .val (.int (0 : Int32)), .unset, .unset] [])
                    refine own_go (fun _ => XS.iload X5.here hx rfl (hb hby at_222) rfl ) ?_
                    show own_R p.tables e below _ T5 (mkF m 224 #[.val (.int sz), .val (.int bits), .val (.int cnt), .val (.int (2 : Int32)), .val (.ref t), .val (.int b0), .val (.int b1), .val (.int b2), .val (.int b3), .val (.int b4), .val (.int b5), .val (.int b6), .val (.double xx), .second, .val (.int (0 : Int32)), .unset, .unset] [(.int b1)])
                    by_cases k1 : b1 = (0 : Int32)
                    · show own_R p.tables e below _ T5 (mkF m 224 #[.val (.int sz), .val (.int bits), .val (.int cnt), .val (.int (2 : Int32)), .val (.ref t), .val (.int b0), .val (.int b1), .val (.int b2), .val (.int b3), .val (.int b4), .val (.int b5), .val (.int b6), .val (.double xx), .second, .val (.int (0 : Int32)), .unset, .unset] [(.int b1)])
                      refine own_go (fun _ => XS.ifYes X5.here hx rfl (pc0 := 224) (pc' := 233) rfl (hb hby at_224) rfl ((if0 _ _).trans (teq k1).1) (by decide) (by decide)) ?_
                      show own_R p.tables e below _ T5 (mkF m 233 #[.val (.int sz), .val (.int bits), .val (.int cnt), .val (.int (2 : Int32)), .val (.ref t), .val (.int b0), .val (.int b1), .val (.int b2), .val (.int b3), .val (.int b4), .val (.int b5), .val (.int b6), .val (.double xx), .second, .val (.int (0 : Int32)), .unset, .unset] [])
                      refine own_go (fun _ => XS.iloadN X5.here hx rfl (hb hby at_233) rfl ) ?_
                      show own_R p.tables e below _ T5 (mkF m 234 #[.val (.int sz), .val (.int bits), .val (.int cnt), .val (.int (2 : Int32)), .val (.ref t), .val (.int b0), .val (.int b1), .val (.int b2), .val (.int b3), .val (.int b4), .val (.int b5), .val (.int b6), .val (.double xx), .second, .val (.int (0 : Int32)), .unset, .unset] [(.int (2 : Int32))])
                      refine own_go (fun _ => XS.iconst X5.here hx rfl (hb hby at_234)) ?_
                      show own_R p.tables e below _ T5 (mkF m 235 #[.val (.int sz), .val (.int bits), .val (.int cnt), .val (.int (2 : Int32)), .val (.ref t), .val (.int b0), .val (.int b1), .val (.int b2), .val (.int b3), .val (.int b4), .val (.int b5), .val (.int b6), .val (.double xx), .second, .val (.int (0 : Int32)), .unset, .unset] [(.int (2 : Int32)), (.int (2 : Int32))])
                      refine own_go (fun _ => XS.icmpYes X5.here hx rfl (pc0 := 235) (pc' := 249) rfl (hb hby at_235) rfl (flt (by decide)).2.2.2 (by decide) (by decide)) ?_
                      show own_R p.tables e below _ T5 (mkF m 249 #[.val (.int sz), .val (.int bits), .val (.int cnt), .val (.int (2 : Int32)), .val (.ref t), .val (.int b0), .val (.int b1), .val (.int b2), .val (.int b3), .val (.int b4), .val (.int b5), .val (.int b6), .val (.double xx), .second, .val (.int (0 : Int32)), .unset, .unset] [])
                      refine own_go (fun _ => XS.iloadN X5.here hx rfl (hb hby at_249) rfl ) ?_
                      show own_R p.tables e below _ T5 (mkF m 250 #[.val (.int sz), .val (.int bits), .val (.int cnt), .val (.int (2 : Int32)), .val (.ref t), .val (.int b0), .val (.int b1), .val (.int b2), .val (.int b3), .val (.int b4), .val (.int b5), .val (.int b6), .val (.double xx), .second, .val (.int (0 : Int32)), .unset, .unset] [(.int (2 : Int32))])
                      refine own_go (fun _ => XS.iconst X5.here hx rfl (hb hby at_250)) ?_
                      show own_R p.tables e below _ T5 (mkF m 251 #[.val (.int sz), .val (.int bits), .val (.int cnt), .val (.int (2 : Int32)), .val (.ref t), .val (.int b0), .val (.int b1), .val (.int b2), .val (.int b3), .val (.int b4), .val (.int b5), .val (.int b6), .val (.double xx), .second, .val (.int (0 : Int32)), .unset, .unset] [(.int (3 : Int32)), (.int (2 : Int32))])
                      refine own_go (fun _ => XS.icmpYes X5.here hx rfl (pc0 := 251) (pc' := 265) rfl (hb hby at_251) rfl (flt (by decide)).2.2.2 (by decide) (by decide)) ?_
                      show own_R p.tables e below _ T5 (mkF m 265 #[.val (.int sz), .val (.int bits), .val (.int cnt), .val (.int (2 : Int32)), .val (.ref t), .val (.int b0), .val (.int b1), .val (.int b2), .val (.int b3), .val (.int b4), .val (.int b5), .val (.int b6), .val (.double xx), .second, .val (.int (0 : Int32)), .unset, .unset] [])
                      refine own_go (fun _ => XS.iloadN X5.here hx rfl (hb hby at_265) rfl ) ?_
                      show own_R p.tables e below _ T5 (mkF m 266 #[.val (.int sz), .val (.int bits), .val (.int cnt), .val (.int (2 : Int32)), .val (.ref t), .val (.int b0), .val (.int b1), .val (.int b2), .val (.int b3), .val (.int b4), .val (.int b5), .val (.int b6), .val (.double xx), .second, .val (.int (0 : Int32)), .unset, .unset] [(.int (2 : Int32))])
                      refine own_go (fun _ => XS.iconst X5.here hx rfl (hb hby at_266)) ?_
                      show own_R p.tables e below _ T5 (mkF m 267 #[.val (.int sz), .val (.int bits), .val (.int cnt), .val (.int (2 : Int32)), .val (.ref t), .val (.int b0), .val (.int b1), .val (.int b2), .val (.int b3), .val (.int b4), .val (.int b5), .val (.int b6), .val (.double xx), .second, .val (.int (0 : Int32)), .unset, .unset] [(.int (4 : Int32)), (.int (2 : Int32))])
                      refine own_go (fun _ => XS.icmpYes X5.here hx rfl (pc0 := 267) (pc' := 281) rfl (hb hby at_267) rfl (flt (by decide)).2.2.2 (by decide) (by decide)) ?_
                      show own_R p.tables e below _ T5 (mkF m 281 #[.val (.int sz), .val (.int bits), .val (.int cnt), .val (.int (2 : Int32)), .val (.ref t), .val (.int b0), .val (.int b1), .val (.int b2), .val (.int b3), .val (.int b4), .val (.int b5), .val (.int b6), .val (.double xx), .second, .val (.int (0 : Int32)), .unset, .unset] [])
                      refine own_go (fun _ => XS.iloadN X5.here hx rfl (hb hby at_281) rfl ) ?_
                      show own_R p.tables e below _ T5 (mkF m 282 #[.val (.int sz), .val (.int bits), .val (.int cnt), .val (.int (2 : Int32)), .val (.ref t), .val (.int b0), .val (.int b1), .val (.int b2), .val (.int b3), .val (.int b4), .val (.int b5), .val (.int b6), .val (.double xx), .second, .val (.int (0 : Int32)), .unset, .unset] [(.int (2 : Int32))])
                      refine own_go (fun _ => XS.iconst X5.here hx rfl (hb hby at_282)) ?_
                      show own_R p.tables e below _ T5 (mkF m 283 #[.val (.int sz), .val (.int bits), .val (.int cnt), .val (.int (2 : Int32)), .val (.ref t), .val (.int b0), .val (.int b1), .val (.int b2), .val (.int b3), .val (.int b4), .val (.int b5), .val (.int b6), .val (.double xx), .second, .val (.int (0 : Int32)), .unset, .unset] [(.int (5 : Int32)), (.int (2 : Int32))])
                      refine own_go (fun _ => XS.icmpYes X5.here hx rfl (pc0 := 283) (pc' := 298) rfl (hb hby at_283) rfl (flt (by decide)).2.2.2 (by decide) (by decide)) ?_
                      show own_R p.tables e below _ T5 (mkF m 298 #[.val (.int sz), .val (.int bits), .val (.int cnt), .val (.int (2 : Int32)), .val (.ref t), .val (.int b0), .val (.int b1), .val (.int b2), .val (.int b3), .val (.int b4), .val (.int b5), .val (.int b6), .val (.double xx), .second, .val (.int (0 : Int32)), .unset, .unset] [])
                      refine own_go (fun _ => XS.iloadN X5.here hx rfl (hb hby at_298) rfl ) ?_
                      show own_R p.tables e below _ T5 (mkF m 299 #[.val (.int sz), .val (.int bits), .val (.int cnt), .val (.int (2 : Int32)), .val (.ref t), .val (.int b0), .val (.int b1), .val (.int b2), .val (.int b3), .val (.int b4), .val (.int b5), .val (.int b6), .val (.double xx), .second, .val (.int (0 : Int32)), .unset, .unset] [(.int (2 : Int32))])
                      refine own_go (fun _ => XS.bipush X5.here hx rfl (hb hby at_299)) ?_
                      show own_R p.tables e below _ T5 (mkF m 301 #[.val (.int sz), .val (.int bits), .val (.int cnt), .val (.int (2 : Int32)), .val (.ref t), .val (.int b0), .val (.int b1), .val (.int b2), .val (.int b3), .val (.int b4), .val (.int b5), .val (.int b6), .val (.double xx), .second, .val (.int (0 : Int32)), .unset, .unset] [(.int (6 : Int32)), (.int (2 : Int32))])
                      refine own_go (fun _ => XS.icmpYes X5.here hx rfl (pc0 := 301) (pc' := 313) rfl (hb hby at_301) rfl (flt (by decide)).2.2.2 (by decide) (by decide)) ?_
                      show own_R p.tables e below _ T5 (mkF m 313 #[.val (.int sz), .val (.int bits), .val (.int cnt), .val (.int (2 : Int32)), .val (.ref t), .val (.int b0), .val (.int b1), .val (.int b2), .val (.int b3), .val (.int b4), .val (.int b5), .val (.int b6), .val (.double xx), .second, .val (.int (0 : Int32)), .unset, .unset] [])
                      exact JT 0 (hxx.symm.trans (by simp [own_rr, own_fx, k0, k1])) (own_fn 0)
                    · show own_R p.tables e below _ T5 (mkF m 224 #[.val (.int sz), .val (.int bits), .val (.int cnt), .val (.int (2 : Int32)), .val (.ref t), .val (.int b0), .val (.int b1), .val (.int b2), .val (.int b3), .val (.int b4), .val (.int b5), .val (.int b6), .val (.double xx), .second, .val (.int (0 : Int32)), .unset, .unset] [(.int b1)])
                      refine own_go (fun _ => XS.ifNo X5.here hx rfl (hb hby at_224) rfl ((if0 _ _).trans (feq k1).1)) ?_
                      show own_R p.tables e below _ T5 (mkF m 227 #[.val (.int sz), .val (.int bits), .val (.int cnt), .val (.int (2 : Int32)), .val (.ref t), .val (.int b0), .val (.int b1), .val (.int b2), .val (.int b3), .val (.int b4), .val (.int b5), .val (.int b6), .val (.double xx), .second, .val (.int (0 : Int32)), .unset, .unset] [])
                      refine own_go (fun _ => XS.iconst X5.here hx rfl (hb hby at_227)) ?_
                      refine own_go (fun _ => XS.istore X5.here hx rfl (hb hby at_228) rfl (l' := #[.val (.int sz), .val (.int bits), .val (.int cnt), .val (.int (2 : Int32)), .val (.ref t), .val (.int b0), .val (.int b1), .val (.int b2), .val (.int b3), .val (.int b4), .val (.int b5), .val (.int b6), .val (.double xx), .second, .val (.int (2 : Int32)), .unset, .unset]) rfl) ?_
                      refine own_go (fun _ => XS.goto X5.here hx rfl (pc0 := 230) (pc' := 313) rfl (hb hby at_230) (by decide) (by decide)) ?_
                      show own_R p.tables e below _ T5 (mkF m 313 #[.val (.int sz), .val (.int bits), .val (.int cnt), .val (.int (2 : Int32)), .val (.ref t), .val (.int b0), .val (.int b1), .val (.int b2), .val (.int b3), .val (.int b4), .val (.int b5), .val (.int b6), .val (.double xx), .second, .val (.int (2 : Int32)), .unset, .unset] [])
                      exact JT 2 (hxx.symm.trans (by simp [own_rr, own_fx, k0, k1])) (own_fn 2)
                  · show own_R p.tables e below _ T5 (mkF m 208 #[.val (.int sz), .val (.int bits), .val (.int cnt), .val (.int (2 : Int32)), .val (.ref t), .val (.int b0), .val (.int b1), .val (.int b2), .val (.int b3), .val (.int b4), .val (.int b5), .val (.int b6), .val (.double xx), .second, .val (.int (0 : Int32)), .unset, .unset] [(.int b0)])
                    refine own_go (fun _ => XS.ifNo X5.here hx rfl (hb hby at_208) rfl ((if0 _ _).trans (feq k0).1)) ?_
                    show own_R p.tables e below _ T5 (mkF m 211 #[.val (.int sz), .val (.int bits), .val (.int cnt), .val (.int (2 : Int32)), .val (.ref t), .val (.int b0), .val (.int b1), .val (.int b2), .val (.int b3), .val (.int b4), .val (.int b5), .val (.int b6), .val (.double xx), .second, .val (.int (0 : Int32)), .unset, .unset] [])
                    refine own_go (fun _ => XS.iconst X5.here hx rfl (hb hby at_211)) ?_
                    refine own_go (fun _ => XS.istore X5.here hx rfl (hb hby at_212) rfl (l' := #[.val (.int sz), .val (.int bits), .val (.int cnt), .val (.int (2 : Int32)), .val (.ref t), .val (.int b0), .val (.int b1), .val (.int b2), .val (.int b3), .val (.int b4), .val (.int b5), .val (.int b6), .val (.double xx), .second, .val (.int (1 : Int32)), .unset, .unset]) rfl) ?_
                    refine own_go (fun _ => XS.goto X5.here hx rfl (pc0 := 214) (pc' := 313) rfl (hb hby at_214) (by decide) (by decide)) ?_
                    show own_R p.tables e below _ T5 (mkF m 313 #[.val (.int sz), .val (.int bits), .val (.int cnt), .val (.int (2 : Int32)), .val (.ref t), .val (.int b0), .val (.int b1), .val (.int b2), .val (.int b3), .val (.int b4), .val (.int b5), .val (.int b6), .val (.double xx), .second, .val (.int (1 : Int32)), .unset, .unset] [])
                    exact JT 1 (hxx.symm.trans (by simp [own_rr, own_fx, k0])) (own_fn 1)
                · show own_R p.tables e below _ T1 (mkF m 106 #[.val (.int sz), .val (.int bits), .val (.int cnt), .val (.int (3 : Int32)), .val (.ref t), .val (.int b0), .val (.int b1), .val (.int b2), .val (.int b3), .val (.int b4), .val (.int b5), .val (.int b6), .unset, .unset, .unset, .unset, .unset] [])
                  have V2 := V1.pad (pad_rep [] (.int 0) 3)
                  have g1a : n0 ≤ t := Nat.le_trans Z0 q1
                  refine own_go (fun _ => XS.iloadN X1.here hx rfl (hb hby at_106) rfl ) ?_
                  show own_R p.tables e below _ T1 (mkF m 107 #[.val (.int sz), .val (.int bits), .val (.int cnt), .val (.int (3 : Int32)), .val (.ref t), .val (.int b0), .val (.int b1), .val (.int b2), .val (.int b3), .val (.int b4), .val (.int b5), .val (.int b6), .unset, .unset, .unset, .unset, .unset] [(.int (3 : Int32))])
                  refine own_go (fun _ => XS.ifNo X1.here hx rfl (hb hby at_107) rfl ((if0 _ _).trans (tlt (by decide)).2.2.2)) ?_
                  show own_R p.tables e below _ T1 (mkF m 110 #[.val (.int sz), .val (.int bits), .val (.int cnt), .val (.int (3 : Int32)), .val (.ref t), .val (.int b0), .val (.int b1), .val (.int b2), .val (.int b3), .val (.int b4), .val (.int b5), .val (.int b6), .unset, .unset, .unset, .unset, .unset] [])
                  refine own_go (fun _ => XS.aload X1.here hx rfl (hb hby at_110) rfl rfl) ?_
                  show own_R p.tables e below _ T1 (mkF m 112 #[.val (.int sz), .val (.int bits), .val (.int cnt), .val (.int (3 : Int32)), .val (.ref t), .val (.int b0), .val (.int b1), .val (.int b2), .val (.int b3), .val (.int b4), .val (.int b5), .val (.int b6), .unset, .unset, .unset, .unset, .unset] [(.ref t)])
                  refine own_go (fun _ => XS.iconst X1.here hx rfl (hb hby at_112)) ?_
                  show own_R p.tables e below _ T1 (mkF m 113 #[.val (.int sz), .val (.int bits), .val (.int cnt), .val (.int (3 : Int32)), .val (.ref t), .val (.int b0), .val (.int b1), .val (.int b2), .val (.int b3), .val (.int b4), .val (.int b5), .val (.int b6), .unset, .unset, .unset, .unset, .unset] [(.int (0 : Int32)), (.ref t)])
                  refine own_go (fun _ => XS.iload X1.here hx rfl (hb hby at_113) rfl ) ?_
                  show own_R p.tables e below _ T1 (mkF m 115 #[.val (.int sz), .val (.int bits), .val (.int cnt), .val (.int (3 : Int32)), .val (.ref t), .val (.int b0), .val (.int b1), .val (.int b2), .val (.int b3), .val (.int b4), .val (.int b5), .val (.int b6), .unset, .unset, .unset, .unset, .unset] [(.int b0), (.int (0 : Int32)), (.ref t)])
                  obtain ⟨Ts0, hs0, Xs0, es0, Ws0, Vs0, sts0⟩ := own_stZ X1 hx hZ rfl V2 (j := (0 : Int32)) ⟨by decide, by decide⟩ 0 rfl (Nat.le_of_ble_eq_true rfl) hb0 (g := (mkF m 115 #[.val (.int sz), .val (.int bits), .val (.int cnt), .val (.int (3 : Int32)), .val (.ref t), .val (.int b0), .val (.int b1), .val (.int b2), .val (.int b3), .val (.int b4), .val (.int b5), .val (.int b6), .unset, .unset, .unset, .unset, .unset] [(.int b0), (.int (0 : Int32)), (.ref t)])) rfl rfl (hb hby at_115)
                  have Ks0 : Keep h0 hs0 [] := K1.wr Ws0 (Or.inr q1)
                  have Ns0 := Fr.snoc Xs0 N1 g1a
                  refine own_go sts0 ?_
                  show own_R p.tables e below _ Ts0 (mkF m 116 #[.val (.int sz), .val (.int bits), .val (.int cnt), .val (.int (3 : Int32)), .val (.ref t), .val (.int b0), .val (.int b1), .val (.int b2), .val (.int b3), .val (.int b4), .val (.int b5), .val (.int b6), .unset, .unset, .unset, .unset, .unset] [])
                  refine own_go (fun _ => XS.iloadN Xs0.here hx rfl (hb hby at_116) rfl ) ?_
                  show own_R p.tables e below _ Ts0 (mkF m 117 #[.val (.int sz), .val (.int bits), .val (.int cnt), .val (.int (3 : Int32)), .val (.ref t), .val (.int b0), .val (.int b1), .val (.int b2), .val (.int b3), .val (.int b4), .val (.int b5), .val (.int b6), .unset, .unset, .unset, .unset, .unset] [(.int (3 : Int32))])
                  refine own_go (fun _ => XS.iconst Xs0.here hx rfl (hb hby at_117)) ?_
                  show own_R p.tables e below _ Ts0 (mkF m 118 #[.val (.int sz), .val (.int bits), .val (.int cnt), .val (.int (3 : Int32)), .val (.ref t), .val (.int b0), .val (.int b1), .val (.int b2), .val (.int b3), .val (.int b4), .val (.int b5), .val (.int b6), .unset, .unset, .unset, .unset, .unset] [(.int (1 : Int32)), (.int (3 : Int32))])
                  refine own_go (fun _ => XS.icmpNo Xs0.here hx rfl (hb hby at_118) rfl (tlt (by decide)).2.2.2) ?_
                  show own_R p.tables e below _ Ts0 (mkF m 121 #[.val (.int sz), .val (.int bits), .val (.int cnt), .val (.int (3 : Int32)), .val (.ref t), .val (.int b0), .val (.int b1), .val (.int b2), .val (.int b3), .val (.int b4), .val (.int b5), .val (.int b6), .unset, .unset, .unset, .unset, .unset] [])
                  refine own_go (fun _ => XS.aload Xs0.here hx rfl (hb hby at_121) rfl rfl) ?_
                  show own_R p.tables e below _ Ts0 (mkF m 123 #[.val (.int sz), .val (.int bits), .val (.int cnt), .val (.int (3 : Int32)), .val (.ref t), .val (.int b0), .val (.int b1), .val (.int b2), .val (.int b3), .val (.int b4), .val (.int b5), .val (.int b6), .unset, .unset, .unset, .unset, .unset] [(.ref t)])
                  refine own_go (fun _ => XS.iconst Xs0.here hx rfl (hb hby at_123)) ?_
                  show own_R p.tables e below _ Ts0 (mkF m 124 #[.val (.int sz), .val (.int bits), .val (.int cnt), .val (.int (3 : Int32)), .val (.ref t), .val (.int b0), .val (.int b1), .val (.int b2), .val (.int b3), .val (.int b4), .val (.int b5), .val (.int b6), .unset, .unset, .unset, .unset, .unset] [(.int (1 : Int32)), (.ref t)])
                  refine own_go (fun _ => XS.iload Xs0.here hx rfl (hb hby at_124) rfl ) ?_
                  show own_R p.tables e below _ Ts0 (mkF m 126 #[.val (.int sz), .val (.int bits), .val (.int cnt), .val (.int (3 : Int32)), .val (.ref t), .val (.int b0), .val (.int b1), .val (.int b2), .val (.int b3), .val (.int b4), .val (.int b5), .val (.int b6), .unset, .unset, .unset, .unset, .unset] [(.int b1), (.int (1 : Int32)), (.ref t)])
                  obtain ⟨Ts1, hs1, Xs1, es1, Ws1, Vs1, sts1⟩ := own_stZ Xs0 hx hZ es0 Vs0 (j := (1 : Int32)) ⟨by decide, by decide⟩ 1 rfl (Nat.le_of_ble_eq_true rfl) hb1 (g := (mkF m 126 #[.val (.int sz), .val (.int bits), .val (.int cnt), .val (.int (3 : Int32)), .val (.ref t), .val (.int b0), .val (.int b1), .val (.int b2), .val (.int b3), .val (.int b4), .val (.int b5), .val (.int b6), .unset, .unset, .unset, .unset, .unset] [(.int b1), (.int (1 : Int32)), (.ref t)])) rfl rfl (hb hby at_126)
                  have Ks1 : Keep h0 hs1 [] := Ks0.wr Ws1 (Or.inr q1)
                  have Ns1 := Fr.snoc Xs1 Ns0 g1a
                  refine own_go sts1 ?_
                  show own_R p.tables e below _ Ts1 (mkF m 127 #[.val (.int sz), .val (.int bits), .val (.int cnt), .val (.int (3 : Int32)), .val (.ref t), .val (.int b0), .val (.int b1), .val (.int b2), .val (.int b3), .val (.int b4), .val (.int b5), .val (.int b6), .unset, .unset, .unset, .unset, .unset] [])
                  refine own_go (fun _ => XS.iloadN Xs1.here hx rfl (hb hby at_127) rfl ) ?_
                  show own_R p.tables e below _ Ts1 (mkF m 128 #[.val (.int sz), .val (.int bits), .val (.int cnt), .val (.int (3 : Int32)), .val (.ref t), .val (.int b0), .val (.int b1), .val (.int b2), .val (.int b3), .val (.int b4), .val (.int b5), .val (.int b6), .unset, .unset, .unset, .unset, .unset] [(.int (3 : Int32))])
                  refine own_go (fun _ => XS.iconst Xs1.here hx rfl (hb hby at_128)) ?_
                  show own_R p.tables e below _ Ts1 (mkF m 129 #[.val (.int sz), .val (.int bits), .val (.int cnt), .val (.int (3 : Int32)), .val (.ref t), .val (.int b0), .val (.int b1), .val (.int b2), .val (.int b3), .val (.int b4), .val (.int b5), .val (.int b6), .unset, .unset, .unset, .unset, .unset] [(.int (2 : Int32)), (.int (3 : Int32))])
                  refine own_go (fun _ => XS.icmpNo Xs1.here hx rfl (hb hby at_129) rfl (tlt (by decide)).2.2.2) ?_
                  show own_R p.tables e below _ Ts1 (mkF m 132 #[.val (.int sz), .val (.int bits), .val (.int cnt), .val (.int (3 : Int32)), .val (.ref t), .val (.int b0), .val (.int b1), .val (.int b2), .val (.int b3), .val (.int b4), .val (.int b5), .val (.int b6), .unset, .unset, .unset, .unset, .unset] [])
                  refine own_go (fun _ => XS.aload Xs1.here hx rfl (hb hby at_132) rfl rfl) ?_
                  show own_R p.tables e below _ Ts1 (mkF m 134 #[.val (.int sz), .val (.int bits), .val (.int cnt), .val (.int (3 : Int32)), .val (.ref t), .val (.int b0), .val (.int b1), .val (.int b2), .val (.int b3), .val (.int b4), .val (.int b5), .val (.int b6), .unset, .unset, .unset, .unset, .unset] [(.ref t)])
                  refine own_go (fun _ => XS.iconst Xs1.here hx rfl (hb hby at_134)) ?_
                  show own_R p.tables e below _ Ts1 (mkF m 135 #[.val (.int sz), .val (.int bits), .val (.int cnt), .val (.int (3 : Int32)), .val (.ref t), .val (.int b0), .val (.int b1), .val (.int b2), .val (.int b3), .val (.int b4), .val (.int b5), .val (.int b6), .unset, .unset, .unset, .unset, .unset] [(.int (2 : Int32)), (.ref t)])
                  refine own_go (fun _ => XS.iload Xs1.here hx rfl (hb hby at_135) rfl ) ?_
                  show own_R p.tables e below _ Ts1 (mkF m 137 #[.val (.int sz), .val (.int bits), .val (.int cnt), .val (.int (3 : Int32)), .val (.ref t), .val (.int b0), .val (.int b1), .val (.int b2), .val (.int b3), .val (.int b4), .val (.int b5), .val (.int b6), .unset, .unset, .unset, .unset, .unset] [(.int b2), (.int (2 : Int32)), (.ref t)])
                  obtain ⟨Ts2, hs2, Xs2, es2, Ws2, Vs2, sts2⟩ := own_stZ Xs1 hx hZ es1 Vs1 (j := (2 : Int32)) ⟨by decide, by decide⟩ 2 rfl (Nat.le_of_ble_eq_true rfl) hb2 (g := (mkF m 137 #[.val (.int sz), .val (.int bits), .val (.int cnt), .val (.int (3 : Int32)), .val (.ref t), .val (.int b0), .val (.int b1), .val (.int b2), .val (.int b3), .val (.int b4), .val (.int b5), .val (.int b6), .unset, .unset, .unset, .unset, .unset] [(.int b2), (.int (2 : Int32)), (.ref t)])) rfl rfl (hb hby at_137)
                  have Ks2 : Keep h0 hs2 [] := Ks1.wr Ws2 (Or.inr q1)
                  have Ns2 := Fr.snoc Xs2 Ns1 g1a
                  refine own_go sts2 ?_
                  show own_R p.tables e below _ Ts2 (mkF m 138 #[.val (.int sz), .val (.int bits), .val (.int cnt), .val (.int (3 : Int32)), .val (.ref t), .val (.int b0), .val (.int b1), .val (.int b2), .val (.int b3), .val (.int b4), .val (.int b5), .val (.int b6), .unset, .unset, .unset, .unset, .unset] [])
                  refine own_go (fun _ => XS.iloadN Xs2.here hx rfl (hb hby at_138) rfl ) ?_
                  show own_R p.tables e below _ Ts2 (mkF m 139 #[.val (.int sz), .val (.int bits), .val (.int cnt), .val (.int (3 : Int32)), .val (.ref t), .val (.int b0), .val (.int b1), .val (.int b2), .val (.int b3), .val (.int b4), .val (.int b5), .val (.int b6), .unset, .unset, .unset, .unset, .unset] [(.int (3 : Int32))])
                  refine own_go (fun _ => XS.iconst Xs2.here hx rfl (hb hby at_139)) ?_
                  show own_R p.tables e below _ Ts2 (mkF m 140 #[.val (.int sz), .val (.int bits), .val (.int cnt), .val (.int (3 : Int32)), .val (.ref t), .val (.int b0), .val (.int b1), .val (.int b2), .val (.int b3), .val (.int b4), .val (.int b5), .val (.int b6), .unset, .unset, .unset, .unset, .unset] [(.int (3 : Int32)), (.int (3 : Int32))])
                  refine own_go (fun _ => XS.icmpYes Xs2.here hx rfl (pc0 := 140) (pc' := 149) rfl (hb hby at_140) rfl (flt (by decide)).2.2.2 (by decide) (by decide)) ?_
                  show own_R p.tables e below _ Ts2 (mkF m 149 #[.val (.int sz), .val (.int bits), .val (.int cnt), .val (.int (3 : Int32)), .val (.ref t), .val (.int b0), .val (.int b1), .val (.int b2), .val (.int b3), .val (.int b4), .val (.int b5), .val (.int b6), .unset, .unset, .unset, .unset, .unset] [])
                  refine own_go (fun _ => XS.iloadN Xs2.here hx rfl (hb hby at_149) rfl ) ?_
                  show own_R p.tables e below _ Ts2 (mkF m 150 #[.val (.int sz), .val (.int bits), .val (.int cnt), .val (.int (3 : Int32)), .val (.ref t), .val (.int b0), .val (.int b1), .val (.int b2), .val (.int b3), .val (.int b4), .val (.int b5), .val (.int b6), .unset, .unset, .unset, .unset, .unset] [(.int (3 : Int32))])
                  refine own_go (fun _ => XS.iconst Xs2.here hx rfl (hb hby at_150)) ?_
                  show own_R p.tables e below _ Ts2 (mkF m 151 #[.val (.int sz), .val (.int bits), .val (.int cnt), .val (.int (3 : Int32)), .val (.ref t), .val (.int b0), .val (.int b1), .val (.int b2), .val (.int b3), .val (.int b4), .val (.int b5), .val (.int b6), .unset, .unset, .unset, .unset, .unset] [(.int (4 : Int32)), (.int (3 : Int32))])
                  refine own_go (fun _ => XS.icmpYes Xs2.here hx rfl (pc0 := 151) (pc' := 160) rfl (hb hby at_151) rfl (flt (by decide)).2.2.2 (by decide) (by decide)) ?_
                  show own_R p.tables e below _ Ts2 (mkF m 160 #[.val (.int sz), .val (.int bits), .val (.int cnt), .val (.int (3 : Int32)), .val (.ref t), .val (.int b0), .val (.int b1), .val (.int b2), .val (.int b3), .val (.int b4), .val (.int b5), .val (.int b6), .unset, .unset, .unset, .unset, .unset] [])
                  refine own_go (fun _ => XS.iloadN Xs2.here hx rfl (hb hby at_160) rfl ) ?_
                  show own_R p.tables e below _ Ts2 (mkF m 161 #[.val (.int sz), .val (.int bits), .val (.int cnt), .val (.int (3 : Int32)), .val (.ref t), .val (.int b0), .val (.int b1), .val (.int b2), .val (.int b3), .val (.int b4), .val (.int b5), .val (.int b6), .unset, .unset, .unset, .unset, .unset] [(.int (3 : Int32))])
                  refine own_go (fun _ => XS.iconst Xs2.here hx rfl (hb hby at_161)) ?_
                  show own_R p.tables e below _ Ts2 (mkF m 162 #[.val (.int sz), .val (.int bits), .val (.int cnt), .val (.int (3 : Int32)), .val (.ref t), .val (.int b0), .val (.int b1), .val (.int b2), .val (.int b3), .val (.int b4), .val (.int b5), .val (.int b6), .unset, .unset, .unset, .unset, .unset] [(.int (5 : Int32)), (.int (3 : Int32))])
                  refine own_go (fun _ => XS.icmpYes Xs2.here hx rfl (pc0 := 162) (pc' := 171) rfl (hb hby at_162) rfl (flt (by decide)).2.2.2 (by decide) (by decide)) ?_
                  show own_R p.tables e below _ Ts2 (mkF m 171 #[.val (.int sz), .val (.int bits), .val (.int cnt), .val (.int (3 : Int32)), .val (.ref t), .val (.int b0), .val (.int b1), .val (.int b2), .val (.int b3), .val (.int b4), .val (.int b5), .val (.int b6), .unset, .unset, .unset, .unset, .unset] [])
                  refine own_go (fun _ => XS.iloadN Xs2.here hx rfl (hb hby at_171) rfl ) ?_
                  show own_R p.tables e below _ Ts2 (mkF m 172 #[.val (.int sz), .val (.int bits), .val (.int cnt), .val (.int (3 : Int32)), .val (.ref t), .val (.int b0), .val (.int b1), .val (.int b2), .val (.int b3), .val (.int b4), .val (.int b5), .val (.int b6), .unset, .unset, .unset, .unset, .unset] [(.int (3 : Int32))])
                  refine own_go (fun _ => XS.bipush Xs2.here hx rfl (hb hby at_172)) ?_
                  show own_R p.tables e below _ Ts2 (mkF m 174 #[.val (.int sz), .val (.int bits), .val (.int cnt), .val (.int (3 : Int32)), .val (.ref t), .val (.int b0), .val (.int b1), .val (.int b2), .val (.int b3), .val (.int b4), .val (.int b5), .val (.int b6), .unset, .unset, .unset, .unset, .unset] [(.int (6 : Int32)), (.int (3 : Int32))])
                  refine own_go (fun _ => XS.icmpYes Xs2.here hx rfl (pc0 := 174) (pc' := 184) rfl (hb hby at_174) rfl (flt (by decide)).2.2.2 (by decide) (by decide)) ?_
                  show own_R p.tables e below _ Ts2 (mkF m 184 #[.val (.int sz), .val (.int bits), .val (.int cnt), .val (.int (3 : Int32)), .val (.ref t), .val (.int b0), .val (.int b1), .val (.int b2), .val (.int b3), .val (.int b4), .val (.int b5), .val (.int b6), .unset, .unset, .unset, .unset, .unset] [])
                  obtain ⟨T3, h3, X3, e3, E3, A3, D3, -, st3⟩ := newO Xs2 hx hZ hown (hw _ (List.mem_of_getElem? (i := 5) rfl)) (hw _ (List.mem_of_getElem? (i := 6) rfl)) (hw _ (List.mem_of_getElem? (i := 7) rfl)) es2 (g := (mkF m 184 #[.val (.int sz), .val (.int bits), .val (.int cnt), .val (.int (3 : Int32)), .val (.ref t), .val (.int b0), .val (.int b1), .val (.int b2), .val (.int b3), .val (.int b4), .val (.int b5), .val (.int b6), .unset, .unset, .unset, .unset, .unset] [])) rfl (hb hby at_184) (by decide) (by decide)
                  obtain ⟨a3, g3⟩ : ∃ z, z = hs2.size := ⟨_, rfl⟩
                  rw [← g3] at A3 D3 st3
                  refine own_go st3 ?_
                  show own_R p.tables e below _ T3 (mkF m 187 #[.val (.int sz), .val (.int bits), .val (.int cnt), .val (.int (3 : Int32)), .val (.ref t), .val (.int b0), .val (.int b1), .val (.int b2), .val (.int b3), .val (.int b4), .val (.int b5), .val (.int b6), .unset, .unset, .unset, .unset, .unset] [(.ref a3)])
                  refine own_go (fun _ => XS.dup X3.here hx rfl (hb hby at_187) rfl rfl) ?_
                  show own_R p.tables e below _ T3 (mkF m 188 #[.val (.int sz), .val (.int bits), .val (.int cnt), .val (.int (3 : Int32)), .val (.ref t), .val (.int b0), .val (.int b1), .val (.int b2), .val (.int b3), .val (.int b4), .val (.int b5), .val (.int b6), .unset, .unset, .unset, .unset, .unset] [(.ref a3), (.ref a3)])
                  refine own_go (fun _ => XS.aload X3.here hx rfl (hb hby at_188) rfl rfl) ?_
                  show own_R p.tables e below _ T3 (mkF m 190 #[.val (.int sz), .val (.int bits), .val (.int cnt), .val (.int (3 : Int32)), .val (.ref t), .val (.int b0), .val (.int b1), .val (.int b2), .val (.int b3), .val (.int b4), .val (.int b5), .val (.int b6), .unset, .unset, .unset, .unset, .unset] [(.ref t), (.ref a3), (.ref a3)])
                  refine own_go (fun _ => XS.iloadN X3.here hx rfl (hb hby at_190) rfl ) ?_
                  show own_R p.tables e below _ T3 (mkF m 191 #[.val (.int sz), .val (.int bits), .val (.int cnt), .val (.int (3 : Int32)), .val (.ref t), .val (.int b0), .val (.int b1), .val (.int b2), .val (.int b3), .val (.int b4), .val (.int b5), .val (.int b6), .unset, .unset, .unset, .unset, .unset] [(.int cnt), (.ref t), (.ref a3), (.ref a3)])
                  have g3a : n0 ≤ a3 := Nat.le_trans Z0 (Nat.le_trans Ks2.1 (Nat.le_of_eq g3.symm))
                  have ne3 : t ≠ a3 := Nat.ne_of_lt (Nat.lt_of_lt_of_le Vs2.lt (Nat.le_of_eq g3.symm))
                  obtain ⟨v4, T4, L4, X4, Q4, st4⟩ := own_callI X3 hx hZ hown (y := (⟨"com/example/kookaburra/kookaburra/eval/Ranking", "<init>", "([ZI)V"⟩ : MethodName)) rfl (hw _ (List.mem_of_getElem? (i := 8) rfl)) (hw _ (List.mem_of_getElem? (i := 9) rfl)) (hw _ (List.mem_of_getElem? (i := 10) rfl)) (hw _ (List.mem_of_getElem? (i := 7) rfl)) (by decide) (rmInit l Z a0 hw [] h3 n0 a3 t cnt g3a A3 (D3 (Or.inr (hw _ (List.mem_of_getElem? (i := 15) rfl))) (ty := (.array .boolean)) (by decide)) (D3 (Or.inr (hw _ (List.mem_of_getElem? (i := 17) rfl))) (ty := .int) (by decide))) (W := 1) (g := (mkF m 191 #[.val (.int sz), .val (.int bits), .val (.int cnt), .val (.int (3 : Int32)), .val (.ref t), .val (.int b0), .val (.int b1), .val (.int b2), .val (.int b3), .val (.int b4), .val (.int b5), .val (.int b6), .unset, .unset, .unset, .unset, .unset] [(.int cnt), (.ref t), (.ref a3), (.ref a3)])) rfl (by rw [hml]; rfl) (a := a3) (argsL := [(.ref t), (.int cnt)]) (rest := [(.ref a3)]) (lenOf pd___ZI_V rfl) rfl rfl (by show 2 * 0 + _ ≤ _; exact Nat.le_of_eq rfl) (hb hby at_191) e3 (by decide) (by decide) (by decide) (by decide)
                  obtain ⟨rfl, N4q, K4, E4, F4a, F4b⟩ := Q4
                  have N4 := Fr.app Ns2 N4q
                  have V4 := (Vs2.ext E3).keep K4 (ninS ne3 nin0)
                  refine own_go st4 ?_
                  show own_R p.tables e below _ T4 (mkF m 194 #[.val (.int sz), .val (.int bits), .val (.int cnt), .val (.int (3 : Int32)), .val (.ref t), .val (.int b0), .val (.int b1), .val (.int b2), .val (.int b3), .val (.int b4), .val (.int b5), .val (.int b6), .unset, .unset, .unset, .unset, .unset] [(.ref a3)])
                  obtain ⟨v5, T5, L5, X5, Q5, st5⟩ := own_callV X4 hx hZ hown (y := (⟨"com/example/kookaburra/kookaburra/eval/Ranking", "reciprocalRank", "()D"⟩ : MethodName)) (hw _ (List.mem_of_getElem? (i := 18) rfl)) (hw _ (List.mem_of_getElem? (i := 19) rfl)) (hw _ (List.mem_of_getElem? (i := 21) rfl)) (hw _ (List.mem_of_getElem? (i := 20) rfl)) (hw _ (List.mem_of_getElem? (i := 22) rfl)) (hw _ (List.mem_of_getElem? (i := 7) rfl)) (by decide) (rmRR l Z a0 hw [] T4.heap n0 a3 t ([b0, b1, b2] : List Int32) (Nat.le_of_ble_eq_true rfl) F4a V4) E4 (W := 0) (g := (mkF m 194 #[.val (.int sz), .val (.int bits), .val (.int cnt), .val (.int (3 : Int32)), .val (.ref t), .val (.int b0), .val (.int b1), .val (.int b2), .val (.int b3), .val (.int b4), .val (.int b5), .val (.int b6), .unset, .unset, .unset, .unset, .unset] [(.ref a3)])) rfl (by rw [hml]; rfl) (b := a3) (argsL := []) (rest := []) (lenOf pd___D rfl) rfl rfl (by show 2 * 0 + _ ≤ _; exact Nat.le_of_eq rfl) (hb hby at_194) rfl (by decide) (by decide) (by decide) (by decide)
                  obtain ⟨rfl, N5q, e5⟩ := Q5
                  have N5 := Fr.app N4 N5q
                  refine own_go st5 ?_
                  show own_R p.tables e below _ T5 (mkF m 197 #[.val (.int sz), .val (.int bits), .val (.int cnt), .val (.int (3 : Int32)), .val (.ref t), .val (.int b0), .val (.int b1), .val (.int b2), .val (.int b3), .val (.int b4), .val (.int b5), .val (.int b6), .unset, .unset, .unset, .unset, .unset] [(.double (own_rr [b0, b1, b2] 1))])
                  obtain ⟨xx, hxx⟩ : ∃ z, own_rr [b0, b1, b2] 1 = z := ⟨_, rfl⟩
                  rw [hxx]
                  show own_R p.tables e below _ T5 (mkF m 197 #[.val (.int sz), .val (.int bits), .val (.int cnt), .val (.int (3 : Int32)), .val (.ref t), .val (.int b0), .val (.int b1), .val (.int b2), .val (.int b3), .val (.int b4), .val (.int b5), .val (.int b6), .unset, .unset, .unset, .unset, .unset] [(.double xx)])
                  refine own_go (fun _ => XS.dstore X5.here hx rfl (hb hby at_197) rfl (l' := #[.val (.int sz), .val (.int bits), .val (.int cnt), .val (.int (3 : Int32)), .val (.ref t), .val (.int b0), .val (.int b1), .val (.int b2), .val (.int b3), .val (.int b4), .val (.int b5), .val (.int b6), .val (.double xx), .second, .unset, .unset, .unset]) rfl) ?_
                  refine own_go (fun _ => XS.iconst X5.here hx rfl (hb hby at_199)) ?_
                  refine own_go (fun _ => XS.istore X5.here hx rfl (hb hby at_200) rfl (l' := #[.val (.int sz), .val (.int bits), .val (.int cnt), .val (.int (3 : Int32)), .val (.ref t), .val (.int b0), .val (.int b1), .val (.int b2), .val (.int b3), .val (.int b4), .val (.int b5), .val (.int b6), .val (.double xx), .second, .val (.int (0 : Int32)), .unset, .unset]) rfl) ?_
                  show own_R p.tables e below _ T5 (mkF m 202 #[.val (.int sz), .val (.int bits), .val (.int cnt), .val (.int (3 : Int32)), .val (.ref t), .val (.int b0), .val (.int b1), .val (.int b2), .val (.int b3), .val (.int b4), .val (.int b5), .val (.int b6), .val (.double xx), .second, .val (.int (0 : Int32)), .unset, .unset] [])
                  have JT : ∀ f : Int32, xx = own_fx f → Jvm.Free.Fl.NoNaN64 (own_fx f) → own_R p.tables e below (own_E s below (own_Q0 n0) (room_1).cells (room_1).slots) T5 (mkF m 313 #[.val (.int sz), .val (.int bits), .val (.int cnt), .val (.int (3 : Int32)), .val (.ref t), .val (.int b0), .val (.int b1), .val (.int b2), .val (.int b3), .val (.int b4), .val (.int b5), .val (.int b6), .val (.double xx), .second, .val (.int f), .unset, .unset] []) := by
                    intro f hf hnn
                    show own_R p.tables e below _ T5 (mkF m 313 #[.val (.int sz), .val (.int bits), .val (.int cnt), .val (.int (3 : Int32)), .val (.ref t), .val (.int b0), .val (.int b1), .val (.int b2), .val (.int b3), .val (.int b4), .val (.int b5), .val (.int b6), .val (.double xx), .second, .val (.int f), .unset, .unset] [])
                    refine own_go (fun _ => XS.iload X5.here hx rfl (hb hby at_313) rfl ) ?_
                    show own_R p.tables e below _ T5 (mkF m 315 #[.val (.int sz), .val (.int bits), .val (.int cnt), .val (.int (3 : Int32)), .val (.ref t), .val (.int b0), .val (.int b1), .val (.int b2), .val (.int b3), .val (.int b4), .val (.int b5), .val (.int b6), .val (.double xx), .second, .val (.int f), .unset, .unset] [(.int f)])
                    by_cases hf0 : f = (0 : Int32)
                    · show own_R p.tables e below _ T5 (mkF m 315 #[.val (.int sz), .val (.int bits), .val (.int cnt), .val (.int (3 : Int32)), .val (.ref t), .val (.int b0), .val (.int b1), .val (.int b2), .val (.int b3), .val (.int b4), .val (.int b5), .val (.int b6), .val (.double xx), .second, .val (.int f), .unset, .unset] [(.int f)])
                      refine own_go (fun _ => XS.ifNo X5.here hx rfl (hb hby at_315) rfl ((if0 _ _).trans (teq hf0).2)) ?_
                      show own_R p.tables e below _ T5 (mkF m 318 #[.val (.int sz), .val (.int bits), .val (.int cnt), .val (.int (3 : Int32)), .val (.ref t), .val (.int b0), .val (.int b1), .val (.int b2), .val (.int b3), .val (.int b4), .val (.int b5), .val (.int b6), .val (.double xx), .second, .val (.int f), .unset, .unset] [])
                      have hfx : own_fx f = FP.dconst0 := if_pos hf0
                      rw [hfx] at hf hnn
                      show own_R p.tables e below _ T5 (mkF m 318 #[.val (.int sz), .val (.int bits), .val (.int cnt), .val (.int (3 : Int32)), .val (.ref t), .val (.int b0), .val (.int b1), .val (.int b2), .val (.int b3), .val (.int b4), .val (.int b5), .val (.int b6), .val (.double xx), .second, .val (.int f), .unset, .unset] [])
                      refine own_go (fun _ => XS.dconst0 X5.here hx rfl (hb hby at_318) rfl) ?_
                      refine own_go (fun _ => XS.goto X5.here hx rfl (pc0 := 319) (pc' := 327) rfl (hb hby at_319) (by decide) (by decide)) ?_
                      refine own_go (fun _ => XS.dstore X5.here hx rfl (hb hby at_327) rfl (l' := #[.val (.int sz), .val (.int bits), .val (.int cnt), .val (.int (3 : Int32)), .val (.ref t), .val (.int b0), .val (.int b1), .val (.int b2), .val (.int b3), .val (.int b4), .val (.int b5), .val (.int b6), .val (.double xx), .second, .val (.int f), .val (.double FP.dconst0), .second]) rfl) ?_
                      refine own_go (fun _ => XS.dload X5.here hx rfl (hb hby at_329) rfl ) ?_
                      show own_R p.tables e below _ T5 (mkF m 331 #[.val (.int sz), .val (.int bits), .val (.int cnt), .val (.int (3 : Int32)), .val (.ref t), .val (.int b0), .val (.int b1), .val (.int b2), .val (.int b3), .val (.int b4), .val (.int b5), .val (.int b6), .val (.double xx), .second, .val (.int f), .val (.double FP.dconst0), .second] [(.double xx)])
                      refine own_go (fun _ => XS.dload X5.here hx rfl (hb hby at_331) rfl ) ?_
                      refine own_go (fun _ => XS.dcmpS X5.here hx rfl (hb hby at_333) rfl rfl) ?_
                      show own_R p.tables e below _ T5 (mkF m 334 #[.val (.int sz), .val (.int bits), .val (.int cnt), .val (.int (3 : Int32)), .val (.ref t), .val (.int b0), .val (.int b1), .val (.int b2), .val (.int b3), .val (.int b4), .val (.int b5), .val (.int b6), .val (.double xx), .second, .val (.int f), .val (.double FP.dconst0), .second] [(.int (cmpValue (FP.dcmp xx FP.dconst0) .l))])
                      refine own_go (fun _ => XS.ifNo X5.here hx rfl (hb hby at_334) rfl ((if0 _ _).trans (teq (by rw [hf]; exact dcmpV_self hnn _)).2)) ?_
                      show own_R p.tables e below _ T5 (mkF m 337 #[.val (.int sz), .val (.int bits), .val (.int cnt), .val (.int (3 : Int32)), .val (.ref t), .val (.int b0), .val (.int b1), .val (.int b2), .val (.int b3), .val (.int b4), .val (.int b5), .val (.int b6), .val (.double xx), .second, .val (.int f), .val (.double FP.dconst0), .second] [])
                      refine own_go (fun _ => XS.iconst X5.here hx rfl (hb hby at_337)) ?_
                      refine own_go (fun _ => XS.goto X5.here hx rfl (pc0 := 338) (pc' := 342) rfl (hb hby at_338) (by decide) (by decide)) ?_
                      show own_R p.tables e below _ T5 (mkF m 342 #[.val (.int sz), .val (.int bits), .val (.int cnt), .val (.int (3 : Int32)), .val (.ref t), .val (.int b0), .val (.int b1), .val (.int b2), .val (.int b3), .val (.int b4), .val (.int b5), .val (.int b6), .val (.double xx), .second, .val (.int f), .val (.double FP.dconst0), .second] [(.int (1 : Int32))])
                      exact own_end X5 (some (.int (1 : Int32))) (fun h => by rw [hret] at h; cases h) hlk (fun fs hr => retN X5 hx (t := .boolean) hret (by simp) (hb hby at_342) hr) ⟨rfl, N5⟩ (by decide) (by decide)
                    · show own_R p.tables e below _ T5 (mkF m 315 #[.val (.int sz), .val (.int bits), .val (.int cnt), .val (.int (3 : Int32)), .val (.ref t), .val (.int b0), .val (.int b1), .val (.int b2), .val (.int b3), .val (.int b4), .val (.int b5), .val (.int b6), .val (.double xx), .second, .val (.int f), .unset, .unset] [(.int f)])
                      refine own_go (fun _ => XS.ifYes X5.here hx rfl (pc0 := 315) (pc' := 322) rfl (hb hby at_315) rfl ((if0 _ _).trans (feq hf0).2) (by decide) (by decide)) ?_
                      show own_R p.tables e below _ T5 (mkF m 322 #[.val (.int sz), .val (.int bits), .val (.int cnt), .val (.int (3 : Int32)), .val (.ref t), .val (.int b0), .val (.int b1), .val (.int b2), .val (.int b3), .val (.int b4), .val (.int b5), .val (.int b6), .val (.double xx), .second, .val (.int f), .unset, .unset] [])
                      have hfx : own_fx f = FP.ddiv FP.dconst1 (FP.i2d f) := if_neg hf0
                      rw [hfx] at hf hnn
                      show own_R p.tables e below _ T5 (mkF m 322 #[.val (.int sz), .val (.int bits), .val (.int cnt), .val (.int (3 : Int32)), .val (.ref t), .val (.int b0), .val (.int b1), .val (.int b2), .val (.int b3), .val (.int b4), .val (.int b5), .val (.int b6), .val (.double xx), .second, .val (.int f), .unset, .unset] [])
                      refine own_go (fun _ => XS.dconst1 X5.here hx rfl (hb hby at_322) rfl) ?_
                      refine own_go (fun _ => XS.iload X5.here hx rfl (hb hby at_323) rfl ) ?_
                      refine own_go (fun _ => XS.i2dS X5.here hx rfl (hb hby at_325) rfl rfl) ?_
                      refine own_go (fun _ => XS.ddivS X5.here hx rfl (hb hby at_326) rfl hnn rfl) ?_
                      show own_R p.tables e below _ T5 (mkF m 327 #[.val (.int sz), .val (.int bits), .val (.int cnt), .val (.int (3 : Int32)), .val (.ref t), .val (.int b0), .val (.int b1), .val (.int b2), .val (.int b3), .val (.int b4), .val (.int b5), .val (.int b6), .val (.double xx), .second, .val (.int f), .unset, .unset] [(.double (FP.ddiv FP.dconst1 (FP.i2d f)))])
                      refine own_go (fun _ => XS.dstore X5.here hx rfl (hb hby at_327) rfl (l' := #[.val (.int sz), .val (.int bits), .val (.int cnt), .val (.int (3 : Int32)), .val (.ref t), .val (.int b0), .val (.int b1), .val (.int b2), .val (.int b3), .val (.int b4), .val (.int b5), .val (.int b6), .val (.double xx), .second, .val (.int f), .val (.double (FP.ddiv FP.dconst1 (FP.i2d f))), .second]) rfl) ?_
                      refine own_go (fun _ => XS.dload X5.here hx rfl (hb hby at_329) rfl ) ?_
                      refine own_go (fun _ => XS.dload X5.here hx rfl (hb hby at_331) rfl ) ?_
                      refine own_go (fun _ => XS.dcmpS X5.here hx rfl (hb hby at_333) rfl rfl) ?_
                      show own_R p.tables e below _ T5 (mkF m 334 #[.val (.int sz), .val (.int bits), .val (.int cnt), .val (.int (3 : Int32)), .val (.ref t), .val (.int b0), .val (.int b1), .val (.int b2), .val (.int b3), .val (.int b4), .val (.int b5), .val (.int b6), .val (.double xx), .second, .val (.int f), .val (.double (FP.ddiv FP.dconst1 (FP.i2d f))), .second] [(.int (cmpValue (FP.dcmp xx (FP.ddiv FP.dconst1 (FP.i2d f))) .l))])
                      refine own_go (fun _ => XS.ifNo X5.here hx rfl (hb hby at_334) rfl ((if0 _ _).trans (teq (by rw [hf]; exact dcmpV_self hnn _)).2)) ?_
                      show own_R p.tables e below _ T5 (mkF m 337 #[.val (.int sz), .val (.int bits), .val (.int cnt), .val (.int (3 : Int32)), .val (.ref t), .val (.int b0), .val (.int b1), .val (.int b2), .val (.int b3), .val (.int b4), .val (.int b5), .val (.int b6), .val (.double xx), .second, .val (.int f), .val (.double (FP.ddiv FP.dconst1 (FP.i2d f))), .second] [])
                      refine own_go (fun _ => XS.iconst X5.here hx rfl (hb hby at_337)) ?_
                      refine own_go (fun _ => XS.goto X5.here hx rfl (pc0 := 338) (pc' := 342) rfl (hb hby at_338) (by decide) (by decide)) ?_
                      show own_R p.tables e below _ T5 (mkF m 342 #[.val (.int sz), .val (.int bits), .val (.int cnt), .val (.int (3 : Int32)), .val (.ref t), .val (.int b0), .val (.int b1), .val (.int b2), .val (.int b3), .val (.int b4), .val (.int b5), .val (.int b6), .val (.double xx), .second, .val (.int f), .val (.double (FP.ddiv FP.dconst1 (FP.i2d f))), .second] [(.int (1 : Int32))])
                      exact own_end X5 (some (.int (1 : Int32))) (fun h => by rw [hret] at h; cases h) hlk (fun fs hr => retN X5 hx (t := .boolean) hret (by simp) (hb hby at_342) hr) ⟨rfl, N5⟩ (by decide) (by decide)
                  refine own_go (fun _ => XS.iloadN X5.here hx rfl (hb hby at_202) rfl ) ?_
                  show own_R p.tables e below _ T5 (mkF m 203 #[.val (.int sz), .val (.int bits), .val (.int cnt), .val (.int (3 : Int32)), .val (.ref t), .val (.int b0), .val (.int b1), .val (.int b2), .val (.int b3), .val (.int b4), .val (.int b5), .val (.int b6), .val (.double xx), .second, .val (.int (0 : Int32)), .unset, .unset] [(.int (3 : Int32))])
                  refine own_go (fun _ => XS.ifNo X5.here hx rfl (hb hby at_203) rfl ((if0 _ _).trans (tlt (by decide)).2.2.2)) ?_
                  show own_R p.tables e below _ T5 (mkF m 206 #[.val (.int sz), .val (.int bits), .val (.int cnt), .val (.int (3 : Int32)), .val (.ref t), .val (.int b0), .val (.int b1), .val (.int b2), .val (.int b3), .val (.int b4), .val (.int b5), .val (.int b6), .val (.double xx), .second, .val (.int (0 : Int32)), .unset, .unset] [])
                  refine own_go (fun _ => XS.iload X5.here hx rfl (hb hby at_206) rfl ) ?_
                  show own_R p.tables e below _ T5 (mkF m 208 #[.val (.int sz), .val (.int bits), .val (.int cnt), .val (.int (3 : Int32)), .val (.ref t), .val (.int b0), .val (.int b1), .val (.int b2), .val (.int b3), .val (.int b4), .val (.int b5), .val (.int b6), .val (.double xx), .second, .val (.int (0 : Int32)), .unset, .unset] [(.int b0)])
                  by_cases k0 : b0 = (0 : Int32)
                  · show own_R p.tables e below _ T5 (mkF m 208 #[.val (.int sz), .val (.int bits), .val (.int cnt), .val (.int (3 : Int32)), .val (.ref t), .val (.int b0), .val (.int b1), .val (.int b2), .val (.int b3), .val (.int b4), .val (.int b5), .val (.int b6), .val (.double xx), .second, .val (.int (0 : Int32)), .unset, .unset] [(.int b0)])
                    refine own_go (fun _ => XS.ifYes X5.here hx rfl (pc0 := 208) (pc' := 217) rfl (hb hby at_208) rfl ((if0 _ _).trans (teq k0).1) (by decide) (by decide)) ?_
                    show own_R p.tables e below _ T5 (mkF m 217 #[.val (.int sz), .val (.int bits), .val (.int cnt), .val (.int (3 : Int32)), .val (.ref t), .val (.int b0), .val (.int b1), .val (.int b2), .val (.int b3), .val (.int b4), .val (.int b5), .val (.int b6), .val (.double xx), .second, .val (.int (0 : Int32)), .unset, .unset] [])
                    refine own_go (fun _ => XS.iloadN X5.here hx rfl (hb hby at_217) rfl ) ?_
                    show own_R p.tables e below _ T5 (mkF m 218 #[.val (.int sz), .val (.int bits), .val (.int cnt), .val (.int (3 : Int32)), .val (.ref t), .val (.int b0), .val (.int b1), .val (.int b2), .val (.int b3), .val (.int b4), .val (.int b5), .val (.int b6), .val (.double xx), .second, .val (.int (0 : Int32)), .unset, .unset] [(.int (3 : Int32))])
                    refine own_go (fun _ => XS.iconst X5.here hx rfl (hb hby at_218)) ?_
                    show own_R p.tables e below _ T5 (mkF m 219 #[.val (.int sz), .val (.int bits), .val (.int cnt), .val (.int (3 : Int32)), .val (.ref t), .val (.int b0), .val (.int b1), .val (.int b2), .val (.int b3), .val (.int b4), .val (.int b5), .val (.int b6), .val (.double xx), .second, .val (.int (0 : Int32)), .unset, .unset] [(.int (1 : Int32)), (.int (3 : Int32))])
                    refine own_go (fun _ => XS.icmpNo X5.here hx rfl (hb hby at_219) rfl (tlt (by decide)).2.2.2) ?_
                    show own_R p.tables e below _ T5 (mkF m 222 #[.val (.int sz), .val (.int bits), .val (.int cnt), .val (.int (3 : Int32)), .val (.ref t), .val (.int b0), .val (.int b1), .val (.int b2), .val (.int b3), .val (.int b4), .val (.int b5), .val (.int b6), .val (.double xx), .second, .val (.int (0 : Int32)), .unset, .unset] [])
                    refine own_go (fun _ => XS.iload X5.here hx rfl (hb hby at_222) rfl ) ?_
                    show own_R p.tables e below _ T5 (mkF m 224 #[.val (.int sz), .val (.int bits), .val (.int cnt), .val (.int (3 : Int32)), .val (.ref t), .val (.int b0), .val (.int b1), .val (.int b2), .val (.int b3), .val (.int b4), .val (.int b5), .val (.int b6), .val (.double xx), .second, .val (.int (0 : Int32)), .unset, .unset] [(.int b1)])
                    by_cases k1 : b1 = (0 : Int32)
                    · show own_R p.tables e below _ T5 (mkF m 224 #[.val (.int sz), .val (.int bits), .val (.int cnt), .val (.int (3 : Int32)), .val (.ref t), .val (.int b0), .val (.int b1), .val (.int b2), .val (.int b3), .val (.int b4), .val (.int b5), .val (.int b6), .val (.double xx), .second, .val (.int (0 : Int32)), .unset, .unset] [(.int b1)])
                      refine own_go (fun _ => XS.ifYes X5.here hx rfl (pc0 := 224) (pc' := 233) rfl (hb hby at_224) rfl ((if0 _ _).trans (teq k1).1) (by decide) (by decide)) ?_
                      show own_R p.tables e below _ T5 (mkF m 233 #[.val (.int sz), .val (.int bits), .val (.int cnt), .val (.int (3 : Int32)), .val (.ref t), .val (.int b0), .val (.int b1), .val (.int b2), .val (.int b3), .val (.int b4), .val (.int b5), .val (.int b6), .val (.double xx), .second, .val (.int (0 : Int32)), .unset, .unset] [])
                      refine own_go (fun _ => XS.iloadN X5.here hx rfl (hb hby at_233) rfl ) ?_
                      show own_R p.tables e below _ T5 (mkF m 234 #[.val (.int sz), .val (.int bits), .val (.int cnt), .val (.int (3 : Int32)), .val (.ref t), .val (.int b0), .val (.int b1), .val (.int b2), .val (.int b3), .val (.int b4), .val (.int b5), .val (.int b6), .val (.double xx), .second, .val (.int (0 : Int32)), .unset, .unset] [(.int (3 : Int32))])
                      refine own_go (fun _ => XS.iconst X5.here hx rfl (hb hby at_234)) ?_
                      show own_R p.tables e below _ T5 (mkF m 235 #[.val (.int sz), .val (.int bits), .val (.int cnt), .val (.int (3 : Int32)), .val (.ref t), .val (.int b0), .val (.int b1), .val (.int b2), .val (.int b3), .val (.int b4), .val (.int b5), .val (.int b6), .val (.double xx), .second, .val (.int (0 : Int32)), .unset, .unset] [(.int (2 : Int32)), (.int (3 : Int32))])
                      refine own_go (fun _ => XS.icmpNo X5.here hx rfl (hb hby at_235) rfl (tlt (by decide)).2.2.2) ?_
                      show own_R p.tables e below _ T5 (mkF m 238 #[.val (.int sz), .val (.int bits), .val (.int cnt), .val (.int (3 : Int32)), .val (.ref t), .val (.int b0), .val (.int b1), .val (.int b2), .val (.int b3), .val (.int b4), .val (.int b5), .val (.int b6), .val (.double xx), .second, .val (.int (0 : Int32)), .unset, .unset] [])
                      refine own_go (fun _ => XS.iload X5.here hx rfl (hb hby at_238) rfl ) ?_
                      show own_R p.tables e below _ T5 (mkF m 240 #[.val (.int sz), .val (.int bits), .val (.int cnt), .val (.int (3 : Int32)), .val (.ref t), .val (.int b0), .val (.int b1), .val (.int b2), .val (.int b3), .val (.int b4), .val (.int b5), .val (.int b6), .val (.double xx), .second, .val (.int (0 : Int32)), .unset, .unset] [(.int b2)])
                      by_cases k2 : b2 = (0 : Int32)
                      · show own_R p.tables e below _ T5 (mkF m 240 #[.val (.int sz), .val (.int bits), .val (.int cnt), .val (.int (3 : Int32)), .val (.ref t), .val (.int b0), .val (.int b1), .val (.int b2), .val (.int b3), .val (.int b4), .val (.int b5), .val (.int b6), .val (.double xx), .second, .val (.int (0 : Int32)), .unset, .unset] [(.int b2)])
                        refine own_go (fun _ => XS.ifYes X5.here hx rfl (pc0 := 240) (pc' := 249) rfl (hb hby at_240) rfl ((if0 _ _).trans (teq k2).1) (by decide) (by decide)) ?_
                        show own_R p.tables e below _ T5 (mkF m 249 #[.val (.int sz), .val (.int bits), .val (.int cnt), .val (.int (3 : Int32)), .val (.ref t), .val (.int b0), .val (.int b1), .val (.int b2), .val (.int b3), .val (.int b4), .val (.int b5), .val (.int b6), .val (.double xx), .second, .val (.int (0 : Int32)), .unset, .unset] [])
                        refine own_go (fun _ => XS.iloadN X5.here hx rfl (hb hby at_249) rfl ) ?_
                        show own_R p.tables e below _ T5 (mkF m 250 #[.val (.int sz), .val (.int bits), .val (.int cnt), .val (.int (3 : Int32)), .val (.ref t), .val (.int b0), .val (.int b1), .val (.int b2), .val (.int b3), .val (.int b4), .val (.int b5), .val (.int b6), .val (.double xx), .second, .val (.int (0 : Int32)), .unset, .unset] [(.int (3 : Int32))])
                        refine own_go (fun _ => XS.iconst X5.here hx rfl (hb hby at_250)) ?_
                        show own_R p.tables e below _ T5 (mkF m 251 #[.val (.int sz), .val (.int bits), .val (.int cnt), .val (.int (3 : Int32)), .val (.ref t), .val (.int b0), .val (.int b1), .val (.int b2), .val (.int b3), .val (.int b4), .val (.int b5), .val (.int b6), .val (.double xx), .second, .val (.int (0 : Int32)), .unset, .unset] [(.int (3 : Int32)), (.int (3 : Int32))])
                        refine own_go (fun _ => XS.icmpYes X5.here hx rfl (pc0 := 251) (pc' := 265) rfl (hb hby at_251) rfl (flt (by decide)).2.2.2 (by decide) (by decide)) ?_
                        show own_R p.tables e below _ T5 (mkF m 265 #[.val (.int sz), .val (.int bits), .val (.int cnt), .val (.int (3 : Int32)), .val (.ref t), .val (.int b0), .val (.int b1), .val (.int b2), .val (.int b3), .val (.int b4), .val (.int b5), .val (.int b6), .val (.double xx), .second, .val (.int (0 : Int32)), .unset, .unset] [])
                        refine own_go (fun _ => XS.iloadN X5.here hx rfl (hb hby at_265) rfl ) ?_
                        show own_R p.tables e below _ T5 (mkF m 266 #[.val (.int sz), .val (.int bits), .val (.int cnt), .val (.int (3 : Int32)), .val (.ref t), .val (.int b0), .val (.int b1), .val (.int b2), .val (.int b3), .val (.int b4), .val (.int b5), .val (.int b6), .val (.double xx), .second, .val (.int (0 : Int32)), .unset, .unset] [(.int (3 : Int32))])
                        refine own_go (fun _ => XS.iconst X5.here hx rfl (hb hby at_266)) ?_
                        show own_R p.tables e below _ T5 (mkF m 267 #[.val (.int sz), .val (.int bits), .val (.int cnt), .val (.int (3 : Int32)), .val (.ref t), .val (.int b0), .val (.int b1), .val (.int b2), .val (.int b3), .val (.int b4), .val (.int b5), .val (.int b6), .val (.double xx), .second, .val (.int (0 : Int32)), .unset, .unset] [(.int (4 : Int32)), (.int (3 : Int32))])
                        refine own_go (fun _ => XS.icmpYes X5.here hx rfl (pc0 := 267) (pc' := 281) rfl (hb hby at_267) rfl (flt (by decide)).2.2.2 (by decide) (by decide)) ?_
                        show own_R p.tables e below _ T5 (mkF m 281 #[.val (.int sz), .val (.int bits), .val (.int cnt), .val (.int (3 : Int32)), .val (.ref t), .val (.int b0), .val (.int b1), .val (.int b2), .val (.int b3), .val (.int b4), .val (.int b5), .val (.int b6), .val (.double xx), .second, .val (.int (0 : Int32)), .unset, .unset] [])
                        refine own_go (fun _ => XS.iloadN X5.here hx rfl (hb hby at_281) rfl ) ?_
                        show own_R p.tables e below _ T5 (mkF m 282 #[.val (.int sz), .val (.int bits), .val (.int cnt), .val (.int (3 : Int32)), .val (.ref t), .val (.int b0), .val (.int b1), .val (.int b2), .val (.int b3), .val (.int b4), .val (.int b5), .val (.int b6), .val (.double xx), .second, .val (.int (0 : Int32)), .unset, .unset] [(.int (3 : Int32))])
                        refine own_go (fun _ => XS.iconst X5.here hx rfl (hb hby at_282)) ?_
                        show own_R p.tables e below _ T5 (mkF m 283 #[.val (.int sz), .val (.int bits), .val (.int cnt), .val (.int (3 : Int32)), .val (.ref t), .val (.int b0), .val (.int b1), .val (.int b2), .val (.int b3), .val (.int b4), .val (.int b5), .val (.int b6), .val (.double xx), .second, .val (.int (0 : Int32)), .unset, .unset] [(.int (5 : Int32)), (.int (3 : Int32))])
                        refine own_go (fun _ => XS.icmpYes X5.here hx rfl (pc0 := 283) (pc' := 298) rfl (hb hby at_283) rfl (flt (by decide)).2.2.2 (by decide) (by decide)) ?_
                        show own_R p.tables e below _ T5 (mkF m 298 #[.val (.int sz), .val (.int bits), .val (.int cnt), .val (.int (3 : Int32)), .val (.ref t), .val (.int b0), .val (.int b1), .val (.int b2), .val (.int b3), .val (.int b4), .val (.int b5), .val (.int b6), .val (.double xx), .second, .val (.int (0 : Int32)), .unset, .unset] [])
                        refine own_go (fun _ => XS.iloadN X5.here hx rfl (hb hby at_298) rfl ) ?_
                        show own_R p.tables e below _ T5 (mkF m 299 #[.val (.int sz), .val (.int bits), .val (.int cnt), .val (.int (3 : Int32)), .val (.ref t), .val (.int b0), .val (.int b1), .val (.int b2), .val (.int b3), .val (.int b4), .val (.int b5), .val (.int b6), .val (.double xx), .second, .val (.int (0 : Int32)), .unset, .unset] [(.int (3 : Int32))])
                        refine own_go (fun _ => XS.bipush X5.here hx rfl (hb hby at_299)) ?_
                        show own_R p.tables e below _ T5 (mkF m 301 #[.val (.int sz), .val (.int bits), .val (.int cnt), .val (.int (3 : Int32)), .val (.ref t), .val (.int b0), .val (.int b1), .val (.int b2), .val (.int b3), .val (.int b4), .val (.int b5), .val (.int b6), .val (.double xx), .second, .val (.int (0 : Int32)), .unset, .unset] [(.int (6 : Int32)), (.int (3 : Int32))])
                        refine own_go (fun _ => XS.icmpYes X5.here hx rfl (pc0 := 301) (pc' := 313) rfl (hb hby at_301) rfl (flt (by decide)).2.2.2 (by decide) (by decide)) ?_
                        show own_R p.tables e below _ T5 (mkF m 313 #[.val (.int sz), .val (.int bits), .val (.int cnt), .val (.int (3 : Int32)), .val (.ref t), .val (.int b0), .val (.int b1), .val (.int b2), .val (.int b3), .val (.int b4), .val (.int b5), .val (.int b6), .val (.double xx), .second, .val (.int (0 : Int32)), .unset, .unset] [])
                        exact JT 0 (hxx.symm.trans (by simp [own_rr, own_fx, k0, k1, k2])) (own_fn 0)
                      · show own_R p.tables e below _ T5 (mkF m 240 #[.val (.int sz), .val (.int bits), .val (.int cnt), .val (.int (3 : Int32)), .val (.ref t), .val (.int b0), .val (.int b1), .val (.int b2), .val (.int b3), .val (.int b4), .val (.int b5), .val (.int b6), .val (.double xx), .second, .val (.int (0 : Int32)), .unset, .unset] [(.int b2)])
                        refine own_go (fun _ => XS.ifNo X5.here hx rfl (hb hby at_240) rfl ((if0 _ _).trans (feq k2).1)) ?_
                        show own_R p.tables e below _ T5 (mkF m 243 #[.val (.int sz), .val (.int bits), .val (.int cnt), .val (.int (3 : Int32)), .val (.ref t), .val (.int b0), .val (.int b1), .val (.int b2), .val (.int b3), .val (.int b4), .val (.int b5), .val (.int b6), .val (.double xx), .second, .val (.int (0 : Int32)), .unset, .unset] [])
                        refine own_go (fun _ => XS.iconst X5.here hx rfl (hb hby at_243)) ?_
                        refine own_go (fun _ => XS.istore X5.here hx rfl (hb hby at_244) rfl (l' := #[.val (.int sz), .val (.int bits), .val (.int cnt), .val (.int (3 : Int32)), .val (.ref t), .val (.int b0), .val (.int b1), .val (.int b2), .val (.int b3), .val (.int b4), .val (.int b5), .val (.int b6), .val (.double xx), .second, .val (.int (3 : Int32)), .unset, .unset]) rfl) ?_
                        refine own_go (fun _ => XS.goto X5.here hx rfl (pc0 := 246) (pc' := 313) rfl (hb hby at_246) (by decide) (by decide)) ?_
                        show own_R p.tables e below _ T5 (mkF m 313 #[.val (.int sz), .val (.int bits), .val (.int cnt), .val (.int (3 : Int32)), .val (.ref t), .val (.int b0), .val (.int b1), .val (.int b2), .val (.int b3), .val (.int b4), .val (.int b5), .val (.int b6), .val (.double xx), .second, .val (.int (3 : Int32)), .unset, .unset] [])
                        exact JT 3 (hxx.symm.trans (by simp [own_rr, own_fx, k0, k1, k2])) (own_fn 3)
                    · show own_R p.tables e below _ T5 (mkF m 224 #[.val (.int sz), .val (.int bits), .val (.int cnt), .val (.int (3 : Int32)), .val (.ref t), .val (.int b0), .val (.int b1), .val (.int b2), .val (.int b3), .val (.int b4), .val (.int b5), .val (.int b6), .val (.double xx), .second, .val (.int (0 : Int32)), .unset, .unset] [(.int b1)])
                      refine own_go (fun _ => XS.ifNo X5.here hx rfl (hb hby at_224) rfl ((if0 _ _).trans (feq k1).1)) ?_
                      show own_R p.tables e below _ T5 (mkF m 227 #[.val (.int sz), .val (.int bits), .val (.int cnt), .val (.int (3 : Int32)), .val (.ref t), .val (.int b0), .val (.int b1), .val (.int b2), .val (.int b3), .val (.int b4), .val (.int b5), .val (.int b6), .val (.double xx), .second, .val (.int (0 : Int32)), .unset, .unset] [])
                      refine own_go (fun _ => XS.iconst X5.here hx rfl (hb hby at_227)) ?_
                      refine own_go (fun _ => XS.istore X5.here hx rfl (hb hby at_228) rfl (l' := #[.val (.int sz), .val (.int bits), .val (.int cnt), .val (.int (3 : Int32)), .val (.ref t), .val (.int b0), .val (.int b1), .val (.int b2), .val (.int b3), .val (.int b4), .val (.int b5), .val (.int b6), .val (.double xx), .second, .val (.int (2 : Int32)), .unset, .unset]) rfl) ?_
                      refine own_go (fun _ => XS.goto X5.here hx rfl (pc0 := 230) (pc' := 313) rfl (hb hby at_230) (by decide) (by decide)) ?_
                      show own_R p.tables e below _ T5 (mkF m 313 #[.val (.int sz), .val (.int bits), .val (.int cnt), .val (.int (3 : Int32)), .val (.ref t), .val (.int b0), .val (.int b1), .val (.int b2), .val (.int b3), .val (.int b4), .val (.int b5), .val (.int b6), .val (.double xx), .second, .val (.int (2 : Int32)), .unset, .unset] [])
                      exact JT 2 (hxx.symm.trans (by simp [own_rr, own_fx, k0, k1])) (own_fn 2)
                  · show own_R p.tables e below _ T5 (mkF m 208 #[.val (.int sz), .val (.int bits), .val (.int cnt), .val (.int (3 : Int32)), .val (.ref t), .val (.int b0), .val (.int b1), .val (.int b2), .val (.int b3), .val (.int b4), .val (.int b5), .val (.int b6), .val (.double xx), .second, .val (.int (0 : Int32)), .unset, .unset] [(.int b0)])
                    refine own_go (fun _ => XS.ifNo X5.here hx rfl (hb hby at_208) rfl ((if0 _ _).trans (feq k0).1)) ?_
                    show own_R p.tables e below _ T5 (mkF m 211 #[.val (.int sz), .val (.int bits), .val (.int cnt), .val (.int (3 : Int32)), .val (.ref t), .val (.int b0), .val (.int b1), .val (.int b2), .val (.int b3), .val (.int b4), .val (.int b5), .val (.int b6), .val (.double xx), .second, .val (.int (0 : Int32)), .unset, .unset] [])
                    refine own_go (fun _ => XS.iconst X5.here hx rfl (hb hby at_211)) ?_
                    refine own_go (fun _ => XS.istore X5.here hx rfl (hb hby at_212) rfl (l' := #[.val (.int sz), .val (.int bits), .val (.int cnt), .val (.int (3 : Int32)), .val (.ref t), .val (.int b0), .val (.int b1), .val (.int b2), .val (.int b3), .val (.int b4), .val (.int b5), .val (.int b6), .val (.double xx), .second, .val (.int (1 : Int32)), .unset, .unset]) rfl) ?_
                    refine own_go (fun _ => XS.goto X5.here hx rfl (pc0 := 214) (pc' := 313) rfl (hb hby at_214) (by decide) (by decide)) ?_
                    show own_R p.tables e below _ T5 (mkF m 313 #[.val (.int sz), .val (.int bits), .val (.int cnt), .val (.int (3 : Int32)), .val (.ref t), .val (.int b0), .val (.int b1), .val (.int b2), .val (.int b3), .val (.int b4), .val (.int b5), .val (.int b6), .val (.double xx), .second, .val (.int (1 : Int32)), .unset, .unset] [])
                    exact JT 1 (hxx.symm.trans (by simp [own_rr, own_fx, k0])) (own_fn 1)
                · show own_R p.tables e below _ T1 (mkF m 106 #[.val (.int sz), .val (.int bits), .val (.int cnt), .val (.int (4 : Int32)), .val (.ref t), .val (.int b0), .val (.int b1), .val (.int b2), .val (.int b3), .val (.int b4), .val (.int b5), .val (.int b6), .unset, .unset, .unset, .unset, .unset] [])
                  have V2 := V1.pad (pad_rep [] (.int 0) 4)
                  have g1a : n0 ≤ t := Nat.le_trans Z0 q1
                  refine own_go (fun _ => XS.iloadN X1.here hx rfl (hb hby at_106) rfl ) ?_
                  show own_R p.tables e below _ T1 (mkF m 107 #[.val (.int sz), .val (.int bits), .val (.int cnt), .val (.int (4 : Int32)), .val (.ref t), .val (.int b0), .val (.int b1), .val (.int b2), .val (.int b3), .val (.int b4), .val (.int b5), .val (.int b6), .unset, .unset, .unset, .unset, .unset] [(.int (4 : Int32))])
                  refine own_go (fun _ => XS.ifNo X1.here hx rfl (hb hby at_107) rfl ((if0 _ _).trans (tlt (by decide)).2.2.2)) ?_
                  show own_R p.tables e below _ T1 (mkF m 110 #[.val (.int sz), .val (.int bits), .val (.int cnt), .val (.int (4 : Int32)), .val (.ref t), .val (.int b0), .val (.int b1), .val (.int b2), .val (.int b3), .val (.int b4), .val (.int b5), .val (.int b6), .unset, .unset, .unset, .unset, .unset] [])
                  refine own_go (fun _ => XS.aload X1.here hx rfl (hb hby at_110) rfl rfl) ?_
                  show own_R p.tables e below _ T1 (mkF m 112 #[.val (.int sz), .val (.int bits), .val (.int cnt), .val (.int (4 : Int32)), .val (.ref t), .val (.int b0), .val (.int b1), .val (.int b2), .val (.int b3), .val (.int b4), .val (.int b5), .val (.int b6), .unset, .unset, .unset, .unset, .unset] [(.ref t)])
                  refine own_go (fun _ => XS.iconst X1.here hx rfl (hb hby at_112)) ?_
                  show own_R p.tables e below _ T1 (mkF m 113 #[.val (.int sz), .val (.int bits), .val (.int cnt), .val (.int (4 : Int32)), .val (.ref t), .val (.int b0), .val (.int b1), .val (.int b2), .val (.int b3), .val (.int b4), .val (.int b5), .val (.int b6), .unset, .unset, .unset, .unset, .unset] [(.int (0 : Int32)), (.ref t)])
                  refine own_go (fun _ => XS.iload X1.here hx rfl (hb hby at_113) rfl ) ?_
                  show own_R p.tables e below _ T1 (mkF m 115 #[.val (.int sz), .val (.int bits), .val (.int cnt), .val (.int (4 : Int32)), .val (.ref t), .val (.int b0), .val (.int b1), .val (.int b2), .val (.int b3), .val (.int b4), .val (.int b5), .val (.int b6), .unset, .unset, .unset, .unset, .unset] [(.int b0), (.int (0 : Int32)), (.ref t)])
                  obtain ⟨Ts0, hs0, Xs0, es0, Ws0, Vs0, sts0⟩ := own_stZ X1 hx hZ rfl V2 (j := (0 : Int32)) ⟨by decide, by decide⟩ 0 rfl (Nat.le_of_ble_eq_true rfl) hb0 (g := (mkF m 115 #[.val (.int sz), .val (.int bits), .val (.int cnt), .val (.int (4 : Int32)), .val (.ref t), .val (.int b0), .val (.int b1), .val (.int b2), .val (.int b3), .val (.int b4), .val (.int b5), .val (.int b6), .unset, .unset, .unset, .unset, .unset] [(.int b0), (.int (0 : Int32)), (.ref t)])) rfl rfl (hb hby at_115)
                  have Ks0 : Keep h0 hs0 [] := K1.wr Ws0 (Or.inr q1)
                  have Ns0 := Fr.snoc Xs0 N1 g1a
                  refine own_go sts0 ?_
                  show own_R p.tables e below _ Ts0 (mkF m 116 #[.val (.int sz), .val (.int bits), .val (.int cnt), .val (.int (4 : Int32)), .val (.ref t), .val (.int b0), .val (.int b1), .val (.int b2), .val (.int b3), .val (.int b4), .val (.int b5), .val (.int b6), .unset, .unset, .unset, .unset, .unset] [])
                  refine own_go (fun _ => XS.iloadN Xs0.here hx rfl (hb hby at_116) rfl ) ?_
                  show own_R p.tables e below _ Ts0 (mkF m 117 #[.val (.int sz), .val (.int bits), .val (.int cnt), .val (.int (4 : Int32)), .val (.ref t), .val (.int b0), .val (.int b1), .val (.int b2), .val (.int b3), .val (.int b4), .val (.int b5), .val (.int b6), .unset, .unset, .unset, .unset, .unset] [(.int (4 : Int32))])
                  refine own_go (fun _ => XS.iconst Xs0.here hx rfl (hb hby at_117)) ?_
                  show own_R p.tables e below _ Ts0 (mkF m 118 #[.val (.int sz), .val (.int bits), .val (.int cnt), .val (.int (4 : Int32)), .val (.ref t), .val (.int b0), .val (.int b1), .val (.int b2), .val (.int b3), .val (.int b4), .val (.int b5), .val (.int b6), .unset, .unset, .unset, .unset, .unset] [(.int (1 : Int32)), (.int (4 : Int32))])
                  refine own_go (fun _ => XS.icmpNo Xs0.here hx rfl (hb hby at_118) rfl (tlt (by decide)).2.2.2) ?_
                  show own_R p.tables e below _ Ts0 (mkF m 121 #[.val (.int sz), .val (.int bits), .val (.int cnt), .val (.int (4 : Int32)), .val (.ref t), .val (.int b0), .val (.int b1), .val (.int b2), .val (.int b3), .val (.int b4), .val (.int b5), .val (.int b6), .unset, .unset, .unset, .unset, .unset] [])
                  refine own_go (fun _ => XS.aload Xs0.here hx rfl (hb hby at_121) rfl rfl) ?_
                  show own_R p.tables e below _ Ts0 (mkF m 123 #[.val (.int sz), .val (.int bits), .val (.int cnt), .val (.int (4 : Int32)), .val (.ref t), .val (.int b0), .val (.int b1), .val (.int b2), .val (.int b3), .val (.int b4), .val (.int b5), .val (.int b6), .unset, .unset, .unset, .unset, .unset] [(.ref t)])
                  refine own_go (fun _ => XS.iconst Xs0.here hx rfl (hb hby at_123)) ?_
                  show own_R p.tables e below _ Ts0 (mkF m 124 #[.val (.int sz), .val (.int bits), .val (.int cnt), .val (.int (4 : Int32)), .val (.ref t), .val (.int b0), .val (.int b1), .val (.int b2), .val (.int b3), .val (.int b4), .val (.int b5), .val (.int b6), .unset, .unset, .unset, .unset, .unset] [(.int (1 : Int32)), (.ref t)])
                  refine own_go (fun _ => XS.iload Xs0.here hx rfl (hb hby at_124) rfl ) ?_
                  show own_R p.tables e below _ Ts0 (mkF m 126 #[.val (.int sz), .val (.int bits), .val (.int cnt), .val (.int (4 : Int32)), .val (.ref t), .val (.int b0), .val (.int b1), .val (.int b2), .val (.int b3), .val (.int b4), .val (.int b5), .val (.int b6), .unset, .unset, .unset, .unset, .unset] [(.int b1), (.int (1 : Int32)), (.ref t)])
                  obtain ⟨Ts1, hs1, Xs1, es1, Ws1, Vs1, sts1⟩ := own_stZ Xs0 hx hZ es0 Vs0 (j := (1 : Int32)) ⟨by decide, by decide⟩ 1 rfl (Nat.le_of_ble_eq_true rfl) hb1 (g := (mkF m 126 #[.val (.int sz), .val (.int bits), .val (.int cnt), .val (.int (4 : Int32)), .val (.ref t), .val (.int b0), .val (.int b1), .val (.int b2), .val (.int b3), .val (.int b4), .val (.int b5), .val (.int b6), .unset, .unset, .unset, .unset, .unset] [(.int b1), (.int (1 : Int32)), (.ref t)])) rfl rfl (hb hby at_126)
                  have Ks1 : Keep h0 hs1 [] := Ks0.wr Ws1 (Or.inr q1)
                  have Ns1 := Fr.snoc Xs1 Ns0 g1a
                  refine own_go sts1 ?_
                  show own_R p.tables e below _ Ts1 (mkF m 127 #[.val (.int sz), .val (.int bits), .val (.int cnt), .val (.int (4 : Int32)), .val (.ref t), .val (.int b0), .val (.int b1), .val (.int b2), .val (.int b3), .val (.int b4), .val (.int b5), .val (.int b6), .unset, .unset, .unset, .unset, .unset] [])
                  refine own_go (fun _ => XS.iloadN Xs1.here hx rfl (hb hby at_127) rfl ) ?_
                  show own_R p.tables e below _ Ts1 (mkF m 128 #[.val (.int sz), .val (.int bits), .val (.int cnt), .val (.int (4 : Int32)), .val (.ref t), .val (.int b0), .val (.int b1), .val (.int b2), .val (.int b3), .val (.int b4), .val (.int b5), .val (.int b6), .unset, .unset, .unset, .unset, .unset] [(.int (4 : Int32))])
                  refine own_go (fun _ => XS.iconst Xs1.here hx rfl (hb hby at_128)) ?_
                  show own_R p.tables e below _ Ts1 (mkF m 129 #[.val (.int sz), .val (.int bits), .val (.int cnt), .val (.int (4 : Int32)), .val (.ref t), .val (.int b0), .val (.int b1), .val (.int b2), .val (.int b3), .val (.int b4), .val (.int b5), .val (.int b6), .unset, .unset, .unset, .unset, .unset] [(.int (2 : Int32)), (.int (4 : Int32))])
                  refine own_go (fun _ => XS.icmpNo Xs1.here hx rfl (hb hby at_129) rfl (tlt (by decide)).2.2.2) ?_
                  show own_R p.tables e below _ Ts1 (mkF m 132 #[.val (.int sz), .val (.int bits), .val (.int cnt), .val (.int (4 : Int32)), .val (.ref t), .val (.int b0), .val (.int b1), .val (.int b2), .val (.int b3), .val (.int b4), .val (.int b5), .val (.int b6), .unset, .unset, .unset, .unset, .unset] [])
                  refine own_go (fun _ => XS.aload Xs1.here hx rfl (hb hby at_132) rfl rfl) ?_
                  show own_R p.tables e below _ Ts1 (mkF m 134 #[.val (.int sz), .val (.int bits), .val (.int cnt), .val (.int (4 : Int32)), .val (.ref t), .val (.int b0), .val (.int b1), .val (.int b2), .val (.int b3), .val (.int b4), .val (.int b5), .val (.int b6), .unset, .unset, .unset, .unset, .unset] [(.ref t)])
                  refine own_go (fun _ => XS.iconst Xs1.here hx rfl (hb hby at_134)) ?_
                  show own_R p.tables e below _ Ts1 (mkF m 135 #[.val (.int sz), .val (.int bits), .val (.int cnt), .val (.int (4 : Int32)), .val (.ref t), .val (.int b0), .val (.int b1), .val (.int b2), .val (.int b3), .val (.int b4), .val (.int b5), .val (.int b6), .unset, .unset, .unset, .unset, .unset] [(.int (2 : Int32)), (.ref t)])
                  refine own_go (fun _ => XS.iload Xs1.here hx rfl (hb hby at_135) rfl ) ?_
                  show own_R p.tables e below _ Ts1 (mkF m 137 #[.val (.int sz), .val (.int bits), .val (.int cnt), .val (.int (4 : Int32)), .val (.ref t), .val (.int b0), .val (.int b1), .val (.int b2), .val (.int b3), .val (.int b4), .val (.int b5), .val (.int b6), .unset, .unset, .unset, .unset, .unset] [(.int b2), (.int (2 : Int32)), (.ref t)])
                  obtain ⟨Ts2, hs2, Xs2, es2, Ws2, Vs2, sts2⟩ := own_stZ Xs1 hx hZ es1 Vs1 (j := (2 : Int32)) ⟨by decide, by decide⟩ 2 rfl (Nat.le_of_ble_eq_true rfl) hb2 (g := (mkF m 137 #[.val (.int sz), .val (.int bits), .val (.int cnt), .val (.int (4 : Int32)), .val (.ref t), .val (.int b0), .val (.int b1), .val (.int b2), .val (.int b3), .val (.int b4), .val (.int b5), .val (.int b6), .unset, .unset, .unset, .unset, .unset] [(.int b2), (.int (2 : Int32)), (.ref t)])) rfl rfl (hb hby at_137)
                  have Ks2 : Keep h0 hs2 [] := Ks1.wr Ws2 (Or.inr q1)
                  have Ns2 := Fr.snoc Xs2 Ns1 g1a
                  refine own_go sts2 ?_
                  show own_R p.tables e below _ Ts2 (mkF m 138 #[.val (.int sz), .val (.int bits), .val (.int cnt), .val (.int (4 : Int32)), .val (.ref t), .val (.int b0), .val (.int b1), .val (.int b2), .val (.int b3), .val (.int b4), .val (.int b5), .val (.int b6), .unset, .unset, .unset, .unset, .unset] [])
                  refine own_go (fun _ => XS.iloadN Xs2.here hx rfl (hb hby at_138) rfl ) ?_
                  show own_R p.tables e below _ Ts2 (mkF m 139 #[.val (.int sz), .val (.int bits), .val (.int cnt), .val (.int (4 : Int32)), .val (.ref t), .val (.int b0), .val (.int b1), .val (.int b2), .val (.int b3), .val (.int b4), .val (.int b5), .val (.int b6), .unset, .unset, .unset, .unset, .unset] [(.int (4 : Int32))])
                  refine own_go (fun _ => XS.iconst Xs2.here hx rfl (hb hby at_139)) ?_
                  show own_R p.tables e below _ Ts2 (mkF m 140 #[.val (.int sz), .val (.int bits), .val (.int cnt), .val (.int (4 : Int32)), .val (.ref t), .val (.int b0), .val (.int b1), .val (.int b2), .val (.int b3), .val (.int b4), .val (.int b5), .val (.int b6), .unset, .unset, .unset, .unset, .unset] [(.int (3 : Int32)), (.int (4 : Int32))])
                  refine own_go (fun _ => XS.icmpNo Xs2.here hx rfl (hb hby at_140) rfl (tlt (by decide)).2.2.2) ?_
                  show own_R p.tables e below _ Ts2 (mkF m 143 #[.val (.int sz), .val (.int bits), .val (.int cnt), .val (.int (4 : Int32)), .val (.ref t), .val (.int b0), .val (.int b1), .val (.int b2), .val (.int b3), .val (.int b4), .val (.int b5), .val (.int b6), .unset, .unset, .unset, .unset, .unset] [])
                  refine own_go (fun _ => XS.aload Xs2.here hx rfl (hb hby at_143) rfl rfl) ?_
                  show own_R p.tables e below _ Ts2 (mkF m 145 #[.val (.int sz), .val (.int bits), .val (.int cnt), .val (.int (4 : Int32)), .val (.ref t), .val (.int b0), .val (.int b1), .val (.int b2), .val (.int b3), .val (.int b4), .val (.int b5), .val (.int b6), .unset, .unset, .unset, .unset, .unset] [(.ref t)])
                  refine own_go (fun _ => XS.iconst Xs2.here hx rfl (hb hby at_145)) ?_
                  show own_R p.tables e below _ Ts2 (mkF m 146 #[.val (.int sz), .val (.int bits), .val (.int cnt), .val (.int (4 : Int32)), .val (.ref t), .val (.int b0), .val (.int b1), .val (.int b2), .val (.int b3), .val (.int b4), .val (.int b5), .val (.int b6), .unset, .unset, .unset, .unset, .unset] [(.int (3 : Int32)), (.ref t)])
                  refine own_go (fun _ => XS.iload Xs2.here hx rfl (hb hby at_146) rfl ) ?_
                  show own_R p.tables e below _ Ts2 (mkF m 148 #[.val (.int sz), .val (.int bits), .val (.int cnt), .val (.int (4 : Int32)), .val (.ref t), .val (.int b0), .val (.int b1), .val (.int b2), .val (.int b3), .val (.int b4), .val (.int b5), .val (.int b6), .unset, .unset, .unset, .unset, .unset] [(.int b3), (.int (3 : Int32)), (.ref t)])
                  obtain ⟨Ts3, hs3, Xs3, es3, Ws3, Vs3, sts3⟩ := own_stZ Xs2 hx hZ es2 Vs2 (j := (3 : Int32)) ⟨by decide, by decide⟩ 3 rfl (Nat.le_of_ble_eq_true rfl) hb3 (g := (mkF m 148 #[.val (.int sz), .val (.int bits), .val (.int cnt), .val (.int (4 : Int32)), .val (.ref t), .val (.int b0), .val (.int b1), .val (.int b2), .val (.int b3), .val (.int b4), .val (.int b5), .val (.int b6), .unset, .unset, .unset, .unset, .unset] [(.int b3), (.int (3 : Int32)), (.ref t)])) rfl rfl (hb hby at_148)
                  have Ks3 : Keep h0 hs3 [] := Ks2.wr Ws3 (Or.inr q1)
                  have Ns3 := Fr.snoc Xs3 Ns2 g1a
                  refine own_go sts3 ?_
                  show own_R p.tables e below _ Ts3 (mkF m 149 #[.val (.int sz), .val (.int bits), .val (.int cnt), .val (.int (4 : Int32)), .val (.ref t), .val (.int b0), .val (.int b1), .val (.int b2), .val (.int b3), .val (.int b4), .val (.int b5), .val (.int b6), .unset, .unset, .unset, .unset, .unset] [])
                  refine own_go (fun _ => XS.iloadN Xs3.here hx rfl (hb hby at_149) rfl ) ?_
                  show own_R p.tables e below _ Ts3 (mkF m 150 #[.val (.int sz), .val (.int bits), .val (.int cnt), .val (.int (4 : Int32)), .val (.ref t), .val (.int b0), .val (.int b1), .val (.int b2), .val (.int b3), .val (.int b4), .val (.int b5), .val (.int b6), .unset, .unset, .unset, .unset, .unset] [(.int (4 : Int32))])
                  refine own_go (fun _ => XS.iconst Xs3.here hx rfl (hb hby at_150)) ?_
                  show own_R p.tables e below _ Ts3 (mkF m 151 #[.val (.int sz), .val (.int bits), .val (.int cnt), .val (.int (4 : Int32)), .val (.ref t), .val (.int b0), .val (.int b1), .val (.int b2), .val (.int b3), .val (.int b4), .val (.int b5), .val (.int b6), .unset, .unset, .unset, .unset, .unset] [(.int (4 : Int32)), (.int (4 : Int32))])
                  refine own_go (fun _ => XS.icmpYes Xs3.here hx rfl (pc0 := 151) (pc' := 160) rfl (hb hby at_151) rfl (flt (by decide)).2.2.2 (by decide) (by decide)) ?_
                  show own_R p.tables e below _ Ts3 (mkF m 160 #[.val (.int sz), .val (.int bits), .val (.int cnt), .val (.int (4 : Int32)), .val (.ref t), .val (.int b0), .val (.int b1), .val (.int b2), .val (.int b3), .val (.int b4), .val (.int b5), .val (.int b6), .unset, .unset, .unset, .unset, .unset] [])
                  refine own_go (fun _ => XS.iloadN Xs3.here hx rfl (hb hby at_160) rfl ) ?_
                  show own_R p.tables e below _ Ts3 (mkF m 161 #[.val (.int sz), .val (.int bits), .val (.int cnt), .val (.int (4 : Int32)), .val (.ref t), .val (.int b0), .val (.int b1), .val (.int b2), .val (.int b3), .val (.int b4), .val (.int b5), .val (.int b6), .unset, .unset, .unset, .unset, .unset] [(.int (4 : Int32))])
                  refine own_go (fun _ => XS.iconst Xs3.here hx rfl (hb hby at_161)) ?_
                  show own_R p.tables e below _ Ts3 (mkF m 162 #[.val (.int sz), .val (.int bits), .val (.int cnt), .val (.int (4 : Int32)), .val (.ref t), .val (.int b0), .val (.int b1), .val (.int b2), .val (.int b3), .val (.int b4), .val (.int b5), .val (.int b6), .unset, .unset, .unset, .unset, .unset] [(.int (5 : Int32)), (.int (4 : Int32))])
                  refine own_go (fun _ => XS.icmpYes Xs3.here hx rfl (pc0 := 162) (pc' := 171) rfl (hb hby at_162) rfl (flt (by decide)).2.2.2 (by decide) (by decide)) ?_
                  show own_R p.tables e below _ Ts3 (mkF m 171 #[.val (.int sz), .val (.int bits), .val (.int cnt), .val (.int (4 : Int32)), .val (.ref t), .val (.int b0), .val (.int b1), .val (.int b2), .val (.int b3), .val (.int b4), .val (.int b5), .val (.int b6), .unset, .unset, .unset, .unset, .unset] [])
                  refine own_go (fun _ => XS.iloadN Xs3.here hx rfl (hb hby at_171) rfl ) ?_
                  show own_R p.tables e below _ Ts3 (mkF m 172 #[.val (.int sz), .val (.int bits), .val (.int cnt), .val (.int (4 : Int32)), .val (.ref t), .val (.int b0), .val (.int b1), .val (.int b2), .val (.int b3), .val (.int b4), .val (.int b5), .val (.int b6), .unset, .unset, .unset, .unset, .unset] [(.int (4 : Int32))])
                  refine own_go (fun _ => XS.bipush Xs3.here hx rfl (hb hby at_172)) ?_
                  show own_R p.tables e below _ Ts3 (mkF m 174 #[.val (.int sz), .val (.int bits), .val (.int cnt), .val (.int (4 : Int32)), .val (.ref t), .val (.int b0), .val (.int b1), .val (.int b2), .val (.int b3), .val (.int b4), .val (.int b5), .val (.int b6), .unset, .unset, .unset, .unset, .unset] [(.int (6 : Int32)), (.int (4 : Int32))])
                  refine own_go (fun _ => XS.icmpYes Xs3.here hx rfl (pc0 := 174) (pc' := 184) rfl (hb hby at_174) rfl (flt (by decide)).2.2.2 (by decide) (by decide)) ?_
                  show own_R p.tables e below _ Ts3 (mkF m 184 #[.val (.int sz), .val (.int bits), .val (.int cnt), .val (.int (4 : Int32)), .val (.ref t), .val (.int b0), .val (.int b1), .val (.int b2), .val (.int b3), .val (.int b4), .val (.int b5), .val (.int b6), .unset, .unset, .unset, .unset, .unset] [])
                  obtain ⟨T3, h3, X3, e3, E3, A3, D3, -, st3⟩ := newO Xs3 hx hZ hown (hw _ (List.mem_of_getElem? (i := 5) rfl)) (hw _ (List.mem_of_getElem? (i := 6) rfl)) (hw _ (List.mem_of_getElem? (i := 7) rfl)) es3 (g := (mkF m 184 #[.val (.int sz), .val (.int bits), .val (.int cnt), .val (.int (4 : Int32)), .val (.ref t), .val (.int b0), .val (.int b1), .val (.int b2), .val (.int b3), .val (.int b4), .val (.int b5), .val (.int b6), .unset, .unset, .unset, .unset, .unset] [])) rfl (hb hby at_184) (by decide) (by decide)
                  obtain ⟨a3, g3⟩ : ∃ z, z = hs3.size := ⟨_, rfl⟩
                  rw [← g3] at A3 D3 st3
                  refine own_go st3 ?_
                  show own_R p.tables e below _ T3 (mkF m 187 #[.val (.int sz), .val (.int bits), .val (.int cnt), .val (.int (4 : Int32)), .val (.ref t), .val (.int b0), .val (.int b1), .val (.int b2), .val (.int b3), .val (.int b4), .val (.int b5), .val (.int b6), .unset, .unset, .unset, .unset, .unset] [(.ref a3)])
                  refine own_go (fun _ => XS.dup X3.here hx rfl (hb hby at_187) rfl rfl) ?_
                  show own_R p.tables e below _ T3 (mkF m 188 #[.val (.int sz), .val (.int bits), .val (.int cnt), .val (.int (4 : Int32)), .val (.ref t), .val (.int b0), .val (.int b1), .val (.int b2), .val (.int b3), .val (.int b4), .val (.int b5), .val (.int b6), .unset, .unset, .unset, .unset, .unset] [(.ref a3), (.ref a3)])
                  refine own_go (fun _ => XS.aload X3.here hx rfl (hb hby at_188) rfl rfl) ?_
                  show own_R p.tables e below _ T3 (mkF m 190 #[.val (.int sz), .val (.int bits), .val (.int cnt), .val (.int (4 : Int32)), .val (.ref t), .val (.int b0), .val (.int b1), .val (.int b2), .val (.int b3), .val (.int b4), .val (.int b5), .val (.int b6), .unset, .unset, .unset, .unset, .unset] [(.ref t), (.ref a3), (.ref a3)])
                  refine own_go (fun _ => XS.iloadN X3.here hx rfl (hb hby at_190) rfl ) ?_
                  show own_R p.tables e below _ T3 (mkF m 191 #[.val (.int sz), .val (.int bits), .val (.int cnt), .val (.int (4 : Int32)), .val (.ref t), .val (.int b0), .val (.int b1), .val (.int b2), .val (.int b3), .val (.int b4), .val (.int b5), .val (.int b6), .unset, .unset, .unset, .unset, .unset] [(.int cnt), (.ref t), (.ref a3), (.ref a3)])
                  have g3a : n0 ≤ a3 := Nat.le_trans Z0 (Nat.le_trans Ks3.1 (Nat.le_of_eq g3.symm))
                  have ne3 : t ≠ a3 := Nat.ne_of_lt (Nat.lt_of_lt_of_le Vs3.lt (Nat.le_of_eq g3.symm))
                  obtain ⟨v4, T4, L4, X4, Q4, st4⟩ := own_callI X3 hx hZ hown (y := (⟨"com/example/kookaburra/kookaburra/eval/Ranking", "<init>", "([ZI)V"⟩ : MethodName)) rfl (hw _ (List.mem_of_getElem? (i := 8) rfl)) (hw _ (List.mem_of_getElem? (i := 9) rfl)) (hw _ (List.mem_of_getElem? (i := 10) rfl)) (hw _ (List.mem_of_getElem? (i := 7) rfl)) (by decide) (rmInit l Z a0 hw [] h3 n0 a3 t cnt g3a A3 (D3 (Or.inr (hw _ (List.mem_of_getElem? (i := 15) rfl))) (ty := (.array .boolean)) (by decide)) (D3 (Or.inr (hw _ (List.mem_of_getElem? (i := 17) rfl))) (ty := .int) (by decide))) (W := 1) (g := (mkF m 191 #[.val (.int sz), .val (.int bits), .val (.int cnt), .val (.int (4 : Int32)), .val (.ref t), .val (.int b0), .val (.int b1), .val (.int b2), .val (.int b3), .val (.int b4), .val (.int b5), .val (.int b6), .unset, .unset, .unset, .unset, .unset] [(.int cnt), (.ref t), (.ref a3), (.ref a3)])) rfl (by rw [hml]; rfl) (a := a3) (argsL := [(.ref t), (.int cnt)]) (rest := [(.ref a3)]) (lenOf pd___ZI_V rfl) rfl rfl (by show 2 * 0 + _ ≤ _; exact Nat.le_of_eq rfl) (hb hby at_191) e3 (by decide) (by decide) (by decide) (by decide)
                  obtain ⟨rfl, N4q, K4, E4, F4a, F4b⟩ := Q4
                  have N4 := Fr.app Ns3 N4q
                  have V4 := (Vs3.ext E3).keep K4 (ninS ne3 nin0)
                  refine own_go st4 ?_
                  show own_R p.tables e below _ T4 (mkF m 194 #[.val (.int sz), .val (.int bits), .val (.int cnt), .val (.int (4 : Int32)), .val (.ref t), .val (.int b0), .val (.int b1), .val (.int b2), .val (.int b3), .val (.int b4), .val (.int b5), .val (.int b6), .unset, .unset, .unset, .unset, .unset] [(.ref a3)])
                  obtain ⟨v5, T5, L5, X5, Q5, st5⟩ := own_callV X4 hx hZ hown (y := (⟨"com/example/kookaburra/kookaburra/eval/Ranking", "reciprocalRank", "()D"⟩ : MethodName)) (hw _ (List.mem_of_getElem? (i := 18) rfl)) (hw _ (List.mem_of_getElem? (i := 19) rfl)) (hw _ (List.mem_of_getElem? (i := 21) rfl)) (hw _ (List.mem_of_getElem? (i := 20) rfl)) (hw _ (List.mem_of_getElem? (i := 22) rfl)) (hw _ (List.mem_of_getElem? (i := 7) rfl)) (by decide) (rmRR l Z a0 hw [] T4.heap n0 a3 t ([b0, b1, b2, b3] : List Int32) (Nat.le_of_ble_eq_true rfl) F4a V4) E4 (W := 0) (g := (mkF m 194 #[.val (.int sz), .val (.int bits), .val (.int cnt), .val (.int (4 : Int32)), .val (.ref t), .val (.int b0), .val (.int b1), .val (.int b2), .val (.int b3), .val (.int b4), .val (.int b5), .val (.int b6), .unset, .unset, .unset, .unset, .unset] [(.ref a3)])) rfl (by rw [hml]; rfl) (b := a3) (argsL := []) (rest := []) (lenOf pd___D rfl) rfl rfl (by show 2 * 0 + _ ≤ _; exact Nat.le_of_eq rfl) (hb hby at_194) rfl (by decide) (by decide) (by decide) (by decide)
                  obtain ⟨rfl, N5q, e5⟩ := Q5
                  have N5 := Fr.app N4 N5q
                  refine own_go st5 ?_
                  show own_R p.tables e below _ T5 (mkF m 197 #[.val (.int sz), .val (.int bits), .val (.int cnt), .val (.int (4 : Int32)), .val (.ref t), .val (.int b0), .val (.int b1), .val (.int b2), .val (.int b3), .val (.int b4), .val (.int b5), .val (.int b6), .unset, .unset, .unset, .unset, .unset] [(.double (own_rr [b0, b1, b2, b3] 1))])
                  obtain ⟨xx, hxx⟩ : ∃ z, own_rr [b0, b1, b2, b3] 1 = z := ⟨_, rfl⟩
                  rw [hxx]
                  show own_R p.tables e below _ T5 (mkF m 197 #[.val (.int sz), .val (.int bits), .val (.int cnt), .val (.int (4 : Int32)), .val (.ref t), .val (.int b0), .val (.int b1), .val (.int b2), .val (.int b3), .val (.int b4), .val (.int b5), .val (.int b6), .unset, .unset, .unset, .unset, .unset] [(.double xx)])
                  refine own_go (fun _ => XS.dstore X5.here hx rfl (hb hby at_197) rfl (l' := #[.val (.int sz), .val (.int bits), .val (.int cnt), .val (.int (4 : Int32)), .val (.ref t), .val (.int b0), .val (.int b1), .val (.int b2), .val (.int b3), .val (.int b4), .val (.int b5), .val (.int b6), .val (.double xx), .second, .unset, .unset, .unset]) rfl) ?_
                  refine own_go (fun _ => XS.iconst X5.here hx rfl (hb hby at_199)) ?_
                  refine own_go (fun _ => XS.istore X5.here hx rfl (hb hby at_200) rfl (l' := #[.val (.int sz), .val (.int bits), .val (.int cnt), .val (.int (4 : Int32)), .val (.ref t), .val (.int b0), .val (.int b1), .val (.int b2), .val (.int b3), .val (.int b4), .val (.int b5), .val (.int b6), .val (.double xx), .second, .val (.int (0 : Int32)), .unset, .unset]) rfl) ?_
                  show own_R p.tables e below _ T5 (mkF m 202 #[.val (.int sz), .val (.int bits), .val (.int cnt), .val (.int (4 : Int32)), .val (.ref t), .val (.int b0), .val (.int b1), .val (.int b2), .val (.int b3), .val (.int b4), .val (.int b5), .val (.int b6), .val (.double xx), .second, .val (.int (0 : Int32)), .unset, .unset] [])
                  have JT : ∀ f : Int32, xx = own_fx f → Jvm.Free.Fl.NoNaN64 (own_fx f) → own_R p.tables e below (own_E s below (own_Q0 n0) (room_1).cells (room_1).slots) T5 (mkF m 313 #[.val (.int sz), .val (.int bits), .val (.int cnt), .val (.int (4 : Int32)), .val (.ref t), .val (.int b0), .val (.int b1), .val (.int b2), .val (.int b3), .val (.int b4), .val (.int b5), .val (.int b6), .val (.double xx), .second, .val (.int f), .unset, .unset] []) := by
                    intro f hf hnn
                    show own_R p.tables e below _ T5 (mkF m 313 #[.val (.int sz), .val (.int bits), .val (.int cnt), .val (.int (4 : Int32)), .val (.ref t), .val (.int b0), .val (.int b1), .val (.int b2), .val (.int b3), .val (.int b4), .val (.int b5), .val (.int b6), .val (.double xx), .second, .val (.int f), .unset, .unset] [])
                    refine own_go (fun _ => XS.iload X5.here hx rfl (hb hby at_313) rfl ) ?_
                    show own_R p.tables e below _ T5 (mkF m 315 #[.val (.int sz), .val (.int bits), .val (.int cnt), .val (.int (4 : Int32)), .val (.ref t), .val (.int b0), .val (.int b1), .val (.int b2), .val (.int b3), .val (.int b4), .val (.int b5), .val (.int b6), .val (.double xx), .second, .val (.int f), .unset, .unset] [(.int f)])
                    by_cases hf0 : f = (0 : Int32)
                    · show own_R p.tables e below _ T5 (mkF m 315 #[.val (.int sz), .val (.int bits), .val (.int cnt), .val (.int (4 : Int32)), .val (.ref t), .val (.int b0), .val (.int b1), .val (.int b2), .val (.int b3), .val (.int b4), .val (.int b5), .val (.int b6), .val (.double xx), .second, .val (.int f), .unset, .unset] [(.int f)])
                      refine own_go (fun _ => XS.ifNo X5.here hx rfl (hb hby at_315) rfl ((if0 _ _).trans (teq hf0).2)) ?_
                      show own_R p.tables e below _ T5 (mkF m 318 #[.val (.int sz), .val (.int bits), .val (.int cnt), .val (.int (4 : Int32)), .val (.ref t), .val (.int b0), .val (.int b1), .val (.int b2), .val (.int b3), .val (.int b4), .val (.int b5), .val (.int b6), .val (.double xx), .second, .val (.int f), .unset, .unset] [])
                      have hfx : own_fx f = FP.dconst0 := if_pos hf0
                      rw [hfx] at hf hnn
                      show own_R p.tables e below _ T5 (mkF m 318 #[.val (.int sz), .val (.int bits), .val (.int cnt), .val (.int (4 : Int32)), .val (.ref t), .val (.int b0), .val (.int b1), .val (.int b2), .val (.int b3), .val (.int b4), .val (.int b5), .val (.int b6), .val (.double xx), .second, .val (.int f), .unset, .unset] [])
                      refine own_go (fun _ => XS.dconst0 X5.here hx rfl (hb hby at_318) rfl) ?_
                      refine own_go (fun _ => XS.goto X5.here hx rfl (pc0 := 319) (pc' := 327) rfl (hb hby at_319) (by decide) (by decide)) ?_
                      refine own_go (fun _ => XS.dstore X5.here hx rfl (hb hby at_327) rfl (l' := #[.val (.int sz), .val (.int bits), .val (.int cnt), .val (.int (4 : Int32)), .val (.ref t), .val (.int b0), .val (.int b1), .val (.int b2), .val (.int b3), .val (.int b4), .val (.int b5), .val (.int b6), .val (.double xx), .second, .val (.int f), .val (.double FP.dconst0), .second]) rfl) ?_
                      refine own_go (fun _ => XS.dload X5.here hx rfl (hb hby at_329) rfl ) ?_
                      show own_R p.tables e below _ T5 (mkF m 331 #[.val (.int sz), .val (.int bits), .val (.int cnt), .val (.int (4 : Int32)), .val (.ref t), .val (.int b0), .val (.int b1), .val (.int b2), .val (.int b3), .val (.int b4), .val (.int b5), .val (.int b6), .val (.double xx), .second, .val (.int f), .val (.double FP.dconst0), .second] [(.double xx)])
                      refine own_go (fun _ => XS.dload X5.here hx rfl (hb hby at_331) rfl ) ?_
                      refine own_go (fun _ => XS.dcmpS X5.here hx rfl (hb hby at_333) rfl rfl) ?_
                      show own_R p.tables e below _ T5 (mkF m 334 #[.val (.int sz), .val (.int bits), .val (.int cnt), .val (.int (4 : Int32)), .val (.ref t), .val (.int b0), .val (.int b1), .val (.int b2), .val (.int b3), .val (.int b4), .val (.int b5), .val (.int b6), .val (.double xx), .second, .val (.int f), .val (.double FP.dconst0), .second] [(.int (cmpValue (FP.dcmp xx FP.dconst0) .l))])
                      refine own_go (fun _ => XS.ifNo X5.here hx rfl (hb hby at_334) rfl ((if0 _ _).trans (teq (by rw [hf]; exact dcmpV_self hnn _)).2)) ?_
                      show own_R p.tables e below _ T5 (mkF m 337 #[.val (.int sz), .val (.int bits), .val (.int cnt), .val (.int (4 : Int32)), .val (.ref t), .val (.int b0), .val (.int b1), .val (.int b2), .val (.int b3), .val (.int b4), .val (.int b5), .val (.int b6), .val (.double xx), .second, .val (.int f), .val (.double FP.dconst0), .second] [])
                      refine own_go (fun _ => XS.iconst X5.here hx rfl (hb hby at_337)) ?_
                      refine own_go (fun _ => XS.goto X5.here hx rfl (pc0 := 338) (pc' := 342) rfl (hb hby at_338) (by decide) (by decide)) ?_
                      show own_R p.tables e below _ T5 (mkF m 342 #[.val (.int sz), .val (.int bits), .val (.int cnt), .val (.int (4 : Int32)), .val (.ref t), .val (.int b0), .val (.int b1), .val (.int b2), .val (.int b3), .val (.int b4), .val (.int b5), .val (.int b6), .val (.double xx), .second, .val (.int f), .val (.double FP.dconst0), .second] [(.int (1 : Int32))])
                      exact own_end X5 (some (.int (1 : Int32))) (fun h => by rw [hret] at h; cases h) hlk (fun fs hr => retN X5 hx (t := .boolean) hret (by simp) (hb hby at_342) hr) ⟨rfl, N5⟩ (by decide) (by decide)
                    · show own_R p.tables e below _ T5 (mkF m 315 #[.val (.int sz), .val (.int bits), .val (.int cnt), .val (.int (4 : Int32)), .val (.ref t), .val (.int b0), .val (.int b1), .val (.int b2), .val (.int b3), .val (.int b4), .val (.int b5), .val (.int b6), .val (.double xx), .second, .val (.int f), .unset, .unset] [(.int f)])
                      refine own_go (fun _ => XS.ifYes X5.here hx rfl (pc0 := 315) (pc' := 322) rfl (hb hby at_315) rfl ((if0 _ _).trans (feq hf0).2) (by decide) (by decide)) ?_
                      show own_R p.tables e below _ T5 (mkF m 322 #[.val (.int sz), .val (.int bits), .val (.int cnt), .val (.int (4 : Int32)), .val (.ref t), .val (.int b0), .val (.int b1), .val (.int b2), .val (.int b3), .val (.int b4), .val (.int b5), .val (.int b6), .val (.double xx), .second, .val (.int f), .unset, .unset] [])
                      have hfx : own_fx f = FP.ddiv FP.dconst1 (FP.i2d f) := if_neg hf0
                      rw [hfx] at hf hnn
                      show own_R p.tables e below _ T5 (mkF m 322 #[.val (.int sz), .val (.int bits), .val (.int cnt), .val (.int (4 : Int32)), .val (.ref t), .val (.int b0), .val (.int b1), .val (.int b2), .val (.int b3), .val (.int b4), .val (.int b5), .val (.int b6), .val (.double xx), .second, .val (.int f), .unset, .unset] [])
                      refine own_go (fun _ => XS.dconst1 X5.here hx rfl (hb hby at_322) rfl) ?_
                      refine own_go (fun _ => XS.iload X5.here hx rfl (hb hby at_323) rfl ) ?_
                      refine own_go (fun _ => XS.i2dS X5.here hx rfl (hb hby at_325) rfl rfl) ?_
                      refine own_go (fun _ => XS.ddivS X5.here hx rfl (hb hby at_326) rfl hnn rfl) ?_
                      show own_R p.tables e below _ T5 (mkF m 327 #[.val (.int sz), .val (.int bits), .val (.int cnt), .val (.int (4 : Int32)), .val (.ref t), .val (.int b0), .val (.int b1), .val (.int b2), .val (.int b3), .val (.int b4), .val (.int b5), .val (.int b6), .val (.double xx), .second, .val (.int f), .unset, .unset] [(.double (FP.ddiv FP.dconst1 (FP.i2d f)))])
                      refine own_go (fun _ => XS.dstore X5.here hx rfl (hb hby at_327) rfl (l' := #[.val (.int sz), .val (.int bits), .val (.int cnt), .val (.int (4 : Int32)), .val (.ref t), .val (.int b0), .val (.int b1), .val (.int b2), .val (.int b3), .val (.int b4), .val (.int b5), .val (.int b6), .val (.double xx), .second, .val (.int f), .val (.double (FP.ddiv FP.dconst1 (FP.i2d f))), .second]) rfl) ?_
                      refine own_go (fun _ => XS.dload X5.here hx rfl (hb hby at_329) rfl ) ?_
                      refine own_go (fun _ => XS.dload X5.here hx rfl (hb hby at_331) rfl ) ?_
                      refine own_go (fun _ => XS.dcmpS X5.here hx rfl (hb hby at_333) rfl rfl) ?_
                      show own_R p.tables e below _ T5 (mkF m 334 #[.val (.int sz), .val (.int bits), .val (.int cnt), .val (.int (4 : Int32)), .val (.ref t), .val (.int b0), .val (.int b1), .val (.int b2), .val (.int b3), .val (.int b4), .val (.int b5), .val (.int b6), .val (.double xx), .second, .val (.int f), .val (.double (FP.ddiv FP.dconst1 (FP.i2d f))), .second] [(.int (cmpValue (FP.dcmp xx (FP.ddiv FP.dconst1 (FP.i2d f))) .l))])
                      refine own_go (fun _ => XS.ifNo X5.here hx rfl (hb hby at_334) rfl ((if0 _ _).trans (teq (by rw [hf]; exact dcmpV_self hnn _)).2)) ?_
                      show own_R p.tables e below _ T5 (mkF m 337 #[.val (.int sz), .val (.int bits), .val (.int cnt), .val (.int (4 : Int32)), .val (.ref t), .val (.int b0), .val (.int b1), .val (.int b2), .val (.int b3), .val (.int b4), .val (.int b5), .val (.int b6), .val (.double xx), .second, .val (.int f), .val (.double (FP.ddiv FP.dconst1 (FP.i2d f))), .second] [])
                      refine own_go (fun _ => XS.iconst X5.here hx rfl (hb hby at_337)) ?_
                      refine own_go (fun _ => XS.goto X5.here hx rfl (pc0 := 338) (pc' := 342) rfl (hb hby at_338) (by decide) (by decide)) ?_
                      show own_R p.tables e below _ T5 (mkF m 342 #[.val (.int sz), .val (.int bits), .val (.int cnt), .val (.int (4 : Int32)), .val (.ref t), .val (.int b0), .val (.int b1), .val (.int b2), .val (.int b3), .val (.int b4), .val (.int b5), .val (.int b6), .val (.double xx), .second, .val (.int f), .val (.double (FP.ddiv FP.dconst1 (FP.i2d f))), .second] [(.int (1 : Int32))])
                      exact own_end X5 (some (.int (1 : Int32))) (fun h => by rw [hret] at h; cases h) hlk (fun fs hr => retN X5 hx (t := .boolean) hret (by simp) (hb hby at_342) hr) ⟨rfl, N5⟩ (by decide) (by decide)
                  refine own_go (fun _ => XS.iloadN X5.here hx rfl (hb hby at_202) rfl ) ?_
                  show own_R p.tables e below _ T5 (mkF m 203 #[.val (.int sz), .val (.int bits), .val (.int cnt), .val (.int (4 : Int32)), .val (.ref t), .val (.int b0), .val (.int b1), .val (.int b2), .val (.int b3), .val (.int b4), .val (.int b5), .val (.int b6), .val (.double xx), .second, .val (.int (0 : Int32)), .unset, .unset] [(.int (4 : Int32))])
                  refine own_go (fun _ => XS.ifNo X5.here hx rfl (hb hby at_203) rfl ((if0 _ _).trans (tlt (by decide)).2.2.2)) ?_
                  show own_R p.tables e below _ T5 (mkF m 206 #[.val (.int sz), .val (.int bits), .val (.int cnt), .val (.int (4 : Int32)), .val (.ref t), .val (.int b0), .val (.int b1), .val (.int b2), .val (.int b3), .val (.int b4), .val (.int b5), .val (.int b6), .val (.double xx), .second, .val (.int (0 : Int32)), .unset, .unset] [])
                  refine own_go (fun _ => XS.iload X5.here hx rfl (hb hby at_206) rfl ) ?_
                  show own_R p.tables e below _ T5 (mkF m 208 #[.val (.int sz), .val (.int bits), .val (.int cnt), .val (.int (4 : Int32)), .val (.ref t), .val (.int b0), .val (.int b1), .val (.int b2), .val (.int b3), .val (.int b4), .val (.int b5), .val (.int b6), .val (.double xx), .second, .val (.int (0 : Int32)), .unset, .unset] [(.int b0)])
                  by_cases k0 : b0 = (0 : Int32)
                  · show own_R p.tables e below _ T5 (mkF m 208 #[.val (.int sz), .val (.int bits), .val (.int cnt), .val (.int (4 : Int32)), .val (.ref t), .val (.int b0), .val (.int b1), .val (.int b2), .val (.int b3), .val (.int b4), .val (.int b5), .val (.int b6), .val (.double xx), .second, .val (.int (0 : Int32)), .unset, .unset] [(.int b0)])
                    refine own_go (fun _ => XS.ifYes X5.here hx rfl (pc0 := 208) (pc' := 217) rfl (hb hby at_208) rfl ((if0 _ _).trans (teq k0).1) (by decide) (by decide)) ?_
                    show own_R p.tables e below _ T5 (mkF m 217 #[.val (.int sz), .val (.int bits), .val (.int cnt), .val (.int (4 : Int32)), .val (.ref t), .val (.int b0), .val (.int b1), .val (.int b2), .val (.int b3), .val (.int b4), .val (.int b5), .val (.int b6), .val (.double xx), .second, .val (.int (0 : Int32)), .unset, .unset] [])
                    refine own_go (fun _ => XS.iloadN X5.here hx rfl (hb hby at_217) rfl ) ?_
                    show own_R p.tables e below _ T5 (mkF m 218 #[.val (.int sz), .val (.int bits), .val (.int cnt), .val (.int (4 : Int32)), .val (.ref t), .val (.int b0), .val (.int b1), .val (.int b2), .val (.int b3), .val (.int b4), .val (.int b5), .val (.int b6), .val (.double xx), .second, .val (.int (0 : Int32)), .unset, .unset] [(.int (4 : Int32))])
                    refine own_go (fun _ => XS.iconst X5.here hx rfl (hb hby at_218)) ?_
                    show own_R p.tables e below _ T5 (mkF m 219 #[.val (.int sz), .val (.int bits), .val (.int cnt), .val (.int (4 : Int32)), .val (.ref t), .val (.int b0), .val (.int b1), .val (.int b2), .val (.int b3), .val (.int b4), .val (.int b5), .val (.int b6), .val (.double xx), .second, .val (.int (0 : Int32)), .unset, .unset] [(.int (1 : Int32)), (.int (4 : Int32))])
                    refine own_go (fun _ => XS.icmpNo X5.here hx rfl (hb hby at_219) rfl (tlt (by decide)).2.2.2) ?_
                    show own_R p.tables e below _ T5 (mkF m 222 #[.val (.int sz), .val (.int bits), .val (.int cnt), .val (.int (4 : Int32)), .val (.ref t), .val (.int b0), .val (.int b1), .val (.int b2), .val (.int b3), .val (.int b4), .val (.int b5), .val (.int b6), .val (.double xx), .second, .val (.int (0 : Int32)), .unset, .unset] [])
                    refine own_go (fun _ => XS.iload X5.here hx rfl (hb hby at_222) rfl ) ?_
                    show own_R p.tables e below _ T5 (mkF m 224 #[.val (.int sz), .val (.int bits), .val (.int cnt), .val (.int (4 : Int32)), .val (.ref t), .val (.int b0), .val (.int b1), .val (.int b2), .val (.int b3), .val (.int b4), .val (.int b5), .val (.int b6), .val (.double xx), .second, .val (.int (0 : Int32)), .unset, .unset] [(.int b1)])
                    by_cases k1 : b1 = (0 : Int32)
                    · show own_R p.tables e below _ T5 (mkF m 224 #[.val (.int sz), .val (.int bits), .val (.int cnt), .val (.int (4 : Int32)), .val (.ref t), .val (.int b0), .val (.int b1), .val (.int b2), .val (.int b3), .val (.int b4), .val (.int b5), .val (.int b6), .val (.double xx), .second, .val (.int (0 : Int32)), .unset, .unset] [(.int b1)])
                      refine own_go (fun _ => XS.ifYes X5.here hx rfl (pc0 := 224) (pc' := 233) rfl (hb hby at_224) rfl ((if0 _ _).trans (teq k1).1) (by decide) (by decide)) ?_
                      show own_R p.tables e below _ T5 (mkF m 233 #[.val (.int sz), .val (.int bits), .val (.int cnt), .val (.int (4 : Int32)), .val (.ref t), .val (.int b0), .val (.int b1), .val (.int b2), .val (.int b3), .val (.int b4), .val (.int b5), .val (.int b6), .val (.double xx), .second, .val (.int (0 : Int32)), .unset, .unset] [])
                      refine own_go (fun _ => XS.iloadN X5.here hx rfl (hb hby at_233) rfl ) ?_
                      show own_R p.tables e below _ T5 (mkF m 234 #[.val (.int sz), .val (.int bits), .val (.int cnt), .val (.int (4 : Int32)), .val (.ref t), .val (.int b0), .val (.int b1), .val (.int b2), .val (.int b3), .val (.int b4), .val (.int b5), .val (.int b6), .val (.double xx), .second, .val (.int (0 : Int32)), .unset, .unset] [(.int (4 : Int32))])
                      refine own_go (fun _ => XS.iconst X5.here hx rfl (hb hby at_234)) ?_
                      show own_R p.tables e below _ T5 (mkF m 235 #[.val (.int sz), .val (.int bits), .val (.int cnt), .val (.int (4 : Int32)), .val (.ref t), .val (.int b0), .val (.int b1), .val (.int b2), .val (.int b3), .val (.int b4), .val (.int b5), .val (.int b6), .val (.double xx), .second, .val (.int (0 : Int32)), .unset, .unset] [(.int (2 : Int32)), (.int (4 : Int32))])
                      refine own_go (fun _ => XS.icmpNo X5.here hx rfl (hb hby at_235) rfl (tlt (by decide)).2.2.2) ?_
                      show own_R p.tables e below _ T5 (mkF m 238 #[.val (.int sz), .val (.int bits), .val (.int cnt), .val (.int (4 : Int32)), .val (.ref t), .val (.int b0), .val (.int b1), .val (.int b2), .val (.int b3), .val (.int b4), .val (.int b5), .val (.int b6), .val (.double xx), .second, .val (.int (0 : Int32)), .unset, .unset] [])
                      refine own_go (fun _ => XS.iload X5.here hx rfl (hb hby at_238) rfl ) ?_
                      show own_R p.tables e below _ T5 (mkF m 240 #[.val (.int sz), .val (.int bits), .val (.int cnt), .val (.int (4 : Int32)), .val (.ref t), .val (.int b0), .val (.int b1), .val (.int b2), .val (.int b3), .val (.int b4), .val (.int b5), .val (.int b6), .val (.double xx), .second, .val (.int (0 : Int32)), .unset, .unset] [(.int b2)])
                      by_cases k2 : b2 = (0 : Int32)
                      · show own_R p.tables e below _ T5 (mkF m 240 #[.val (.int sz), .val (.int bits), .val (.int cnt), .val (.int (4 : Int32)), .val (.ref t), .val (.int b0), .val (.int b1), .val (.int b2), .val (.int b3), .val (.int b4), .val (.int b5), .val (.int b6), .val (.double xx), .second, .val (.int (0 : Int32)), .unset, .unset] [(.int b2)])
                        refine own_go (fun _ => XS.ifYes X5.here hx rfl (pc0 := 240) (pc' := 249) rfl (hb hby at_240) rfl ((if0 _ _).trans (teq k2).1) (by decide) (by decide)) ?_
                        show own_R p.tables e below _ T5 (mkF m 249 #[.val (.int sz), .val (.int bits), .val (.int cnt), .val (.int (4 : Int32)), .val (.ref t), .val (.int b0), .val (.int b1), .val (.int b2), .val (.int b3), .val (.int b4), .val (.int b5), .val (.int b6), .val (.double xx), .second, .val (.int (0 : Int32)), .unset, .unset] [])
                        refine own_go (fun _ => XS.iloadN X5.here hx rfl (hb hby at_249) rfl ) ?_
                        show own_R p.tables e below _ T5 (mkF m 250 #[.val (.int sz), .val (.int bits), .val (.int cnt), .val (.int (4 : Int32)), .val (.ref t), .val (.int b0), .val (.int b1), .val (.int b2), .val (.int b3), .val (.int b4), .val (.int b5), .val (.int b6), .val (.double xx), .second, .val (.int (0 : Int32)), .unset, .unset] [(.int (4 : Int32))])
                        refine own_go (fun _ => XS.iconst X5.here hx rfl (hb hby at_250)) ?_
                        show own_R p.tables e below _ T5 (mkF m 251 #[.val (.int sz), .val (.int bits), .val (.int cnt), .val (.int (4 : Int32)), .val (.ref t), .val (.int b0), .val (.int b1), .val (.int b2), .val (.int b3), .val (.int b4), .val (.int b5), .val (.int b6), .val (.double xx), .second, .val (.int (0 : Int32)), .unset, .unset] [(.int (3 : Int32)), (.int (4 : Int32))])
                        refine own_go (fun _ => XS.icmpNo X5.here hx rfl (hb hby at_251) rfl (tlt (by decide)).2.2.2) ?_
                        show own_R p.tables e below _ T5 (mkF m 254 #[.val (.int sz), .val (.int bits), .val (.int cnt), .val (.int (4 : Int32)), .val (.ref t), .val (.int b0), .val (.int b1), .val (.int b2), .val (.int b3), .val (.int b4), .val (.int b5), .val (.int b6), .val (.double xx), .second, .val (.int (0 : Int32)), .unset, .unset] [])
                        refine own_go (fun _ => XS.iload X5.here hx rfl (hb hby at_254) rfl ) ?_
                        show own_R p.tables e below _ T5 (mkF m 256 #[.val (.int sz), .val (.int bits), .val (.int cnt), .val (.int (4 : Int32)), .val (.ref t), .val (.int b0), .val (.int b1), .val (.int b2), .val (.int b3), .val (.int b4), .val (.int b5), .val (.int b6), .val (.double xx), .second, .val (.int (0 : Int32)), .unset, .unset] [(.int b3)])
                        by_cases k3 : b3 = (0 : Int32)
                        · show own_R p.tables e below _ T5 (mkF m 256 #[.val (.int sz), .val (.int bits), .val (.int cnt), .val (.int (4 : Int32)), .val (.ref t), .val (.int b0), .val (.int b1), .val (.int b2), .val (.int b3), .val (.int b4), .val (.int b5), .val (.int b6), .val (.double xx), .second, .val (.int (0 : Int32)), .unset, .unset] [(.int b3)])
                          refine own_go (fun _ => XS.ifYes X5.here hx rfl (pc0 := 256) (pc' := 265) rfl (hb hby at_256) rfl ((if0 _ _).trans (teq k3).1) (by decide) (by decide)) ?_
                          show own_R p.tables e below _ T5 (mkF m 265 #[.val (.int sz), .val (.int bits), .val (.int cnt), .val (.int (4 : Int32)), .val (.ref t), .val (.int b0), .val (.int b1), .val (.int b2), .val (.int b3), .val (.int b4), .val (.int b5), .val (.int b6), .val (.double xx), .second, .val (.int (0 : Int32)), .unset, .unset] [])
                          refine own_go (fun _ => XS.iloadN X5.here hx rfl (hb hby at_265) rfl ) ?_
                          show own_R p.tables e below _ T5 (mkF m 266 #[.val (.int sz), .val (.int bits), .val (.int cnt), .val (.int (4 : Int32)), .val (.ref t), .val (.int b0), .val (.int b1), .val (.int b2), .val (.int b3), .val (.int b4), .val (.int b5), .val (.int b6), .val (.double xx), .second, .val (.int (0 : Int32)), .unset, .unset] [(.int (4 : Int32))])
                          refine own_go (fun _ => XS.iconst X5.here hx rfl (hb hby at_266)) ?_
                          show own_R p.tables e below _ T5 (mkF m 267 #[.val (.int sz), .val (.int bits), .val (.int cnt), .val (.int (4 : Int32)), .val (.ref t), .val (.int b0), .val (.int b1), .val (.int b2), .val (.int b3), .val (.int b4), .val (.int b5), .val (.int b6), .val (.double xx), .second, .val (.int (0 : Int32)), .unset, .unset] [(.int (4 : Int32)), (.int (4 : Int32))])
                          refine own_go (fun _ => XS.icmpYes X5.here hx rfl (pc0 := 267) (pc' := 281) rfl (hb hby at_267) rfl (flt (by decide)).2.2.2 (by decide) (by decide)) ?_
                          show own_R p.tables e below _ T5 (mkF m 281 #[.val (.int sz), .val (.int bits), .val (.int cnt), .val (.int (4 : Int32)), .val (.ref t), .val (.int b0), .val (.int b1), .val (.int b2), .val (.int b3), .val (.int b4), .val (.int b5), .val (.int b6), .val (.double xx), .second, .val (.int (0 : Int32)), .unset, .unset] [])
                          refine own_go (fun _ => XS.iloadN X5.here hx rfl (hb hby at_281) rfl ) ?_
                          show own_R p.tables e below _ T5 (mkF m 282 #[.val (.int sz), .val (.int bits), .val (.int cnt), .val (.int (4 : Int32)), .val (.ref t), .val (.int b0), .val (.int b1), .val (.int b2), .val (.int b3), .val (.int b4), .val (.int b5), .val (.int b6), .val (.double xx), .second, .val (.int (0 : Int32)), .unset, .unset] [(.int (4 : Int32))])
                          refine own_go (fun _ => XS.iconst X5.here hx rfl (hb hby at_282)) ?_
                          show own_R p.tables e below _ T5 (mkF m 283 #[.val (.int sz), .val (.int bits), .val (.int cnt), .val (.int (4 : Int32)), .val (.ref t), .val (.int b0), .val (.int b1), .val (.int b2), .val (.int b3), .val (.int b4), .val (.int b5), .val (.int b6), .val (.double xx), .second, .val (.int (0 : Int32)), .unset, .unset] [(.int (5 : Int32)), (.int (4 : Int32))])
                          refine own_go (fun _ => XS.icmpYes X5.here hx rfl (pc0 := 283) (pc' := 298) rfl (hb hby at_283) rfl (flt (by decide)).2.2.2 (by decide) (by decide)) ?_
                          show own_R p.tables e below _ T5 (mkF m 298 #[.val (.int sz), .val (.int bits), .val (.int cnt), .val (.int (4 : Int32)), .val (.ref t), .val (.int b0), .val (.int b1), .val (.int b2), .val (.int b3), .val (.int b4), .val (.int b5), .val (.int b6), .val (.double xx), .second, .val (.int (0 : Int32)), .unset, .unset] [])
                          refine own_go (fun _ => XS.iloadN X5.here hx rfl (hb hby at_298) rfl ) ?_
                          show own_R p.tables e below _ T5 (mkF m 299 #[.val (.int sz), .val (.int bits), .val (.int cnt), .val (.int (4 : Int32)), .val (.ref t), .val (.int b0), .val (.int b1), .val (.int b2), .val (.int b3), .val (.int b4), .val (.int b5), .val (.int b6), .val (.double xx), .second, .val (.int (0 : Int32)), .unset, .unset] [(.int (4 : Int32))])
                          refine own_go (fun _ => XS.bipush X5.here hx rfl (hb hby at_299)) ?_
                          show own_R p.tables e below _ T5 (mkF m 301 #[.val (.int sz), .val (.int bits), .val (.int cnt), .val (.int (4 : Int32)), .val (.ref t), .val (.int b0), .val (.int b1), .val (.int b2), .val (.int b3), .val (.int b4), .val (.int b5), .val (.int b6), .val (.double xx), .second, .val (.int (0 : Int32)), .unset, .unset] [(.int (6 : Int32)), (.int (4 : Int32))])
                          refine own_go (fun _ => XS.icmpYes X5.here hx rfl (pc0 := 301) (pc' := 313) rfl (hb hby at_301) rfl (flt (by decide)).2.2.2 (by decide) (by decide)) ?_
                          show own_R p.tables e below _ T5 (mkF m 313 #[.val (.int sz), .val (.int bits), .val (.int cnt), .val (.int (4 : Int32)), .val (.ref t), .val (.int b0), .val (.int b1), .val (.int b2), .val (.int b3), .val (.int b4), .val (.int b5), .val (.int b6), .val (.double xx), .second, .val (.int (0 : Int32)), .unset, .unset] [])
                          exact JT 0 (hxx.symm.trans (by simp [own_rr, own_fx, k0, k1, k2, k3])) (own_fn 0)
                        · show own_R p.tables e below _ T5 (mkF m 256 #[.val (.int sz), .val (.int bits), .val (.int cnt), .val (.int (4 : Int32)), .val (.ref t), .val (.int b0), .val (.int b1), .val (.int b2), .val (.int b3), .val (.int b4), .val (.int b5), .val (.int b6), .val (.double xx), .second, .val (.int (0 : Int32)), .unset, .unset] [(.int b3)])
                          refine own_go (fun _ => XS.ifNo X5.here hx rfl (hb hby at_256) rfl ((if0 _ _).trans (feq k3).1)) ?_
                          show own_R p.tables e below _ T5 (mkF m 259 #[.val (.int sz), .val (.int bits), .val (.int cnt), .val (.int (4 : Int32)), .val (.ref t), .val (.int b0), .val (.int b1), .val (.int b2), .val (.int b3), .val (.int b4), .val (.int b5), .val (.int b6), .val (.double xx), .second, .val (.int (0 : Int32)), .unset, .unset] [])
                          refine own_go (fun _ => XS.iconst X5.here hx rfl (hb hby at_259)) ?_
                          refine own_go (fun _ => XS.istore X5.here hx rfl (hb hby at_260) rfl (l' := #[.val (.int sz), .val (.int bits), .val (.int cnt), .val (.int (4 : Int32)), .val (.ref t), .val (.int b0), .val (.int b1), .val (.int b2), .val (.int b3), .val (.int b4), .val (.int b5), .val (.int b6), .val (.double xx), .second, .val (.int (4 : Int32)), .unset, .unset]) rfl) ?_
                          refine own_go (fun _ => XS.goto X5.here hx rfl (pc0 := 262) (pc' := 313) rfl (hb hby at_262) (by decide) (by decide)) ?_
                          show own_R p.tables e below _ T5 (mkF m 313 #[.val (.int sz), .val (.int bits), .val (.int cnt), .val (.int (4 : Int32)), .val (.ref t), .val (.int b0), .val (.int b1), .val (.int b2), .val (.int b3), .val (.int b4), .val (.int b5), .val (.int b6), .val (.double xx), .second, .val (.int (4 : Int32)), .unset, .unset] [])
                          exact JT 4 (hxx.symm.trans (by simp [own_rr, own_fx, k0, k1, k2, k3])) (own_fn 4)
                      · show own_R p.tables e below _ T5 (mkF m 240 #[.val (.int sz), .val (.int bits), .val (.int cnt), .val (.int (4 : Int32)), .val (.ref t), .val (.int b0), .val (.int b1), .val (.int b2), .val (.int b3), .val (.int b4), .val (.int b5), .val (.int b6), .val (.double xx), .second, .val (.int (0 : Int32)), .unset, .unset] [(.int b2)])
                        refine own_go (fun _ => XS.ifNo X5.here hx rfl (hb hby at_240) rfl ((if0 _ _).trans (feq k2).1)) ?_
                        show own_R p.tables e below _ T5 (mkF m 243 #[.val (.int sz), .val (.int bits), .val (.int cnt), .val (.int (4 : Int32)), .val (.ref t), .val (.int b0), .val (.int b1), .val (.int b2), .val (.int b3), .val (.int b4), .val (.int b5), .val (.int b6), .val (.double xx), .second, .val (.int (0 : Int32)), .unset, .unset] [])
                        refine own_go (fun _ => XS.iconst X5.here hx rfl (hb hby at_243)) ?_
                        refine own_go (fun _ => XS.istore X5.here hx rfl (hb hby at_244) rfl (l' := #[.val (.int sz), .val (.int bits), .val (.int cnt), .val (.int (4 : Int32)), .val (.ref t), .val (.int b0), .val (.int b1), .val (.int b2), .val (.int b3), .val (.int b4), .val (.int b5), .val (.int b6), .val (.double xx), .second, .val (.int (3 : Int32)), .unset, .unset]) rfl) ?_
                        refine own_go (fun _ => XS.goto X5.here hx rfl (pc0 := 246) (pc' := 313) rfl (hb hby at_246) (by decide) (by decide)) ?_
                        show own_R p.tables e below _ T5 (mkF m 313 #[.val (.int sz), .val (.int bits), .val (.int cnt), .val (.int (4 : Int32)), .val (.ref t), .val (.int b0), .val (.int b1), .val (.int b2), .val (.int b3), .val (.int b4), .val (.int b5), .val (.int b6), .val (.double xx), .second, .val (.int (3 : Int32)), .unset, .unset] [])
                        exact JT 3 (hxx.symm.trans (by simp [own_rr, own_fx, k0, k1, k2])) (own_fn 3)
                    · show own_R p.tables e below _ T5 (mkF m 224 #[.val (.int sz), .val (.int bits), .val (.int cnt), .val (.int (4 : Int32)), .val (.ref t), .val (.int b0), .val (.int b1), .val (.int b2), .val (.int b3), .val (.int b4), .val (.int b5), .val (.int b6), .val (.double xx), .second, .val (.int (0 : Int32)), .unset, .unset] [(.int b1)])
                      refine own_go (fun _ => XS.ifNo X5.here hx rfl (hb hby at_224) rfl ((if0 _ _).trans (feq k1).1)) ?_
                      show own_R p.tables e below _ T5 (mkF m 227 #[.val (.int sz), .val (.int bits), .val (.int cnt), .val (.int (4 : Int32)), .val (.ref t), .val (.int b0), .val (.int b1), .val (.int b2), .val (.int b3), .val (.int b4), .val (.int b5), .val (.int b6), .val (.double xx), .second, .val (.int (0 : Int32)), .unset, .unset] [])
                      refine own_go (fun _ => XS.iconst X5.here hx rfl (hb hby at_227)) ?_
                      refine own_go (fun _ => XS.istore X5.here hx rfl (hb hby at_228) rfl (l' := #[.val (.int sz), .val (.int bits), .val (.int cnt), .val (.int (4 : Int32)), .val (.ref t), .val (.int b0), .val (.int b1), .val (.int b2), .val (.int b3), .val (.int b4), .val (.int b5), .val (.int b6), .val (.double xx), .second, .val (.int (2 : Int32)), .unset, .unset]) rfl) ?_
                      refine own_go (fun _ => XS.goto X5.here hx rfl (pc0 := 230) (pc' := 313) rfl (hb hby at_230) (by decide) (by decide)) ?_
                      show own_R p.tables e below _ T5 (mkF m 313 #[.val (.int sz), .val (.int bits), .val (.int cnt), .val (.int (4 : Int32)), .val (.ref t), .val (.int b0), .val (.int b1), .val (.int b2), .val (.int b3), .val (.int b4), .val (.int b5), .val (.int b6), .val (.double xx), .second, .val (.int (2 : Int32)), .unset, .unset] [])
                      exact JT 2 (hxx.symm.trans (by simp [own_rr, own_fx, k0, k1])) (own_fn 2)
                  · show own_R p.tables e below _ T5 (mkF m 208 #[.val (.int sz), .val (.int bits), .val (.int cnt), .val (.int (4 : Int32)), .val (.ref t), .val (.int b0), .val (.int b1), .val (.int b2), .val (.int b3), .val (.int b4), .val (.int b5), .val (.int b6), .val (.double xx), .second, .val (.int (0 : Int32)), .unset, .unset] [(.int b0)])
                    refine own_go (fun _ => XS.ifNo X5.here hx rfl (hb hby at_208) rfl ((if0 _ _).trans (feq k0).1)) ?_
                    show own_R p.tables e below _ T5 (mkF m 211 #[.val (.int sz), .val (.int bits), .val (.int cnt), .val (.int (4 : Int32)), .val (.ref t), .val (.int b0), .val (.int b1), .val (.int b2), .val (.int b3), .val (.int b4), .val (.int b5), .val (.int b6), .val (.double xx), .second, .val (.int (0 : Int32)), .unset, .unset] [])
                    refine own_go (fun _ => XS.iconst X5.here hx rfl (hb hby at_211)) ?_
                    refine own_go (fun _ => XS.istore X5.here hx rfl (hb hby at_212) rfl (l' := #[.val (.int sz), .val (.int bits), .val (.int cnt), .val (.int (4 : Int32)), .val (.ref t), .val (.int b0), .val (.int b1), .val (.int b2), .val (.int b3), .val (.int b4), .val (.int b5), .val (.int b6), .val (.double xx), .second, .val (.int (1 : Int32)), .unset, .unset]) rfl) ?_
                    refine own_go (fun _ => XS.goto X5.here hx rfl (pc0 := 214) (pc' := 313) rfl (hb hby at_214) (by decide) (by decide)) ?_
                    show own_R p.tables e below _ T5 (mkF m 313 #[.val (.int sz), .val (.int bits), .val (.int cnt), .val (.int (4 : Int32)), .val (.ref t), .val (.int b0), .val (.int b1), .val (.int b2), .val (.int b3), .val (.int b4), .val (.int b5), .val (.int b6), .val (.double xx), .second, .val (.int (1 : Int32)), .unset, .unset] [])
                    exact JT 1 (hxx.symm.trans (by simp [own_rr, own_fx, k0])) (own_fn 1)
                · show own_R p.tables e below _ T1 (mkF m 106 #[.val (.int sz), .val (.int bits), .val (.int cnt), .val (.int (5 : Int32)), .val (.ref t), .val (.int b0), .val (.int b1), .val (.int b2), .val (.int b3), .val (.int b4), .val (.int b5), .val (.int b6), .unset, .unset, .unset, .unset, .unset] [])
                  have V2 := V1.pad (pad_rep [] (.int 0) 5)
                  have g1a : n0 ≤ t := Nat.le_trans Z0 q1
                  refine own_go (fun _ => XS.iloadN X1.here hx rfl (hb hby at_106) rfl ) ?_
                  show own_R p.tables e below _ T1 (mkF m 107 #[.val (.int sz), .val (.int bits), .val (.int cnt), .val (.int (5 : Int32)), .val (.ref t), .val (.int b0), .val (.int b1), .val (.int b2), .val (.int b3), .val (.int b4), .val (.int b5), .val (.int b6), .unset, .unset, .unset, .unset, .unset] [(.int (5 : Int32))])
                  refine own_go (fun _ => XS.ifNo X1.here hx rfl (hb hby at_107) rfl ((if0 _ _).trans (tlt (by decide)).2.2.2)) ?_
                  show own_R p.tables e below _ T1 (mkF m 110 #[.val (.int sz), .val (.int bits), .val (.int cnt), .val (.int (5 : Int32)), .val (.ref t), .val (.int b0), .val (.int b1), .val (.int b2), .val (.int b3), .val (.int b4), .val (.int b5), .val (.int b6), .unset, .unset, .unset, .unset, .unset] [])
                  refine own_go (fun _ => XS.aload X1.here hx rfl (hb hby at_110) rfl rfl) ?_
                  show own_R p.tables e below _ T1 (mkF m 112 #[.val (.int sz), .val (.int bits), .val (.int cnt), .val (.int (5 : Int32)), .val (.ref t), .val (.int b0), .val (.int b1), .val (.int b2), .val (.int b3), .val (.int b4), .val (.int b5), .val (.int b6), .unset, .unset, .unset, .unset, .unset] [(.ref t)])
                  refine own_go (fun _ => XS.iconst X1.here hx rfl (hb hby at_112)) ?_
                  show own_R p.tables e below _ T1 (mkF m 113 #[.val (.int sz), .val (.int bits), .val (.int cnt), .val (.int (5 : Int32)), .val (.ref t), .val (.int b0), .val (.int b1), .val (.int b2), .val (.int b3), .val (.int b4), .val (.int b5), .val (.int b6), .unset, .unset, .unset, .unset, .unset] [(.int (0 : Int32)), (.ref t)])
                  refine own_go (fun _ => XS.iload X1.here hx rfl (hb hby at_113) rfl ) ?_
                  show own_R p.tables e below _ T1 (mkF m 115 #[.val (.int sz), .val (.int bits), .val (.int cnt), .val (.int (5 : Int32)), .val (.ref t), .val (.int b0), .val (.int b1), .val (.int b2), .val (.int b3), .val (.int b4), .val (.int b5), .val (.int b6), .unset, .unset, .unset, .unset, .unset] [(.int b0), (.int (0 : Int32)), (.ref t)])
                  obtain ⟨Ts0, hs0, Xs0, es0, Ws0, Vs0, sts0⟩ := own_stZ X1 hx hZ rfl V2 (j := (0 : Int32)) ⟨by decide, by decide⟩ 0 rfl (Nat.le_of_ble_eq_true rfl) hb0 (g := (mkF m 115 #[.val (.int sz), .val (.int bits), .val (.int cnt), .val (.int (5 : Int32)), .val (.ref t), .val (.int b0), .val (.int b1), .val (.int b2), .val (.int b3), .val (.int b4), .val (.int b5), .val (.int b6), .unset, .unset, .unset, .unset, .unset] [(.int b0), (.int (0 : Int32)), (.ref t)])) rfl rfl (hb hby at_115)
                  have Ks0 : Keep h0 hs0 [] := K1.wr Ws0 (Or.inr q1)
                  have Ns0 := Fr.snoc Xs0 N1 g1a
                  refine own_go sts0 ?_
                  show own_R p.tables e below _ Ts0 (mkF m 116 #[.val (.int sz), .val (.int bits), .val (.int cnt), .val (.int (5 : Int32)), .val (.ref t), .val (.int b0), .val (.int b1), .val (.int b2), .val (.int b3), .val (.int b4), .val (.int b5), .val (.int b6), .unset, .unset, .unset, .unset, .unset] [])
                  refine own_go (fun _ => XS.iloadN Xs0.here hx rfl (hb hby at_116) rfl ) ?_
                  show own_R p.tables e below _ Ts0 (mkF m 117 #[.val (.int sz), .val (.int bits), .val (.int cnt), .val (.int (5 : Int32)), .val (.ref t), .val (.int b0), .val (.int b1), .val (.int b2), .val (.int b3), .val (.int b4), .val (.int b5), .val (.int b6), .unset, .unset, .unset, .unset, .unset] [(.int (5 : Int32))])
                  refine own_go (fun _ => XS.iconst Xs0.here hx rfl (hb hby at_117)) ?_
                  show own_R p.tables e below _ Ts0 (mkF m 118 #[.val (.int sz), .val (.int bits), .val (.int cnt), .val (.int (5 : Int32)), .val (.ref t), .val (.int b0), .val (.int b1), .val (.int b2), .val (.int b3), .val (.int b4), .val (.int b5), .val (.int b6), .unset, .unset, .unset, .unset, .unset] [(.int (1 : Int32)), (.int (5 : Int32))])
                  refine own_go (fun _ => XS.icmpNo Xs0.here hx rfl (hb hby at_118) rfl (tlt (by decide)).2.2.2) ?_
                  show own_R p.tables e below _ Ts0 (mkF m 121 #[.val (.int sz), .val (.int bits), .val (.int cnt), .val (.int (5 : Int32)), .val (.ref t), .val (.int b0), .val (.int b1), .val (.int b2), .val (.int b3), .val (.int b4), .val (.int b5), .val (.int b6), .unset, .unset, .unset, .unset, .unset] [])
                  refine own_go (fun _ => XS.aload Xs0.here hx rfl (hb hby at_121) rfl rfl) ?_
                  show own_R p.tables e below _ Ts0 (mkF m 123 #[.val (.int sz), .val (.int bits), .val (.int cnt), .val (.int (5 : Int32)), .val (.ref t), .val (.int b0), .val (.int b1), .val (.int b2), .val (.int b3), .val (.int b4), .val (.int b5), .val (.int b6), .unset, .unset, .unset, .unset, .unset] [(.ref t)])
                  refine own_go (fun _ => XS.iconst Xs0.here hx rfl (hb hby at_123)) ?_
                  show own_R p.tables e below _ Ts0 (mkF m 124 #[.val (.int sz), .val (.int bits), .val (.int cnt), .val (.int (5 : Int32)), .val (.ref t), .val (.int b0), .val (.int b1), .val (.int b2), .val (.int b3), .val (.int b4), .val (.int b5), .val (.int b6), .unset, .unset, .unset, .unset, .unset] [(.int (1 : Int32)), (.ref t)])
                  refine own_go (fun _ => XS.iload Xs0.here hx rfl (hb hby at_124) rfl ) ?_
                  show own_R p.tables e below _ Ts0 (mkF m 126 #[.val (.int sz), .val (.int bits), .val (.int cnt), .val (.int (5 : Int32)), .val (.ref t), .val (.int b0), .val (.int b1), .val (.int b2), .val (.int b3), .val (.int b4), .val (.int b5), .val (.int b6), .unset, .unset, .unset, .unset, .unset] [(.int b1), (.int (1 : Int32)), (.ref t)])
                  obtain ⟨Ts1, hs1, Xs1, es1, Ws1, Vs1, sts1⟩ := own_stZ Xs0 hx hZ es0 Vs0 (j := (1 : Int32)) ⟨by decide, by decide⟩ 1 rfl (Nat.le_of_ble_eq_true rfl) hb1 (g := (mkF m 126 #[.val (.int sz), .val (.int bits), .val (.int cnt), .val (.int (5 : Int32)), .val (.ref t), .val (.int b0), .val (.int b1), .val (.int b2), .val (.int b3), .val (.int b4), .val (.int b5), .val (.int b6), .unset, .unset, .unset, .unset, .unset] [(.int b1), (.int (1 : Int32)), (.ref t)])) rfl rfl (hb hby at_126)
                  have Ks1 : Keep h0 hs1 [] := Ks0.wr Ws1 (Or.inr q1)
                  have Ns1 := Fr.snoc Xs1 Ns0 g1a
                  refine own_go sts1 ?_
                  show own_R p.tables e below _ Ts1 (mkF m 127 #[.val (.int sz), .val (.int bits), .val (.int cnt), .val (.int (5 : Int32)), .val (.ref t), .val (.int b0), .val (.int b1), .val (.int b2), .val (.int b3), .val (.int b4), .val (.int b5), .val (.int b6), .unset, .unset, .unset, .unset, .unset] [])
                  refine own_go (fun _ => XS.iloadN Xs1.here hx rfl (hb hby at_127) rfl ) ?_
                  show own_R p.tables e below _ Ts1 (mkF m 128 #[.val (.int sz), .val (.int bits), .val (.int cnt), .val (.int (5 : Int32)), .val (.ref t), .val (.int b0), .val (.int b1), .val (.int b2), .val (.int b3), .val (.int b4), .val (.int b5), .val (.int b6), .unset, .unset, .unset, .unset, .unset] [(.int (5 : Int32))])
                  refine own_go (fun _ => XS.iconst Xs1.here hx rfl (hb hby at_128)) ?_
                  show own_R p.tables e below _ Ts1 (mkF m 129 #[.val (.int sz), .val (.int bits), .val (.int cnt), .val (.int (5 : Int32)), .val (.ref t), .val (.int b0), .val (.int b1), .val (.int b2), .val (.int b3), .val (.int b4), .val (.int b5), .val (.int b6), .unset, .unset, .unset, .unset, .unset] [(.int (2 : Int32)), (.int (5 : Int32))])
                  refine own_go (fun _ => XS.icmpNo Xs1.here hx rfl (hb hby at_129) rfl (tlt (by decide)).2.2.2) ?_
                  show own_R p.tables e below _ Ts1 (mkF m 132 #[.val (.int sz), .val (.int bits), .val (.int cnt), .val (.int (5 : Int32)), .val (.ref t), .val (.int b0), .val (.int b1), .val (.int b2), .val (.int b3), .val (.int b4), .val (.int b5), .val (.int b6), .unset, .unset, .unset, .unset, .unset] [])
                  refine own_go (fun _ => XS.aload Xs1.here hx rfl (hb hby at_132) rfl rfl) ?_
                  show own_R p.tables e below _ Ts1 (mkF m 134 #[.val (.int sz), .val (.int bits), .val (.int cnt), .val (.int (5 : Int32)), .val (.ref t), .val (.int b0), .val (.int b1), .val (.int b2), .val (.int b3), .val (.int b4), .val (.int b5), .val (.int b6), .unset, .unset, .unset, .unset, .unset] [(.ref t)])
                  refine own_go (fun _ => XS.iconst Xs1.here hx rfl (hb hby at_134)) ?_
                  show own_R p.tables e below _ Ts1 (mkF m 135 #[.val (.int sz), .val (.int bits), .val (.int cnt), .val (.int (5 : Int32)), .val (.ref t), .val (.int b0), .val (.int b1), .val (.int b2), .val (.int b3), .val (.int b4), .val (.int b5), .val (.int b6), .unset, .unset, .unset, .unset, .unset] [(.int (2 : Int32)), (.ref t)])
                  refine own_go (fun _ => XS.iload Xs1.here hx rfl (hb hby at_135) rfl ) ?_
                  show own_R p.tables e below _ Ts1 (mkF m 137 #[.val (.int sz), .val (.int bits), .val (.int cnt), .val (.int (5 : Int32)), .val (.ref t), .val (.int b0), .val (.int b1), .val (.int b2), .val (.int b3), .val (.int b4), .val (.int b5), .val (.int b6), .unset, .unset, .unset, .unset, .unset] [(.int b2), (.int (2 : Int32)), (.ref t)])
                  obtain ⟨Ts2, hs2, Xs2, es2, Ws2, Vs2, sts2⟩ := own_stZ Xs1 hx hZ es1 Vs1 (j := (2 : Int32)) ⟨by decide, by decide⟩ 2 rfl (Nat.le_of_ble_eq_true rfl) hb2 (g := (mkF m 137 #[.val (.int sz), .val (.int bits), .val (.int cnt), .val (.int (5 : Int32)), .val (.ref t), .val (.int b0), .val (.int b1), .val (.int b2), .val (.int b3), .val (.int b4), .val (.int b5), .val (.int b6), .unset, .unset, .unset, .unset, .unset] [(.int b2), (.int (2 : Int32)), (.ref t)])) rfl rfl (hb hby at_137)
                  have Ks2 : Keep h0 hs2 [] := Ks1.wr Ws2 (Or.inr q1)
                  have Ns2 := Fr.snoc Xs2 Ns1 g1a
                  refine own_go sts2 ?_
                  show own_R p.tables e below _ Ts2 (mkF m 138 #[.val (.int sz), .val (.int bits), .val (.int cnt), .val (.int (5 : Int32)), .val (.ref t), .val (.int b0), .val (.int b1), .val (.int b2), .val (.int b3), .val (.int b4), .val (.int b5), .val (.int b6), .unset, .unset, .unset, .unset, .unset] [])
                  refine own_go (fun _ => XS.iloadN Xs2.here hx rfl (hb hby at_138) rfl ) ?_
                  show own_R p.tables e below _ Ts2 (mkF m 139 #[.val (.int sz), .val (.int bits), .val (.int cnt), .val (.int (5 : Int32)), .val (.ref t), .val (.int b0), .val (.int b1), .val (.int b2), .val (.int b3), .val (.int b4), .val (.int b5), .val (.int b6), .unset, .unset, .unset, .unset, .unset] [(.int (5 : Int32))])
                  refine own_go (fun _ => XS.iconst Xs2.here hx rfl (hb hby at_139)) ?_
                  show own_R p.tables e below _ Ts2 (mkF m 140 #[.val (.int sz), .val (.int bits), .val (.int cnt), .val (.int (5 : Int32)), .val (.ref t), .val (.int b0), .val (.int b1), .val (.int b2), .val (.int b3), .val (.int b4), .val (.int b5), .val (.int b6), .unset, .unset, .unset, .unset, .unset] [(.int (3 : Int32)), (.int (5 : Int32))])
                  refine own_go (fun _ => XS.icmpNo Xs2.here hx rfl (hb hby at_140) rfl (tlt (by decide)).2.2.2) ?_
                  show own_R p.tables e below _ Ts2 (mkF m 143 #[.val (.int sz), .val (.int bits), .val (.int cnt), .val (.int (5 : Int32)), .val (.ref t), .val (.int b0), .val (.int b1), .val (.int b2), .val (.int b3), .val (.int b4), .val (.int b5), .val (.int b6), .unset, .unset, .unset, .unset, .unset] [])
                  refine own_go (fun _ => XS.aload Xs2.here hx rfl (hb hby at_143) rfl rfl) ?_
                  show own_R p.tables e below _ Ts2 (mkF m 145 #[.val (.int sz), .val (.int bits), .val (.int cnt), .val (.int (5 : Int32)), .val (.ref t), .val (.int b0), .val (.int b1), .val (.int b2), .val (.int b3), .val (.int b4), .val (.int b5), .val (.int b6), .unset, .unset, .unset, .unset, .unset] [(.ref t)])
                  refine own_go (fun _ => XS.iconst Xs2.here hx rfl (hb hby at_145)) ?_
                  show own_R p.tables e below _ Ts2 (mkF m 146 #[.val (.int sz), .val (.int bits), .val (.int cnt), .val (.int (5 : Int32)), .val (.ref t), .val (.int b0), .val (.int b1), .val (.int b2), .val (.int b3), .val (.int b4), .val (.int b5), .val (.int b6), .unset, .unset, .unset, .unset, .unset] [(.int (3 : Int32)), (.ref t)])
                  refine own_go (fun _ => XS.iload Xs2.here hx rfl (hb hby at_146) rfl ) ?_
                  show own_R p.tables e below _ Ts2 (mkF m 148 #[.val (.int sz), .val (.int bits), .val (.int cnt), .val (.int (5 : Int32)), .val (.ref t), .val (.int b0), .val (.int b1), .val (.int b2), .val (.int b3), .val (.int b4), .val (.int b5), .val (.int b6), .unset, .unset, .unset, .unset, .unset] [(.int b3), (.int (3 : Int32)), (.ref t)])
                  obtain ⟨Ts3, hs3, Xs3, es3, Ws3, Vs3, sts3⟩ := own_stZ Xs2 hx hZ es2 Vs2 (j := (3 : Int32)) ⟨by decide, by decide⟩ 3 rfl (Nat.le_of_ble_eq_true rfl) hb3 (g := (mkF m 148 #[.val (.int sz), .val (.int bits), .val (.int cnt), .val (.int (5 : Int32)), .val (.ref t), .val (.int b0), .val (.int b1), .val (.int b2), .val (.int b3), .val (.int b4), .val (.int b5), .val (.int b6), .unset, .unset, .unset, .unset, .unset] [(.int b3), (.int (3 : Int32)), (.ref t)])) rfl rfl (hb hby at_148)
                  have Ks3 : Keep h0 hs3 [] := Ks2.wr Ws3 (Or.inr q1)
                  have Ns3 := Fr.snoc Xs3 Ns2 g1a
                  refine own_go sts3 ?_
                  show own_R p.tables e below _ Ts3 (mkF m 149 #[.val (.int sz), .val (.int bits), .val (.int cnt), .val (.int (5 : Int32)), .val (.ref t), .val (.int b0), .val (.int b1), .val (.int b2), .val (.int b3), .val (.int b4), .val (.int b5), .val (.int b6), .unset, .unset, .unset, .unset, .unset] [])
                  refine own_go (fun _ => XS.iloadN Xs3.here hx rfl (hb hby at_149) rfl ) ?_
                  show own_R p.tables e below _ Ts3 (mkF m 150 #[.val (.int sz), .val (.int bits), .val (.int cnt), .val (.int (5 : Int32)), .val (.ref t), .val (.int b0), .val (.int b1), .val (.int b2), .val (.int b3), .val (.int b4), .val (.int b5), .val (.int b6), .unset, .unset, .unset, .unset, .unset] [(.int (5 : Int32))])
                  refine own_go (fun _ => XS.iconst Xs3.here hx rfl (hb hby at_150)) ?_
                  show own_R p.tables e below _ Ts3 (mkF m 151 #[.val (.int sz), .val (.int bits), .val (.int cnt), .val (.int (5 : Int32)), .val (.ref t), .val (.int b0), .val (.int b1), .val (.int b2), .val (.int b3), .val (.int b4), .val (.int b5), .val (.int b6), .unset, .unset, .unset, .unset, .unset] [(.int (4 : Int32)), (.int (5 : Int32))])
                  refine own_go (fun _ => XS.icmpNo Xs3.here hx rfl (hb hby at_151) rfl (tlt (by decide)).2.2.2) ?_
                  show own_R p.tables e below _ Ts3 (mkF m 154 #[.val (.int sz), .val (.int bits), .val (.int cnt), .val (.int (5 : Int32)), .val (.ref t), .val (.int b0), .val (.int b1), .val (.int b2), .val (.int b3), .val (.int b4), .val (.int b5), .val (.int b6), .unset, .unset, .unset, .unset, .unset] [])
                  refine own_go (fun _ => XS.aload Xs3.here hx rfl (hb hby at_154) rfl rfl) ?_
                  show own_R p.tables e below _ Ts3 (mkF m 156 #[.val (.int sz), .val (.int bits), .val (.int cnt), .val (.int (5 : Int32)), .val (.ref t), .val (.int b0), .val (.int b1), .val (.int b2), .val (.int b3), .val (.int b4), .val (.int b5), .val (.int b6), .unset, .unset, .unset, .unset, .unset] [(.ref t)])
                  refine own_go (fun _ => XS.iconst Xs3.here hx rfl (hb hby at_156)) ?_
                  show own_R p.tables e below _ Ts3 (mkF m 157 #[.val (.int sz), .val (.int bits), .val (.int cnt), .val (.int (5 : Int32)), .val (.ref t), .val (.int b0), .val (.int b1), .val (.int b2), .val (.int b3), .val (.int b4), .val (.int b5), .val (.int b6), .unset, .unset, .unset, .unset, .unset] [(.int (4 : Int32)), (.ref t)])
                  refine own_go (fun _ => XS.iload Xs3.here hx rfl (hb hby at_157) rfl ) ?_
                  show own_R p.tables e below _ Ts3 (mkF m 159 #[.val (.int sz), .val (.int bits), .val (.int cnt), .val (.int (5 : Int32)), .val (.ref t), .val (.int b0), .val (.int b1), .val (.int b2), .val (.int b3), .val (.int b4), .val (.int b5), .val (.int b6), .unset, .unset, .unset, .unset, .unset] [(.int b4), (.int (4 : Int32)), (.ref t)])
                  obtain ⟨Ts4, hs4, Xs4, es4, Ws4, Vs4, sts4⟩ := own_stZ Xs3 hx hZ es3 Vs3 (j := (4 : Int32)) ⟨by decide, by decide⟩ 4 rfl (Nat.le_of_ble_eq_true rfl) hb4 (g := (mkF m 159 #[.val (.int sz), .val (.int bits), .val (.int cnt), .val (.int (5 : Int32)), .val (.ref t), .val (.int b0), .val (.int b1), .val (.int b2), .val (.int b3), .val (.int b4), .val (.int b5), .val (.int b6), .unset, .unset, .unset, .unset, .unset] [(.int b4), (.int (4 : Int32)), (.ref t)])) rfl rfl (hb hby at_159)
                  have Ks4 : Keep h0 hs4 [] := Ks3.wr Ws4 (Or.inr q1)
                  have Ns4 := Fr.snoc Xs4 Ns3 g1a
                  refine own_go sts4 ?_
                  show own_R p.tables e below _ Ts4 (mkF m 160 #[.val (.int sz), .val (.int bits), .val (.int cnt), .val (.int (5 : Int32)), .val (.ref t), .val (.int b0), .val (.int b1), .val (.int b2), .val (.int b3), .val (.int b4), .val (.int b5), .val (.int b6), .unset, .unset, .unset, .unset, .unset] [])
                  refine own_go (fun _ => XS.iloadN Xs4.here hx rfl (hb hby at_160) rfl ) ?_
                  show own_R p.tables e below _ Ts4 (mkF m 161 #[.val (.int sz), .val (.int bits), .val (.int cnt), .val (.int (5 : Int32)), .val (.ref t), .val (.int b0), .val (.int b1), .val (.int b2), .val (.int b3), .val (.int b4), .val (.int b5), .val (.int b6), .unset, .unset, .unset, .unset, .unset] [(.int (5 : Int32))])
                  refine own_go (fun _ => XS.iconst Xs4.here hx rfl (hb hby at_161)) ?_
                  show own_R p.tables e below _ Ts4 (mkF m 162 #[.val (.int sz), .val (.int bits), .val (.int cnt), .val (.int (5 : Int32)), .val (.ref t), .val (.int b0), .val (.int b1), .val (.int b2), .val (.int b3), .val (.int b4), .val (.int b5), .val (.int b6), .unset, .unset, .unset, .unset, .unset] [(.int (5 : Int32)), (.int (5 : Int32))])
                  refine own_go (fun _ => XS.icmpYes Xs4.here hx rfl (pc0 := 162) (pc' := 171) rfl (hb hby at_162) rfl (flt (by decide)).2.2.2 (by decide) (by decide)) ?_
                  show own_R p.tables e below _ Ts4 (mkF m 171 #[.val (.int sz), .val (.int bits), .val (.int cnt), .val (.int (5 : Int32)), .val (.ref t), .val (.int b0), .val (.int b1), .val (.int b2), .val (.int b3), .val (.int b4), .val (.int b5), .val (.int b6), .unset, .unset, .unset, .unset, .unset] [])
                  refine own_go (fun _ => XS.iloadN Xs4.here hx rfl (hb hby at_171) rfl ) ?_
                  show own_R p.tables e below _ Ts4 (mkF m 172 #[.val (.int sz), .val (.int bits), .val (.int cnt), .val (.int (5 : Int32)), .val (.ref t), .val (.int b0), .val (.int b1), .val (.int b2), .val (.int b3), .val (.int b4), .val (.int b5), .val (.int b6), .unset, .unset, .unset, .unset, .unset] [(.int (5 : Int32))])
                  refine own_go (fun _ => XS.bipush Xs4.here hx rfl (hb hby at_172)) ?_
                  show own_R p.tables e below _ Ts4 (mkF m 174 #[.val (.int sz), .val (.int bits), .val (.int cnt), .val (.int (5 : Int32)), .val (.ref t), .val (.int b0), .val (.int b1), .val (.int b2), .val (.int b3), .val (.int b4), .val (.int b5), .val (.int b6), .unset, .unset, .unset, .unset, .unset] [(.int (6 : Int32)), (.int (5 : Int32))])
                  refine own_go (fun _ => XS.icmpYes Xs4.here hx rfl (pc0 := 174) (pc' := 184) rfl (hb hby at_174) rfl (flt (by decide)).2.2.2 (by decide) (by decide)) ?_
                  show own_R p.tables e below _ Ts4 (mkF m 184 #[.val (.int sz), .val (.int bits), .val (.int cnt), .val (.int (5 : Int32)), .val (.ref t), .val (.int b0), .val (.int b1), .val (.int b2), .val (.int b3), .val (.int b4), .val (.int b5), .val (.int b6), .unset, .unset, .unset, .unset, .unset] [])
                  obtain ⟨T3, h3, X3, e3, E3, A3, D3, -, st3⟩ := newO Xs4 hx hZ hown (hw _ (List.mem_of_getElem? (i := 5) rfl)) (hw _ (List.mem_of_getElem? (i := 6) rfl)) (hw _ (List.mem_of_getElem? (i := 7) rfl)) es4 (g := (mkF m 184 #[.val (.int sz), .val (.int bits), .val (.int cnt), .val (.int (5 : Int32)), .val (.ref t), .val (.int b0), .val (.int b1), .val (.int b2), .val (.int b3), .val (.int b4), .val (.int b5), .val (.int b6), .unset, .unset, .unset, .unset, .unset] [])) rfl (hb hby at_184) (by decide) (by decide)
                  obtain ⟨a3, g3⟩ : ∃ z, z = hs4.size := ⟨_, rfl⟩
                  rw [← g3] at A3 D3 st3
                  refine own_go st3 ?_
                  show own_R p.tables e below _ T3 (mkF m 187 #[.val (.int sz), .val (.int bits), .val (.int cnt), .val (.int (5 : Int32)), .val (.ref t), .val (.int b0), .val (.int b1), .val (.int b2), .val (.int b3), .val (.int b4), .val (.int b5), .val (.int b6), .unset, .unset, .unset, .unset, .unset] [(.ref a3)])
                  refine own_go (fun _ => XS.dup X3.here hx rfl (hb hby at_187) rfl rfl) ?_
                  show own_R p.tables e below _ T3 (mkF m 188 #[.val (.int sz), .val (.int bits), .val (.int cnt), .val (.int (5 : Int32)), .val (.ref t), .val (.int b0), .val (.int b1), .val (.int b2), .val (.int b3), .val (.int b4), .val (.int b5), .val (.int b6), .unset, .unset, .unset, .unset, .unset] [(.ref a3), (.ref a3)])
                  refine own_go (fun _ => XS.aload X3.here hx rfl (hb hby at_188) rfl rfl) ?_
                  show own_R p.tables e below _ T3 (mkF m 190 #[.val (.int sz), .val (.int bits), .val (.int cnt), .val (.int (5 : Int32)), .val (.ref t), .val (.int b0), .val (.int b1), .val (.int b2), .val (.int b3), .val (.int b4), .val (.int b5), .val (.int b6), .unset, .unset, .unset, .unset, .unset] [(.ref t), (.ref a3), (.ref a3)])
                  refine own_go (fun _ => XS.iloadN X3.here hx rfl (hb hby at_190) rfl ) ?_
                  show own_R p.tables e below _ T3 (mkF m 191 #[.val (.int sz), .val (.int bits), .val (.int cnt), .val (.int (5 : Int32)), .val (.ref t), .val (.int b0), .val (.int b1), .val (.int b2), .val (.int b3), .val (.int b4), .val (.int b5), .val (.int b6), .unset, .unset, .unset, .unset, .unset] [(.int cnt), (.ref t), (.ref a3), (.ref a3)])
                  have g3a : n0 ≤ a3 := Nat.le_trans Z0 (Nat.le_trans Ks4.1 (Nat.le_of_eq g3.symm))
                  have ne3 : t ≠ a3 := Nat.ne_of_lt (Nat.lt_of_lt_of_le Vs4.lt (Nat.le_of_eq g3.symm))
                  obtain ⟨v4, T4, L4, X4, Q4, st4⟩ := own_callI X3 hx hZ hown (y := (⟨"com/example/kookaburra/kookaburra/eval/Ranking", "<init>", "([ZI)V"⟩ : MethodName)) rfl (hw _ (List.mem_of_getElem? (i := 8) rfl)) (hw _ (List.mem_of_getElem? (i := 9) rfl)) (hw _ (List.mem_of_getElem? (i := 10) rfl)) (hw _ (List.mem_of_getElem? (i := 7) rfl)) (by decide) (rmInit l Z a0 hw [] h3 n0 a3 t cnt g3a A3 (D3 (Or.inr (hw _ (List.mem_of_getElem? (i := 15) rfl))) (ty := (.array .boolean)) (by decide)) (D3 (Or.inr (hw _ (List.mem_of_getElem? (i := 17) rfl))) (ty := .int) (by decide))) (W := 1) (g := (mkF m 191 #[.val (.int sz), .val (.int bits), .val (.int cnt), .val (.int (5 : Int32)), .val (.ref t), .val (.int b0), .val (.int b1), .val (.int b2), .val (.int b3), .val (.int b4), .val (.int b5), .val (.int b6), .unset, .unset, .unset, .unset, .unset] [(.int cnt), (.ref t), (.ref a3), (.ref a3)])) rfl (by rw [hml]; rfl) (a := a3) (argsL := [(.ref t), (.int cnt)]) (rest := [(.ref a3)]) (lenOf pd___ZI_V rfl) rfl rfl (by show 2 * 0 + _ ≤ _; exact Nat.le_of_eq rfl) (hb hby at_191) e3 (by decide) (by decide) (by decide) (by decide)
                  obtain ⟨rfl, N4q, K4, E4, F4a, F4b⟩ := Q4
                  have N4 := Fr.app Ns4 N4q
                  have V4 := (Vs4.ext E3).keep K4 (ninS ne3 nin0)
                  refine own_go st4 ?_
                  show own_R p.tables e below _ T4 (mkF m 194 #[.val (.int sz), .val (.int bits), .val (.int cnt), .val (.int (5 : Int32)), .val (.ref t), .val (.int b0), .val (.int b1), .val (.int b2), .val (.int b3), .val (.int b4), .val (.int b5), .val (.int b6), .unset, .unset, .unset, .unset, .unset] [(.ref a3)])
                  obtain ⟨v5, T5, L5, X5, Q5, st5⟩ := own_callV X4 hx hZ hown (y := (⟨"com/example/kookaburra/kookaburra/eval/Ranking", "reciprocalRank", "()D"⟩ : MethodName)) (hw _ (List.mem_of_getElem? (i := 18) rfl)) (hw _ (List.mem_of_getElem? (i := 19) rfl)) (hw _ (List.mem_of_getElem? (i := 21) rfl)) (hw _ (List.mem_of_getElem? (i := 20) rfl)) (hw _ (List.mem_of_getElem? (i := 22) rfl)) (hw _ (List.mem_of_getElem? (i := 7) rfl)) (by decide) (rmRR l Z a0 hw [] T4.heap n0 a3 t ([b0, b1, b2, b3, b4] : List Int32) (Nat.le_of_ble_eq_true rfl) F4a V4) E4 (W := 0) (g := (mkF m 194 #[.val (.int sz), .val (.int bits), .val (.int cnt), .val (.int (5 : Int32)), .val (.ref t), .val (.int b0), .val (.int b1), .val (.int b2), .val (.int b3), .val (.int b4), .val (.int b5), .val (.int b6), .unset, .unset, .unset, .unset, .unset] [(.ref a3)])) rfl (by rw [hml]; rfl) (b := a3) (argsL := []) (rest := []) (lenOf pd___D rfl) rfl rfl (by show 2 * 0 + _ ≤ _; exact Nat.le_of_eq rfl) (hb hby at_194) rfl (by decide) (by decide) (by decide) (by decide)
                  obtain ⟨rfl, N5q, e5⟩ := Q5
                  have N5 := Fr.app N4 N5q
                  refine own_go st5 ?_
                  show own_R p.tables e below _ T5 (mkF m 197 #[.val (.int sz), .val (.int bits), .val (.int cnt), .val (.int (5 : Int32)), .val (.ref t), .val (.int b0), .val (.int b1), .val (.int b2), .val (.int b3), .val (.int b4), .val (.int b5), .val (.int b6), .unset, .unset, .unset, .unset, .unset] [(.double (own_rr [b0, b1, b2, b3, b4] 1))])
                  obtain ⟨xx, hxx⟩ : ∃ z, own_rr [b0, b1, b2, b3, b4] 1 = z := ⟨_, rfl⟩
                  rw [hxx]
                  show own_R p.tables e below _ T5 (mkF m 197 #[.val (.int sz), .val (.int bits), .val (.int cnt), .val (.int (5 : Int32)), .val (.ref t), .val (.int b0), .val (.int b1), .val (.int b2), .val (.int b3), .val (.int b4), .val (.int b5), .val (.int b6), .unset, .unset, .unset, .unset, .unset] [(.double xx)])
                  refine own_go (fun _ => XS.dstore X5.here hx rfl (hb hby at_197) rfl (l' := #[.val (.int sz), .val (.int bits), .val (.int cnt), .val (.int (5 : Int32)), .val (.ref t), .val (.int b0), .val (.int b1), .val (.int b2), .val (.int b3), .val (.int b4), .val (.int b5), .val (.int b6), .val (.double xx), .second, .unset, .unset, .unset]) rfl) ?_
                  refine own_go (fun _ => XS.iconst X5.here hx rfl (hb hby at_199)) ?_
                  refine own_go (fun _ => XS.istore X5.here hx rfl (hb hby at_200) rfl (l' := #[.val (.int sz), .val (.int bits), .val (.int cnt), .val (.int (5 : Int32)), .val (.ref t), .val (.int b0), .val (.int b1), .val (.int b2), .val (.int b3), .val (.int b4), .val (.int b5), .val (.int b6), .val (.double xx), .second, .val (.int (0 : Int32)), .unset, .unset]) rfl) ?_
                  show own_R p.tables e below _ T5 (mkF m 202 #[.val (.int sz), .val (.int bits), .val (.int cnt), .val (.int (5 : Int32)), .val (.ref t), .val (.int b0), .val (.int b1), .val (.int b2), .val (.int b3), .val (.int b4), .val (.int b5), .val (.int b6), .val (.double xx), .second, .val (.int (0 : Int32)), .unset, .unset] [])
                  have JT : ∀ f : Int32, xx = own_fx f → Jvm.Free.Fl.NoNaN64 (own_fx f) → own_R p.tables e below (own_E s below (own_Q0 n0) (room_1).cells (room_1).slots) T5 (mkF m 313 #[.val (.int sz), .val (.int bits), .val (.int cnt), .val (.int (5 : Int32)), .val (.ref t), .val (.int b0), .val (.int b1), .val (.int b2), .val (.int b3), .val (.int b4), .val (.int b5), .val (.int b6), .val (.double xx), .second, .val (.int f), .unset, .unset] []) := by
                    intro f hf hnn
                    show own_R p.tables e below _ T5 (mkF m 313 #[.val (.int sz), .val (.int bits), .val (.int cnt), .val (.int (5 : Int32)), .val (.ref t), .val (.int b0), .val (.int b1), .val (.int b2), .val (.int b3), .val (.int b4), .val (.int b5), .val (.int b6), .val (.double xx), .second, .val (.int f), .unset, .unset] [])
                    refine own_go (fun _ => XS.iload X5.here hx rfl (hb hby at_313) rfl ) ?_
                    show own_R p.tables e below _ T5 (mkF m 315 #[.val (.int sz), .val (.int bits), .val (.int cnt), .val (.int (5 : Int32)), .val (.ref t), .val (.int b0), .val (.int b1), .val (.int b2), .val (.int b3), .val (.int b4), .val (.int b5), .val (.int b6), .val (.double xx), .second, .val (.int f), .unset, .unset] [(.int f)])
                    by_cases hf0 : f = (0 : Int32)
                    · show own_R p.tables e below _ T5 (mkF m 315 #[.val (.int sz), .val (.int bits), .val (.int cnt), .val (.int (5 : Int32)), .val (.ref t), .val (.int b0), .val (.int b1), .val (.int b2), .val (.int b3), .val (.int b4), .val (.int b5), .val (.int b6), .val (.double xx), .second, .val (.int f), .unset, .unset] [(.int f)])
                      refine own_go (fun _ => XS.ifNo X5.here hx rfl (hb hby at_315) rfl ((if0 _ _).trans (teq hf0).2)) ?_
                      show own_R p.tables e below _ T5 (mkF m 318 #[.val (.int sz), .val (.int bits), .val (.int cnt), .val (.int (5 : Int32)), .val (.ref t), .val (.int b0), .val (.int b1), .val (.int b2), .val (.int b3), .val (.int b4), .val (.int b5), .val (.int b6), .val (.double xx), .second, .val (.int f), .unset, .unset] [])
                      have hfx : own_fx f = FP.dconst0 := if_pos hf0
                      rw [hfx] at hf hnn
                      show own_R p.tables e below _ T5 (mkF m 318 #[.val (.int sz), .val (.int bits), .val (.int cnt), .val (.int (5 : Int32)), .val (.ref t), .val (.int b0), .val (.int b1), .val (.int b2), .val (.int b3), .val (.int b4), .val (.int b5), .val (.int b6), .val (.double xx), .second, .val (.int f), .unset, .unset] [])
                      refine own_go (fun _ => XS.dconst0 X5.here hx rfl (hb hby at_318) rfl) ?_
                      refine own_go (fun _ => XS.goto X5.here hx rfl (pc0 := 319) (pc' := 327) rfl (hb hby at_319) (by decide) (by decide)) ?_
                      refine own_go (fun _ => XS.dstore X5.here hx rfl (hb hby at_327) rfl (l' := #[.val (.int sz), .val (.int bits), .val (.int cnt), .val (.int (5 : Int32)), .val (.ref t), .val (.int b0), .val (.int b1), .val (.int b2), .val (.int b3), .val (.int b4), .val (.int b5), .val (.int b6), .val (.double xx), .second, .val (.int f), .val (.double FP.dconst0), .second]) rfl) ?_
                      refine own_go (fun _ => XS.dload X5.here hx rfl (hb hby at_329) rfl ) ?_
                      show own_R p.tables e below _ T5 (mkF m 331 #[.val (.int sz), .val (.int bits), .val (.int cnt), .val (.int (5 : Int32)), .val (.ref t), .val (.int b0), .val (.int b1), .val (.int b2), .val (.int b3), .val (.int b4), .val (.int b5), .val (.int b6), .val (.double xx), .second, .val (.int f), .val (.double FP.dconst0), .second] [(.double xx)])
                      refine own_go (fun _ => XS.dload X5.here hx rfl (hb hby at_331) rfl ) ?_
                      refine own_go (fun _ => XS.dcmpS X5.here hx rfl (hb hby at_333) rfl rfl) ?_
                      show own_R p.tables e below _ T5 (mkF m 334 #[.val (.int sz), .val (.int bits), .val (.int cnt), .val (.int (5 : Int32)), .val (.ref t), .val (.int b0), .val (.int b1), .val (.int b2), .val (.int b3), .val (.int b4), .val (.int b5), .val (.int b6), .val (.double xx), .second, .val (.int f), .val (.double FP.dconst0), .second] [(.int (cmpValue (FP.dcmp xx FP.dconst0) .l))])
                      refine own_go (fun _ => XS.ifNo X5.here hx rfl (hb hby at_334) rfl ((if0 _ _).trans (teq (by rw [hf]; exact dcmpV_self hnn _)).2)) ?_
                      show own_R p.tables e below _ T5 (mkF m 337 #[.val (.int sz), .val (.int bits), .val (.int cnt), .val (.int (5 : Int32)), .val (.ref t), .val (.int b0), .val (.int b1), .val (.int b2), .val (.int b3), .val (.int b4), .val (.int b5), .val (.int b6), .val (.double xx), .second, .val (.int f), .val (.double FP.dconst0), .second] [])
                      refine own_go (fun _ => XS.iconst X5.here hx rfl (hb hby at_337)) ?_
                      refine own_go (fun _ => XS.goto X5.here hx rfl (pc0 := 338) (pc' := 342) rfl (hb hby at_338) (by decide) (by decide)) ?_
                      show own_R p.tables e below _ T5 (mkF m 342 #[.val (.int sz), .val (.int bits), .val (.int cnt), .val (.int (5 : Int32)), .val (.ref t), .val (.int b0), .val (.int b1), .val (.int b2), .val (.int b3), .val (.int b4), .val (.int b5), .val (.int b6), .val (.double xx), .second, .val (.int f), .val (.double FP.dconst0), .second] [(.int (1 : Int32))])
                      exact own_end X5 (some (.int (1 : Int32))) (fun h => by rw [hret] at h; cases h) hlk (fun fs hr => retN X5 hx (t := .boolean) hret (by simp) (hb hby at_342) hr) ⟨rfl, N5⟩ (by decide) (by decide)
                    · show own_R p.tables e below _ T5 (mkF m 315 #[.val (.int sz), .val (.int bits), .val (.int cnt), .val (.int (5 : Int32)), .val (.ref t), .val (.int b0), .val (.int b1), .val (.int b2), .val (.int b3), .val (.int b4), .val (.int b5), .val (.int b6), .val (.double xx), .second, .val (.int f), .unset, .unset] [(.int f)])
                      refine own_go (fun _ => XS.ifYes X5.here hx rfl (pc0 := 315) (pc' := 322) rfl (hb hby at_315) rfl ((if0 _ _).trans (feq hf0).2) (by decide) (by decide)) ?_
                      show own_R p.tables e below _ T5 (mkF m 322 #[.val (.int sz), .val (.int bits), .val (.int cnt), .val (.int (5 : Int32)), .val (.ref t), .val (.int b0), .val (.int b1), .val (.int b2), .val (.int b3), .val (.int b4), .val (.int b5), .val (.int b6), .val (.double xx), .second, .val (.int f), .unset, .unset] [])
                      have hfx : own_fx f = FP.ddiv FP.dconst1 (FP.i2d f) := if_neg hf0
                      rw [hfx] at hf hnn
                      show own_R p.tables e below _ T5 (mkF m 322 #[.val (.int sz), .val (.int bits), .val (.int cnt), .val (.int (5 : Int32)), .val (.ref t), .val (.int b0), .val (.int b1), .val (.int b2), .val (.int b3), .val (.int b4), .val (.int b5), .val (.int b6), .val (.double xx), .second, .val (.int f), .unset, .unset] [])
                      refine own_go (fun _ => XS.dconst1 X5.here hx rfl (hb hby at_322) rfl) ?_
                      refine own_go (fun _ => XS.iload X5.here hx rfl (hb hby at_323) rfl ) ?_
                      refine own_go (fun _ => XS.i2dS X5.here hx rfl (hb hby at_325) rfl rfl) ?_
                      refine own_go (fun _ => XS.ddivS X5.here hx rfl (hb hby at_326) rfl hnn rfl) ?_
                      show own_R p.tables e below _ T5 (mkF m 327 #[.val (.int sz), .val (.int bits), .val (.int cnt), .val (.int (5 : Int32)), .val (.ref t), .val (.int b0), .val (.int b1), .val (.int b2), .val (.int b3), .val (.int b4), .val (.int b5), .val (.int b6), .val (.double xx), .second, .val (.int f), .unset, .unset] [(.double (FP.ddiv FP.dconst1 (FP.i2d f)))])
                      refine own_go (fun _ => XS.dstore X5.here hx rfl (hb hby at_327) rfl (l' := #[.val (.int sz), .val (.int bits), .val (.int cnt), .val (.int (5 : Int32)), .val (.ref t), .val (.int b0), .val (.int b1), .val (.int b2), .val (.int b3), .val (.int b4), .val (.int b5), .val (.int b6), .val (.double xx), .second, .val (.int f), .val (.double (FP.ddiv FP.dconst1 (FP.i2d f))), .second]) rfl) ?_
                      refine own_go (fun _ => XS.dload X5.here hx rfl (hb hby at_329) rfl ) ?_
                      refine own_go (fun _ => XS.dload X5.here hx rfl (hb hby at_331) rfl ) ?_
                      refine own_go (fun _ => XS.dcmpS X5.here hx rfl (hb hby at_333) rfl rfl) ?_
                      show own_R p.tables e below _ T5 (mkF m 334 #[.val (.int sz), .val (.int bits), .val (.int cnt), .val (.int (5 : Int32)), .val (.ref t), .val (.int b0), .val (.int b1), .val (.int b2), .val (.int b3), .val (.int b4), .val (.int b5), .val (.int b6), .val (.double xx), .second, .val (.int f), .val (.double (FP.ddiv FP.dconst1 (FP.i2d f))), .second] [(.int (cmpValue (FP.dcmp xx (FP.ddiv FP.dconst1 (FP.i2d f))) .l))])
                      refine own_go (fun _ => XS.ifNo X5.here hx rfl (hb hby at_334) rfl ((if0 _ _).trans (teq (by rw [hf]; exact dcmpV_self hnn _)).2)) ?_
                      show own_R p.tables e below _ T5 (mkF m 337 #[.val (.int sz), .val (.int bits), .val (.int cnt), .val (.int (5 : Int32)), .val (.ref t), .val (.int b0), .val (.int b1), .val (.int b2), .val (.int b3), .val (.int b4), .val (.int b5), .val (.int b6), .val (.double xx), .second, .val (.int f), .val (.double (FP.ddiv FP.dconst1 (FP.i2d f))), .second] [])
                      refine own_go (fun _ => XS.iconst X5.here hx rfl (hb hby at_337)) ?_
                      refine own_go (fun _ => XS.goto X5.here hx rfl (pc0 := 338) (pc' := 342) rfl (hb hby at_338) (by decide) (by decide)) ?_
                      show own_R p.tables e below _ T5 (mkF m 342 #[.val (.int sz), .val (.int bits), .val (.int cnt), .val (.int (5 : Int32)), .val (.ref t), .val (.int b0), .val (.int b1), .val (.int b2), .val (.int b3), .val (.int b4), .val (.int b5), .val (.int b6), .val (.double xx), .second, .val (.int f), .val (.double (FP.ddiv FP.dconst1 (FP.i2d f))), .second] [(.int (1 : Int32))])
                      exact own_end X5 (some (.int (1 : Int32))) (fun h => by rw [hret] at h; cases h) hlk (fun fs hr => retN X5 hx (t := .boolean) hret (by simp) (hb hby at_342) hr) ⟨rfl, N5⟩ (by decide) (by decide)
                  refine own_go (fun _ => XS.iloadN X5.here hx rfl (hb hby at_202) rfl ) ?_
                  show own_R p.tables e below _ T5 (mkF m 203 #[.val (.int sz), .val (.int bits), .val (.int cnt), .val (.int (5 : Int32)), .val (.ref t), .val (.int b0), .val (.int b1), .val (.int b2), .val (.int b3), .val (.int b4), .val (.int b5), .val (.int b6), .val (.double xx), .second, .val (.int (0 : Int32)), .unset, .unset] [(.int (5 : Int32))])
                  refine own_go (fun _ => XS.ifNo X5.here hx rfl (hb hby at_203) rfl ((if0 _ _).trans (tlt (by decide)).2.2.2)) ?_
                  show own_R p.tables e below _ T5 (mkF m 206 #[.val (.int sz), .val (.int bits), .val (.int cnt), .val (.int (5 : Int32)), .val (.ref t), .val (.int b0), .val (.int b1), .val (.int b2), .val (.int b3), .val (.int b4), .val (.int b5), .val (.int b6), .val (.double xx), .second, .val (.int (0 : Int32)), .unset, .unset] [])
                  refine own_go (fun _ => XS.iload X5.here hx rfl (hb hby at_206) rfl ) ?_
                  show own_R p.tables e below _ T5 (mkF m 208 #[.val (.int sz), .val (.int bits), .val (.int cnt), .val (.int (5 : Int32)), .val (.ref t), .val (.int b0), .val (.int b1), .val (.int b2), .val (.int b3), .val (.int b4), .val (.int b5), .val (.int b6), .val (.double xx), .second, .val (.int (0 : Int32)), .unset, .unset] [(.int b0)])
                  by_cases k0 : b0 = (0 : Int32)
                  · show own_R p.tables e below _ T5 (mkF m 208 #[.val (.int sz), .val (.int bits), .val (.int cnt), .val (.int (5 : Int32)), .val (.ref t), .val (.int b0), .val (.int b1), .val (.int b2), .val (.int b3), .val (.int b4), .val (.int b5), .val (.int b6), .val (.double xx), .second, .val (.int (0 : Int32)), .unset, .unset] [(.int b0)])
                    refine own_go (fun _ => XS.ifYes X5.here hx rfl (pc0 := 208) (pc' := 217) rfl (hb hby at_208) rfl ((if0 _ _).trans (teq k0).1) (by decide) (by decide)) ?_
                    show own_R p.tables e below _ T5 (mkF m 217 #[.val (.int sz), .val (.int bits), .val (.int cnt), .val (.int (5 : Int32)), .val (.ref t), .val (.int b0), .val (.int b1), .val (.int b2), .val (.int b3), .val (.int b4), .val (.int b5), .val (.int b6), .val (.double xx), .second, .val (.int (0 : Int32)), .unset, .unset] [])
                    refine own_go (fun _ => XS.iloadN X5.here hx rfl (hb hby at_217) rfl ) ?_
                    show own_R p.tables e below _ T5 (mkF m 218 #[.val (.int sz), .val (.int bits), .val (.int cnt), .val (.int (5 : Int32)), .val (.ref t), .val (.int b0), .val (.int b1), .val (.int b2), .val (.int b3), .val (.int b4), .val (.int b5), .val (.int b6), .val (.double xx), .second, .val (.int (0 : Int32)), .unset, .unset] [(.int (5 : Int32))])
                    refine own_go (fun _ => XS.iconst X5.here hx rfl (hb hby at_218)) ?_
                    show own_R p.tables e below _ T5 (mkF m 219 #[.val (.int sz), .val (.int bits), .val (.int cnt), .val (.int (5 : Int32)), .val (.ref t), .val (.int b0), .val (.int b1), .val (.int b2), .val (.int b3), .val (.int b4), .val (.int b5), .val (.int b6), .val (.double xx), .second, .val (.int (0 : Int32)), .unset, .unset] [(.int (1 : Int32)), (.int (5 : Int32))])
                    refine own_go (fun _ => XS.icmpNo X5.here hx rfl (hb hby at_219) rfl (tlt (by decide)).2.2.2) ?_
                    show own_R p.tables e below _ T5 (mkF m 222 #[.val (.int sz), .val (.int bits), .val (.int cnt), .val (.int (5 : Int32)), .val (.ref t), .val (.int b0), .val (.int b1), .val (.int b2), .val (.int b3), .val (.int b4), .val (.int b5), .val (.int b6), .val (.double xx), .second, .val (.int (0 : Int32)), .unset, .unset] [])
                    refine own_go (fun _ => XS.iload X5.here hx rfl (hb hby at_222) rfl ) ?_
                    show own_R p.tables e below _ T5 (mkF m 224 #[.val (.int sz), .val (.int bits), .val (.int cnt), .val (.int (5 : Int32)), .val (.ref t), .val (.int b0), .val (.int b1), .val (.int b2), .val (.int b3), .val (.int b4), .val (.int b5), .val (.int b6), .val (.double xx), .second, .val (.int (0 : Int32)), .unset, .unset] [(.int b1)])
                    by_cases k1 : b1 = (0 : Int32)
                    · show own_R p.tables e below _ T5 (mkF m 224 #[.val (.int sz), .val (.int bits), .val (.int cnt), .val (.int (5 : Int32)), .val (.ref t), .val (.int b0), .val (.int b1), .val (.int b2), .val (.int b3), .val (.int b4), .val (.int b5), .val (.int b6), .val (.double xx), .second, .val (.int (0 : Int32)), .unset, .unset] [(.int b1)])
                      refine own_go (fun _ => XS.ifYes X5.here hx rfl (pc0 := 224) (pc' := 233) rfl (hb hby at_224) rfl ((if0 _ _).trans (teq k1).1) (by decide) (by decide)) ?_
                      show own_R p.tables e below _ T5 (mkF m 233 #[.val (.int sz), .val (.int bits), .val (.int cnt), .val (.int (5 : Int32)), .val (.ref t), .val (.int b0), .val (.int b1), .val (.int b2), .val (.int b3), .val (.int b4), .val (.int b5), .val (.int b6), .val (.double xx), .second, .val (.int (0 : Int32)), .unset, .unset] [])
                      refine own_go (fun _ => XS.iloadN X5.here hx rfl (hb hby at_233) rfl ) ?_
                      show own_R p.tables e below _ T5 (mkF m 234 #[.val (.int sz), .val (.int bits), .val (.int cnt), .val (.int (5 : Int32)), .val (.ref t), .val (.int b0), .val (.int b1), .val (.int b2), .val (.int b3), .val (.int b4), .val (.int b5), .val (.int b6), .val (.double xx), .second, .val (.int (0 : Int32)), .unset, .unset] [(.int (5 : Int32))])
                      refine own_go (fun _ => XS.iconst X5.here hx rfl (hb hby at_234)) ?_
                      show own_R p.tables e below _ T5 (mkF m 235 #[.val (.int sz), .val (.int bits), .val (.int cnt), .val (.int (5 : Int32)), .val (.ref t), .val (.int b0), .val (.int b1), .val (.int b2), .val (.int b3), .val (.int b4), .val (.int b5), .val (.int b6), .val (.double xx), .second, .val (.int (0 : Int32)), .unset, .unset] [(.int (2 : Int32)), (.int (5 : Int32))])
                      refine own_go (fun _ => XS.icmpNo X5.here hx rfl (hb hby at_235) rfl (tlt (by decide)).2.2.2) ?_
                      show own_R p.tables e below _ T5 (mkF m 238 #[.val (.int sz), .val (.int bits), .val (.int cnt), .val (.int (5 : Int32)), .val (.ref t), .val (.int b0), .val (.int b1), .val (.int b2), .val (.int b3), .val (.int b4), .val (.int b5), .val (.int b6), .val (.double xx), .second, .val (.int (0 : Int32)), .unset, .unset] [])
                      refine own_go (fun _ => XS.iload X5.here hx rfl (hb hby at_238) rfl ) ?_
                      show own_R p.tables e below _ T5 (mkF m 240 #[.val (.int sz), .val (.int bits), .val (.int cnt), .val (.int (5 : Int32)), .val (.ref t), .val (.int b0), .val (.int b1), .val (.int b2), .val (.int b3), .val (.int b4), .val (.int b5), .val (.int b6), .val (.double xx), .second, .val (.int (0 : Int32)), .unset, .unset] [(.int b2)])
                      by_cases k2 : b2 = (0 : Int32)
                      · show own_R p.tables e below _ T5 (mkF m 240 #[.val (.int sz), .val (.int bits), .val (.int cnt), .val (.int (5 : Int32)), .val (.ref t), .val (.int b0), .val (.int b1), .val (.int b2), .val (.int b3), .val (.int b4), .val (.int b5), .val (.int b6), .val (.double xx), .second, .val (.int (0 : Int32)), .unset, .unset] [(.int b2)])
                        refine own_go (fun _ => XS.ifYes X5.here hx rfl (pc0 := 240) (pc' := 249) rfl (hb hby at_240) rfl ((if0 _ _).trans (teq k2).1) (by decide) (by decide)) ?_
                        show own_R p.tables e below _ T5 (mkF m 249 #[.val (.int sz), .val (.int bits), .val (.int cnt), .val (.int (5 : Int32)), .val (.ref t), .val (.int b0), .val (.int b1), .val (.int b2), .val (.int b3), .val (.int b4), .val (.int b5), .val (.int b6), .val (.double xx), .second, .val (.int (0 : Int32)), .unset, .unset] [])
                        refine own_go (fun _ => XS.iloadN X5.here hx rfl (hb hby at_249) rfl ) ?_
                        show own_R p.tables e below _ T5 (mkF m 250 #[.val (.int sz), .val (.int bits), .val (.int cnt), .val (.int (5 : Int32)), .val (.ref t), .val (.int b0), .val (.int b1), .val (.int b2), .val (.int b3), .val (.int b4), .val (.int b5), .val (.int b6), .val (.double xx), .second, .val (.int (0 : Int32)), .unset, .unset] [(.int (5 : Int32))])
                        refine own_go (fun _ => XS.iconst X5.here hx rfl (hb hby at_250)) ?_
                        show own_R p.tables e below _ T5 (mkF m 251 #[.val (.int sz), .val (.int bits), .val (.int cnt), .val (.int (5 : Int32)), .val (.ref t), .val (.int b0), .val (.int b1), .val (.int b2), .val (.int b3), .val (.int b4), .val (.int b5), .val (.int b6), .val (.double xx), .second, .val (.int (0 : Int32)), .unset, .unset] [(.int (3 : Int32)), (.int (5 : Int32))])
                        refine own_go (fun _ => XS.icmpNo X5.here hx rfl (hb hby at_251) rfl (tlt (by decide)).2.2.2) ?_
                        show own_R p.tables e below _ T5 (mkF m 254 #[.val (.int sz), .val (.int bits), .val (.int cnt), .val (.int (5 : Int32)), .val (.ref t), .val (.int b0), .val (.int b1), .val (.int b2), .val (.int b3), .val (.int b4), .val (.int b5), .val (.int b6), .val (.double xx), .second, .val (.int (0 : Int32)), .unset, .unset] [])
                        refine own_go (fun _ => XS.iload X5.here hx rfl (hb hby at_254) rfl ) ?_
                        show own_R p.tables e below _ T5 (mkF m 256 #[.val (.int sz), .val (.int bits), .val (.int cnt), .val (.int (5 : Int32)), .val (.ref t), .val (.int b0), .val (.int b1), .val (.int b2), .val (.int b3), .val (.int b4), .val (.int b5), .val (.int b6), .val (.double xx), .second, .val (.int (0 : Int32)), .unset, .unset] [(.int b3)])
                        by_cases k3 : b3 = (0 : Int32)
                        · show own_R p.tables e below _ T5 (mkF m 256 #[.val (.int sz), .val (.int bits), .val (.int cnt), .val (.int (5 : Int32)), .val (.ref t), .val (.int b0), .val (.int b1), .val (.int b2), .val (.int b3), .val (.int b4), .val (.int b5), .val (.int b6), .val (.double xx), .second, .val (.int (0 : Int32)), .unset, .unset] [(.int b3)])
                          refine own_go (fun _ => XS.ifYes X5.here hx rfl (pc0 := 256) (pc' := 265) rfl (hb hby at_256) rfl ((if0 _ _).trans (teq k3).1) (by decide) (by decide)) ?_
                          show own_R p.tables e below _ T5 (mkF m 265 #[.val (.int sz), .val (.int bits), .val (.int cnt), .val (.int (5 : Int32)), .val (.ref t), .val (.int b0), .val (.int b1), .val (.int b2), .val (.int b3), .val (.int b4), .val (.int b5), .val (.int b6), .val (.double xx), .second, .val (.int (0 : Int32)), .unset, .unset] [])
                          refine own_go (fun _ => XS.iloadN X5.here hx rfl (hb hby at_265) rfl ) ?_
                          show own_R p.tables e below _ T5 (mkF m 266 #[.val (.int sz), .val (.int bits), .val (.int cnt), .val (.int (5 : Int32)), .val (.ref t), .val (.int b0), .val (.int b1), .val (.int b2), .val (.int b3), .val (.int b4), .val (.int b5), .val (.int b6), .val (.double xx), .second, .val (.int (0 : Int32)), .unset, .unset] [(.int (5 : Int32))])
                          refine own_go (fun _ => XS.iconst X5.here hx rfl (hb hby at_266)) ?_
                          show own_R p.tables e below _ T5 (mkF m 267 #[.val (.int sz), .val (.int bits), .val (.int cnt), .val (.int (5 : Int32)), .val (.ref t), .val (.int b0), .val (.int b1), .val (.int b2), .val (.int b3), .val (.int b4), .val (.int b5), .val (.int b6), .val (.double xx), .second, .val (.int (0 : Int32)), .unset, .unset] [(.int (4 : Int32)), (.int (5 : Int32))])
                          refine own_go (fun _ => XS.icmpNo X5.here hx rfl (hb hby at_267) rfl (tlt (by decide)).2.2.2) ?_
                          show own_R p.tables e below _ T5 (mkF m 270 #[.val (.int sz), .val (.int bits), .val (.int cnt), .val (.int (5 : Int32)), .val (.ref t), .val (.int b0), .val (.int b1), .val (.int b2), .val (.int b3), .val (.int b4), .val (.int b5), .val (.int b6), .val (.double xx), .second, .val (.int (0 : Int32)), .unset, .unset] [])
                          refine own_go (fun _ => XS.iload X5.here hx rfl (hb hby at_270) rfl ) ?_
                          show own_R p.tables e below _ T5 (mkF m 272 #[.val (.int sz), .val (.int bits), .val (.int cnt), .val (.int (5 : Int32)), .val (.ref t), .val (.int b0), .val (.int b1), .val (.int b2), .val (.int b3), .val (.int b4), .val (.int b5), .val (.int b6), .val (.double xx), .second, .val (.int (0 : Int32)), .unset, .unset] [(.int b4)])
                          by_cases k4 : b4 = (0 : Int32)
                          · show own_R p.tables e below _ T5 (mkF m 272 #[.val (.int sz), .val (.int bits), .val (.int cnt), .val (.int (5 : Int32)), .val (.ref t), .val (.int b0), .val (.int b1), .val (.int b2), .val (.int b3), .val (.int b4), .val (.int b5), .val (.int b6), .val (.double xx), .second, .val (.int (0 : Int32)), .unset, .unset] [(.int b4)])
                            refine own_go (fun _ => XS.ifYes X5.here hx rfl (pc0 := 272) (pc' := 281) rfl (hb hby at_272) rfl ((if0 _ _).trans (teq k4).1) (by decide) (by decide)) ?_
                            show own_R p.tables e below _ T5 (mkF m 281 #[.val (.int sz), .val (.int bits), .val (.int cnt), .val (.int (5 : Int32)), .val (.ref t), .val (.int b0), .val (.int b1), .val (.int b2), .val (.int b3), .val (.int b4), .val (.int b5), .val (.int b6), .val (.double xx), .second, .val (.int (0 : Int32)), .unset, .unset] [])
                            refine own_go (fun _ => XS.iloadN X5.here hx rfl (hb hby at_281) rfl ) ?_
                            show own_R p.tables e below _ T5 (mkF m 282 #[.val (.int sz), .val (.int bits), .val (.int cnt), .val (.int (5 : Int32)), .val (.ref t), .val (.int b0), .val (.int b1), .val (.int b2), .val (.int b3), .val (.int b4), .val (.int b5), .val (.int b6), .val (.double xx), .second, .val (.int (0 : Int32)), .unset, .unset] [(.int (5 : Int32))])
                            refine own_go (fun _ => XS.iconst X5.here hx rfl (hb hby at_282)) ?_
                            show own_R p.tables e below _ T5 (mkF m 283 #[.val (.int sz), .val (.int bits), .val (.int cnt), .val (.int (5 : Int32)), .val (.ref t), .val (.int b0), .val (.int b1), .val (.int b2), .val (.int b3), .val (.int b4), .val (.int b5), .val (.int b6), .val (.double xx), .second, .val (.int (0 : Int32)), .unset, .unset] [(.int (5 : Int32)), (.int (5 : Int32))])
                            refine own_go (fun _ => XS.icmpYes X5.here hx rfl (pc0 := 283) (pc' := 298) rfl (hb hby at_283) rfl (flt (by decide)).2.2.2 (by decide) (by decide)) ?_
                            show own_R p.tables e below _ T5 (mkF m 298 #[.val (.int sz), .val (.int bits), .val (.int cnt), .val (.int (5 : Int32)), .val (.ref t), .val (.int b0), .val (.int b1), .val (.int b2), .val (.int b3), .val (.int b4), .val (.int b5), .val (.int b6), .val (.double xx), .second, .val (.int (0 : Int32)), .unset, .unset] [])
                            refine own_go (fun _ => XS.iloadN X5.here hx rfl (hb hby at_298) rfl ) ?_
                            show own_R p.tables e below _ T5 (mkF m 299 #[.val (.int sz), .val (.int bits), .val (.int cnt), .val (.int (5 : Int32)), .val (.ref t), .val (.int b0), .val (.int b1), .val (.int b2), .val (.int b3), .val (.int b4), .val (.int b5), .val (.int b6), .val (.double xx), .second, .val (.int (0 : Int32)), .unset, .unset] [(.int (5 : Int32))])
                            refine own_go (fun _ => XS.bipush X5.here hx rfl (hb hby at_299)) ?_
                            show own_R p.tables e below _ T5 (mkF m 301 #[.val (.int sz), .val (.int bits), .val (.int cnt), .val (.int (5 : Int32)), .val (.ref t), .val (.int b0), .val (.int b1), .val (.int b2), .val (.int b3), .val (.int b4), .val (.int b5), .val (.int b6), .val (.double xx), .second, .val (.int (0 : Int32)), .unset, .unset] [(.int (6 : Int32)), (.int (5 : Int32))])
                            refine own_go (fun _ => XS.icmpYes X5.here hx rfl (pc0 := 301) (pc' := 313) rfl (hb hby at_301) rfl (flt (by decide)).2.2.2 (by decide) (by decide)) ?_
                            show own_R p.tables e below _ T5 (mkF m 313 #[.val (.int sz), .val (.int bits), .val (.int cnt), .val (.int (5 : Int32)), .val (.ref t), .val (.int b0), .val (.int b1), .val (.int b2), .val (.int b3), .val (.int b4), .val (.int b5), .val (.int b6), .val (.double xx), .second, .val (.int (0 : Int32)), .unset, .unset] [])
                            exact JT 0 (hxx.symm.trans (by simp [own_rr, own_fx, k0, k1, k2, k3, k4])) (own_fn 0)
                          · show own_R p.tables e below _ T5 (mkF m 272 #[.val (.int sz), .val (.int bits), .val (.int cnt), .val (.int (5 : Int32)), .val (.ref t), .val (.int b0), .val (.int b1), .val (.int b2), .val (.int b3), .val (.int b4), .val (.int b5), .val (.int b6), .val (.double xx), .second, .val (.int (0 : Int32)), .unset, .unset] [(.int b4)])
                            refine own_go (fun _ => XS.ifNo X5.here hx rfl (hb hby at_272) rfl ((if0 _ _).trans (feq k4).1)) ?_
                            show own_R p.tables e below _ T5 (mkF m 275 #[.val (.int sz), .val (.int bits), .val (.int cnt), .val (.int (5 : Int32)), .val (.ref t), .val (.int b0), .val (.int b1), .val (.int b2), .val (.int b3), .val (.int b4), .val (.int b5), .val (.int b6), .val (.double xx), .second, .val (.int (0 : Int32)), .unset, .unset] [])
                            refine own_go (fun _ => XS.iconst X5.here hx rfl (hb hby at_275)) ?_
                            refine own_go (fun _ => XS.istore X5.here hx rfl (hb hby at_276) rfl (l' := #[.val (.int sz), .val (.int bits), .val (.int cnt), .val (.int (5 : Int32)), .val (.ref t), .val (.int b0), .val (.int b1), .val (.int b2), .val (.int b3), .val (.int b4), .val (.int b5), .val (.int b6), .val (.double xx), .second, .val (.int (5 : Int32)), .unset, .unset]) rfl) ?_
                            refine own_go (fun _ => XS.goto X5.here hx rfl (pc0 := 278) (pc' := 313) rfl (hb hby at_278) (by decide) (by decide)) ?_
                            show own_R p.tables e below _ T5 (mkF m 313 #[.val (.int sz), .val (.int bits), .val (.int cnt), .val (.int (5 : Int32)), .val (.ref t), .val (.int b0), .val (.int b1), .val (.int b2), .val (.int b3), .val (.int b4), .val (.int b5), .val (.int b6), .val (.double xx), .second, .val (.int (5 : Int32)), .unset, .unset] [])
                            exact JT 5 (hxx.symm.trans (by simp [own_rr, own_fx, k0, k1, k2, k3, k4])) (own_fn 5)
                        · show own_R p.tables e below _ T5 (mkF m 256 #[.val (.int sz), .val (.int bits), .val (.int cnt), .val (.int (5 : Int32)), .val (.ref t), .val (.int b0), .val (.int b1), .val (.int b2), .val (.int b3), .val (.int b4), .val (.int b5), .val (.int b6), .val (.double xx), .second, .val (.int (0 : Int32)), .unset, .unset] [(.int b3)])
                          refine own_go (fun _ => XS.ifNo X5.here hx rfl (hb hby at_256) rfl ((if0 _ _).trans (feq k3).1)) ?_
                          show own_R p.tables e below _ T5 (mkF m 259 #[.val (.int sz), .val (.int bits), .val (.int cnt), .val (.int (5 : Int32)), .val (.ref t), .val (.int b0), .val (.int b1), .val (.int b2), .val (.int b3), .val (.int b4), .val (.int b5), .val (.int b6), .val (.double xx), .second, .val (.int (0 : Int32)), .unset, .unset] [])
                          refine own_go (fun _ => XS.iconst X5.here hx rfl (hb hby at_259)) ?_
                          refine own_go (fun _ => XS.istore X5.here hx rfl (hb hby at_260) rfl (l' := #[.val (.int sz), .val (.int bits), .val (.int cnt), .val (.int (5 : Int32)), .val (.ref t), .val (.int b0), .val (.int b1), .val (.int b2), .val (.int b3), .val (.int b4), .val (.int b5), .val (.int b6), .val (.double xx), .second, .val (.int (4 : Int32)), .unset, .unset]) rfl) ?_
                          refine own_go (fun _ => XS.goto X5.here hx rfl (pc0 := 262) (pc' := 313) rfl (hb hby at_262) (by decide) (by decide)) ?_
                          show own_R p.tables e below _ T5 (mkF m 313 #[.val (.int sz), .val (.int bits), .val (.int cnt), .val (.int (5 : Int32)), .val (.ref t), .val (.int b0), .val (.int b1), .val (.int b2), .val (.int b3), .val (.int b4), .val (.int b5), .val (.int b6), .val (.double xx), .second, .val (.int (4 : Int32)), .unset, .unset] [])
                          exact JT 4 (hxx.symm.trans (by simp [own_rr, own_fx, k0, k1, k2, k3])) (own_fn 4)
                      · show own_R p.tables e below _ T5 (mkF m 240 #[.val (.int sz), .val (.int bits), .val (.int cnt), .val (.int (5 : Int32)), .val (.ref t), .val (.int b0), .val (.int b1), .val (.int b2), .val (.int b3), .val (.int b4), .val (.int b5), .val (.int b6), .val (.double xx), .second, .val (.int (0 : Int32)), .unset, .unset] [(.int b2)])
                        refine own_go (fun _ => XS.ifNo X5.here hx rfl (hb hby at_240) rfl ((if0 _ _).trans (feq k2).1)) ?_
                        show own_R p.tables e below _ T5 (mkF m 243 #[.val (.int sz), .val (.int bits), .val (.int cnt), .val (.int (5 : Int32)), .val (.ref t), .val (.int b0), .val (.int b1), .val (.int b2), .val (.int b3), .val (.int b4), .val (.int b5), .val (.int b6), .val (.double xx), .second, .val (.int (0 : Int32)), .unset, .unset] [])
                        refine own_go (fun _ => XS.iconst X5.here hx rfl (hb hby at_243)) ?_
                        refine own_go (fun _ => XS.istore X5.here hx rfl (hb hby at_244) rfl (l' := #[.val (.int sz), .val (.int bits), .val (.int cnt), .val (.int (5 : Int32)), .val (.ref t), .val (.int b0), .val (.int b1), .val (.int b2), .val (.int b3), .val (.int b4), .val (.int b5), .val (.int b6), .val (.double xx), .second, .val (.int (3 : Int32)), .unset, .unset]) rfl) ?_
                        refine own_go (fun _ => XS.goto X5.here hx rfl (pc0 := 246) (pc' := 313) rfl (hb hby at_246) (by decide) (by decide)) ?_
                        show own_R p.tables e below _ T5 (mkF m 313 #[.val (.int sz), .val (.int bits), .val (.int cnt), .val (.int (5 : Int32)), .val (.ref t), .val (.int b0), .val (.int b1), .val (.int b2), .val (.int b3), .val (.int b4), .val (.int b5), .val (.int b6), .val (.double xx), .second, .val (.int (3 : Int32)), .unset, .unset] [])
                        exact JT 3 (hxx.symm.trans (by simp [own_rr, own_fx, k0, k1, k2])) (own_fn 3)
                    · show own_R p.tables e below _ T5 (mkF m 224 #[.val (.int sz), .val (.int bits), .val (.int cnt), .val (.int (5 : Int32)), .val (.ref t), .val (.int b0), .val (.int b1), .val (.int b2), .val (.int b3), .val (.int b4), .val (.int b5), .val (.int b6), .val (.double xx), .second, .val (.int (0 : Int32)), .unset, .unset] [(.int b1)])
                      refine own_go (fun _ => XS.ifNo X5.here hx rfl (hb hby at_224) rfl ((if0 _ _).trans (feq k1).1)) ?_
                      show own_R p.tables e below _ T5 (mkF m 227 #[.val (.int sz), .val (.int bits), .val (.int cnt), .val (.int (5 : Int32)), .val (.ref t), .val (.int b0), .val (.int b1), .val (.int b2), .val (.int b3), .val (.int b4), .val (.int b5), .val (.int b6), .val (.double xx), .second, .val (.int (0 : Int32)), .unset, .unset] [])
                      refine own_go (fun _ => XS.iconst X5.here hx rfl (hb hby at_227)) ?_
                      refine own_go (fun _ => XS.istore X5.here hx rfl (hb hby at_228) rfl (l' := #[.val (.int sz), .val (.int bits), .val (.int cnt), .val (.int (5 : Int32)), .val (.ref t), .val (.int b0), .val (.int b1), .val (.int b2), .val (.int b3), .val (.int b4), .val (.int b5), .val (.int b6), .val (.double xx), .second, .val (.int (2 : Int32)), .unset, .unset]) rfl) ?_
                      refine own_go (fun _ => XS.goto X5.here hx rfl (pc0 := 230) (pc' := 313) rfl (hb hby at_230) (by decide) (by decide)) ?_
                      show own_R p.tables e below _ T5 (mkF m 313 #[.val (.int sz), .val (.int bits), .val (.int cnt), .val (.int (5 : Int32)), .val (.ref t), .val (.int b0), .val (.int b1), .val (.int b2), .val (.int b3), .val (.int b4), .val (.int b5), .val (.int b6), .val (.double xx), .second, .val (.int (2 : Int32)), .unset, .unset] [])
                      exact JT 2 (hxx.symm.trans (by simp [own_rr, own_fx, k0, k1])) (own_fn 2)
                  · show own_R p.tables e below _ T5 (mkF m 208 #[.val (.int sz), .val (.int bits), .val (.int cnt), .val (.int (5 : Int32)), .val (.ref t), .val (.int b0), .val (.int b1), .val (.int b2), .val (.int b3), .val (.int b4), .val (.int b5), .val (.int b6), .val (.double xx), .second, .val (.int (0 : Int32)), .unset, .unset] [(.int b0)])
                    refine own_go (fun _ => XS.ifNo X5.here hx rfl (hb hby at_208) rfl ((if0 _ _).trans (feq k0).1)) ?_
                    show own_R p.tables e below _ T5 (mkF m 211 #[.val (.int sz), .val (.int bits), .val (.int cnt), .val (.int (5 : Int32)), .val (.ref t), .val (.int b0), .val (.int b1), .val (.int b2), .val (.int b3), .val (.int b4), .val (.int b5), .val (.int b6), .val (.double xx), .second, .val (.int (0 : Int32)), .unset, .unset] [])
                    refine own_go (fun _ => XS.iconst X5.here hx rfl (hb hby at_211)) ?_
                    refine own_go (fun _ => XS.istore X5.here hx rfl (hb hby at_212) rfl (l' := #[.val (.int sz), .val (.int bits), .val (.int cnt), .val (.int (5 : Int32)), .val (.ref t), .val (.int b0), .val (.int b1), .val (.int b2), .val (.int b3), .val (.int b4), .val (.int b5), .val (.int b6), .val (.double xx), .second, .val (.int (1 : Int32)), .unset, .unset]) rfl) ?_
                    refine own_go (fun _ => XS.goto X5.here hx rfl (pc0 := 214) (pc' := 313) rfl (hb hby at_214) (by decide) (by decide)) ?_
                    show own_R p.tables e below _ T5 (mkF m 313 #[.val (.int sz), .val (.int bits), .val (.int cnt), .val (.int (5 : Int32)), .val (.ref t), .val (.int b0), .val (.int b1), .val (.int b2), .val (.int b3), .val (.int b4), .val (.int b5), .val (.int b6), .val (.double xx), .second, .val (.int (1 : Int32)), .unset, .unset] [])
                    exact JT 1 (hxx.symm.trans (by simp [own_rr, own_fx, k0])) (own_fn 1)
                · show own_R p.tables e below _ T1 (mkF m 106 #[.val (.int sz), .val (.int bits), .val (.int cnt), .val (.int (6 : Int32)), .val (.ref t), .val (.int b0), .val (.int b1), .val (.int b2), .val (.int b3), .val (.int b4), .val (.int b5), .val (.int b6), .unset, .unset, .unset, .unset, .unset] [])
                  have V2 := V1.pad (pad_rep [] (.int 0) 6)
                  have g1a : n0 ≤ t := Nat.le_trans Z0 q1
                  refine own_go (fun _ => XS.iloadN X1.here hx rfl (hb hby at_106) rfl ) ?_
                  show own_R p.tables e below _ T1 (mkF m 107 #[.val (.int sz), .val (.int bits), .val (.int cnt), .val (.int (6 : Int32)), .val (.ref t), .val (.int b0), .val (.int b1), .val (.int b2), .val (.int b3), .val (.int b4), .val (.int b5), .val (.int b6), .unset, .unset, .unset, .unset, .unset] [(.int (6 : Int32))])
                  refine own_go (fun _ => XS.ifNo X1.here hx rfl (hb hby at_107) rfl ((if0 _ _).trans (tlt (by decide)).2.2.2)) ?_
                  show own_R p.tables e below _ T1 (mkF m 110 #[.val (.int sz), .val (.int bits), .val (.int cnt), .val (.int (6 : Int32)), .val (.ref t), .val (.int b0), .val (.int b1), .val (.int b2), .val (.int b3), .val (.int b4), .val (.int b5), .val (.int b6), .unset, .unset, .unset, .unset, .unset] [])
                  refine own_go (fun _ => XS.aload X1.here hx rfl (hb hby at_110) rfl rfl) ?_
                  show own_R p.tables e below _ T1 (mkF m 112 #[.val (.int sz), .val (.int bits), .val (.int cnt), .val (.int (6 : Int32)), .val (.ref t), .val (.int b0), .val (.int b1), .val (.int b2), .val (.int b3), .val (.int b4), .val (.int b5), .val (.int b6), .unset, .unset, .unset, .unset, .unset] [(.ref t)])
                  refine own_go (fun _ => XS.iconst X1.here hx rfl (hb hby at_112)) ?_
                  show own_R p.tables e below _ T1 (mkF m 113 #[.val (.int sz), .val (.int bits), .val (.int cnt), .val (.int (6 : Int32)), .val (.ref t), .val (.int b0), .val (.int b1), .val (.int b2), .val (.int b3), .val (.int b4), .val (.int b5), .val (.int b6), .unset, .unset, .unset, .unset, .unset] [(.int (0 : Int32)), (.ref t)])
                  refine own_go (fun _ => XS.iload X1.here hx rfl (hb hby at_113) rfl ) ?_
                  show own_R p.tables e below _ T1 (mkF m 115 #[.val (.int sz), .val (.int bits), .val (.int cnt), .val (.int (6 : Int32)), .val (.ref t), .val (.int b0), .val (.int b1), .val (.int b2), .val (.int b3), .val (.int b4), .val (.int b5), .val (.int b6), .unset, .unset, .unset, .unset, .unset] [(.int b0), (.int (0 : Int32)), (.ref t)])
                  obtain ⟨Ts0, hs0, Xs0, es0, Ws0, Vs0, sts0⟩ := own_stZ X1 hx hZ rfl V2 (j := (0 : Int32)) ⟨by decide, by decide⟩ 0 rfl (Nat.le_of_ble_eq_true rfl) hb0 (g := (mkF m 115 #[.val (.int sz), .val (.int bits), .val (.int cnt), .val (.int (6 : Int32)), .val (.ref t), .val (.int b0), .val (.int b1), .val (.int b2), .val (.int b3), .val (.int b4), .val (.int b5), .val (.int b6), .unset, .unset, .unset, .unset, .unset] [(.int b0), (.int (0 : Int32)), (.ref t)])) rfl rfl (hb hby at_115)
                  have Ks0 : Keep h0 hs0 [] := K1.wr Ws0 (Or.inr q1)
                  have Ns0 := Fr.snoc Xs0 N1 g1a
                  refine own_go sts0 ?_
                  show own_R p.tables e below _ Ts0 (mkF m 116 #[.val (.int sz), .val (.int bits), .val (.int cnt), .val (.int (6 : Int32)), .val (.ref t), .val (.int b0), .val (.int b1), .val (.int b2), .val (.int b3), .val (.int b4), .val (.int b5), .val (.int b6), .unset, .unset, .unset, .unset, .unset] [])
                  refine own_go (fun _ => XS.iloadN Xs0.here hx rfl (hb hby at_116) rfl ) ?_
                  show own_R p.tables e below _ Ts0 (mkF m 117 #[.val (.int sz), .val (.int bits), .val (.int cnt), .val (.int (6 : Int32)), .val (.ref t), .val (.int b0), .val (.int b1), .val (.int b2), .val (.int b3), .val (.int b4), .val (.int b5), .val (.int b6), .unset, .unset, .unset, .unset, .unset] [(.int (6 : Int32))])
                  refine own_go (fun _ => XS.iconst Xs0.here hx rfl (hb hby at_117)) ?_
                  show own_R p.tables e below _ Ts0 (mkF m 118 #[.val (.int sz), .val (.int bits), .val (.int cnt), .val (.int (6 : Int32)), .val (.ref t), .val (.int b0), .val (.int b1), .val (.int b2), .val (.int b3), .val (.int b4), .val (.int b5), .val (.int b6), .unset, .unset, .unset, .unset, .unset] [(.int (1 : Int32)), (.int (6 : Int32))])
                  refine own_go (fun _ => XS.icmpNo Xs0.here hx rfl (hb hby at_118) rfl (tlt (by decide)).2.2.2) ?_
                  show own_R p.tables e below _ Ts0 (mkF m 121 #[.val (.int sz), .val (.int bits), .val (.int cnt), .val (.int (6 : Int32)), .val (.ref t), .val (.int b0), .val (.int b1), .val (.int b2), .val (.int b3), .val (.int b4), .val (.int b5), .val (.int b6), .unset, .unset, .unset, .unset, .unset] [])
                  refine own_go (fun _ => XS.aload Xs0.here hx rfl (hb hby at_121) rfl rfl) ?_
                  show own_R p.tables e below _ Ts0 (mkF m 123 #[.val (.int sz), .val (.int bits), .val (.int cnt), .val (.int (6 : Int32)), .val (.ref t), .val (.int b0), .val (.int b1), .val (.int b2), .val (.int b3), .val (.int b4), .val (.int b5), .val (.int b6), .unset, .unset, .unset, .unset, .unset] [(.ref t)])
                  refine own_go (fun _ => XS.iconst Xs0.here hx rfl (hb hby at_123)) ?_
                  show own_R p.tables e below _ Ts0 (mkF m 124 #[.val (.int sz), .val (.int bits), .val (.int cnt), .val (.int (6 : Int32)), .val (.ref t), .val (.int b0), .val (.int b1), .val (.int b2), .val (.int b3), .val (.int b4), .val (.int b5), .val (.int b6), .unset, .unset, .unset, .unset, .unset] [(.int (1 : Int32)), (.ref t)])
                  refine own_go (fun _ => XS.iload Xs0.here hx rfl (hb hby at_124) rfl ) ?_
                  show own_R p.tables e below _ Ts0 (mkF m 126 #[.val (.int sz), .val (.int bits), .val (.int cnt), .val (.int (6 : Int32)), .val (.ref t), .val (.int b0), .val (.int b1), .val (.int b2), .val (.int b3), .val (.int b4), .val (.int b5), .val (.int b6), .unset, .unset, .unset, .unset, .unset] [(.int b1), (.int (1 : Int32)), (.ref t)])
                  obtain ⟨Ts1, hs1, Xs1, es1, Ws1, Vs1, sts1⟩ := own_stZ Xs0 hx hZ es0 Vs0 (j := (1 : Int32)) ⟨by decide, by decide⟩ 1 rfl (Nat.le_of_ble_eq_true rfl) hb1 (g := (mkF m 126 #[.val (.int sz), .val (.int bits), .val (.int cnt), .val (.int (6 : Int32)), .val (.ref t), .val (.int b0), .val (.int b1), .val (.int b2), .val (.int b3), .val (.int b4), .val (.int b5), .val (.int b6), .unset, .unset, .unset, .unset, .unset] [(.int b1), (.int (1 : Int32)), (.ref t)])) rfl rfl (hb hby at_126)
                  have Ks1 : Keep h0 hs1 [] := Ks0.wr Ws1 (Or.inr q1)
                  have Ns1 := Fr.snoc Xs1 Ns0 g1a
                  refine own_go sts1 ?_
                  show own_R p.tables e below _ Ts1 (mkF m 127 #[.val (.int sz), .val (.int bits), .val (.int cnt), .val (.int (6 : Int32)), .val (.ref t), .val (.int b0), .val (.int b1), .val (.int b2), .val (.int b3), .val (.int b4), .val (.int b5), .val (.int b6), .unset, .unset, .unset, .unset, .unset] [])
                  refine own_go (fun _ => XS.iloadN Xs1.here hx rfl (hb hby at_127) rfl ) ?_
                  show own_R p.tables e below _ Ts1 (mkF m 128 #[.val (.int sz), .val (.int bits), .val (.int cnt), .val (.int (6 : Int32)), .val (.ref t), .val (.int b0), .val (.int b1), .val (.int b2), .val (.int b3), .val (.int b4), .val (.int b5), .val (.int b6), .unset, .unset, .unset, .unset, .unset] [(.int (6 : Int32))])
                  refine own_go (fun _ => XS.iconst Xs1.here hx rfl (hb hby at_128)) ?_
                  show own_R p.tables e below _ Ts1 (mkF m 129 #[.val (.int sz), .val (.int bits), .val (.int cnt), .val (.int (6 : Int32)), .val (.ref t), .val (.int b0), .val (.int b1), .val (.int b2), .val (.int b3), .val (.int b4), .val (.int b5), .val (.int b6), .unset, .unset, .unset, .unset, .unset] [(.int (2 : Int32)), (.int (6 : Int32))])
                  refine own_go (fun _ => XS.icmpNo Xs1.here hx rfl (hb hby at_129) rfl (tlt (by decide)).2.2.2) ?_
                  show own_R p.tables e below _ Ts1 (mkF m 132 #[.val (.int sz), .val (.int bits), .val (.int cnt), .val (.int (6 : Int32)), .val (.ref t), .val (.int b0), .val (.int b1), .val (.int b2), .val (.int b3), .val (.int b4), .val (.int b5), .val (.int b6), .unset, .unset, .unset, .unset, .unset] [])
                  refine own_go (fun _ => XS.aload Xs1.here hx rfl (hb hby at_132) rfl rfl) ?_
                  show own_R p.tables e below _ Ts1 (mkF m 134 #[.val (.int sz), .val (.int bits), .val (.int cnt), .val (.int (6 : Int32)), .val (.ref t), .val (.int b0), .val (.int b1), .val (.int b2), .val (.int b3), .val (.int b4), .val (.int b5), .val (.int b6), .unset, .unset, .unset, .unset, .unset] [(.ref t)])
                  refine own_go (fun _ => XS.iconst Xs1.here hx rfl (hb hby at_134)) ?_
                  show own_R p.tables e below _ Ts1 (mkF m 135 #[.val (.int sz), .val (.int bits), .val (.int cnt), .val (.int (6 : Int32)), .val (.ref t), .val (.int b0), .val (.int b1), .val (.int b2), .val (.int b3), .val (.int b4), .val (.int b5), .val (.int b6), .unset, .unset, .unset, .unset, .unset] [(.int (2 : Int32)), (.ref t)])
                  refine own_go (fun _ => XS.iload Xs1.here hx rfl (hb hby at_135) rfl ) ?_
                  show own_R p.tables e below _ Ts1 (mkF m 137 #[.val (.int sz), .val (.int bits), .val (.int cnt), .val (.int (6 : Int32)), .val (.ref t), .val (.int b0), .val (.int b1), .val (.int b2), .val (.int b3), .val (.int b4), .val (.int b5), .val (.int b6), .unset, .unset, .unset, .unset, .unset] [(.int b2), (.int (2 : Int32)), (.ref t)])
                  obtain ⟨Ts2, hs2, Xs2, es2, Ws2, Vs2, sts2⟩ := own_stZ Xs1 hx hZ es1 Vs1 (j := (2 : Int32)) ⟨by decide, by decide⟩ 2 rfl (Nat.le_of_ble_eq_true rfl) hb2 (g := (mkF m 137 #[.val (.int sz), .val (.int bits), .val (.int cnt), .val (.int (6 : Int32)), .val (.ref t), .val (.int b0), .val (.int b1), .val (.int b2), .val (.int b3), .val (.int b4), .val (.int b5), .val (.int b6), .unset, .unset, .unset, .unset, .unset] [(.int b2), (.int (2 : Int32)), (.ref t)])) rfl rfl (hb hby at_137)
                  have Ks2 : Keep h0 hs2 [] := Ks1.wr Ws2 (Or.inr q1)
                  have Ns2 := Fr.snoc Xs2 Ns1 g1a
                  refine own_go sts2 ?_
                  show own_R p.tables e below _ Ts2 (mkF m 138 #[.val (.int sz), .val (.int bits), .val (.int cnt), .val (.int (6 : Int32)), .val (.ref t), .val (.int b0), .val (.int b1), .val (.int b2), .val (.int b3), .val (.int b4), .val (.int b5), .val (.int b6), .unset, .unset, .unset, .unset, .unset] [])
                  refine own_go (fun _ => XS.iloadN Xs2.here hx rfl (hb hby at_138) rfl ) ?_
                  show own_R p.tables e below _ Ts2 (mkF m 139 #[.val (.int sz), .val (.int bits), .val (.int cnt), .val (.int (6 : Int32)), .val (.ref t), .val (.int b0), .val (.int b1), .val (.int b2), .val (.int b3), .val (.int b4), .val (.int b5), .val (.int b6), .unset, .unset, .unset, .unset, .unset] [(.int (6 : Int32))])
                  refine own_go (fun _ => XS.iconst Xs2.here hx rfl (hb hby at_139)) ?_
                  show own_R p.tables e below _ Ts2 (mkF m 140 #[.val (.int sz), .val (.int bits), .val (.int cnt), .val (.int (6 : Int32)), .val (.ref t), .val (.int b0), .val (.int b1), .val (.int b2), .val (.int b3), .val (.int b4), .val (.int b5), .val (.int b6), .unset, .unset, .unset, .unset, .unset] [(.int (3 : Int32)), (.int (6 : Int32))])
                  refine own_go (fun _ => XS.icmpNo Xs2.here hx rfl (hb hby at_140) rfl (tlt (by decide)).2.2.2) ?_
                  show own_R p.tables e below _ Ts2 (mkF m 143 #[.val (.int sz), .val (.int bits), .val (.int cnt), .val (.int (6 : Int32)), .val (.ref t), .val (.int b0), .val (.int b1), .val (.int b2), .val (.int b3), .val (.int b4), .val (.int b5), .val (.int b6), .unset, .unset, .unset, .unset, .unset] [])
                  refine own_go (fun _ => XS.aload Xs2.here hx rfl (hb hby at_143) rfl rfl) ?_
                  show own_R p.tables e below _ Ts2 (mkF m 145 #[.val (.int sz), .val (.int bits), .val (.int cnt), .val (.int (6 : Int32)), .val (.ref t), .val (.int b0), .val (.int b1), .val (.int b2), .val (.int b3), .val (.int b4), .val (.int b5), .val (.int b6), .unset, .unset, .unset, .unset, .unset] [(.ref t)])
                  refine own_go (fun _ => XS.iconst Xs2.here hx rfl (hb hby at_145)) ?_
                  show own_R p.tables e below _ Ts2 (mkF m 146 #[.val (.int sz), .val (.int bits), .val (.int cnt), .val (.int (6 : Int32)), .val (.ref t), .val (.int b0), .val (.int b1), .val (.int b2), .val (.int b3), .val (.int b4), .val (.int b5), .val (.int b6), .unset, .unset, .unset, .unset, .unset] [(.int (3 : Int32)), (.ref t)])
                  refine own_go (fun _ => XS.iload Xs2.here hx rfl (hb hby at_146) rfl ) ?_
                  show own_R p.tables e below _ Ts2 (mkF m 148 #[.val (.int sz), .val (.int bits), .val (.int cnt), .val (.int (6 : Int32)), .val (.ref t), .val (.int b0), .val (.int b1), .val (.int b2), .val (.int b3), .val (.int b4), .val (.int b5), .val (.int b6), .unset, .unset, .unset, .unset, .unset] [(.int b3), (.int (3 : Int32)), (.ref t)])
                  obtain ⟨Ts3, hs3, Xs3, es3, Ws3, Vs3, sts3⟩ := own_stZ Xs2 hx hZ es2 Vs2 (j := (3 : Int32)) ⟨by decide, by decide⟩ 3 rfl (Nat.le_of_ble_eq_true rfl) hb3 (g := (mkF m 148 #[.val (.int sz), .val (.int bits), .val (.int cnt), .val (.int (6 : Int32)), .val (.ref t), .val (.int b0), .val (.int b1), .val (.int b2), .val (.int b3), .val (.int b4), .val (.int b5), .val (.int b6), .unset, .unset, .unset, .unset, .unset] [(.int b3), (.int (3 : Int32)), (.ref t)])) rfl rfl (hb hby at_148)
                  have Ks3 : Keep h0 hs3 [] := Ks2.wr Ws3 (Or.inr q1)
                  have Ns3 := Fr.snoc Xs3 Ns2 g1a
                  refine own_go sts3 ?_
                  show own_R p.tables e below _ Ts3 (mkF m 149 #[.val (.int sz), .val (.int bits), .val (.int cnt), .val (.int (6 : Int32)), .val (.ref t), .val (.int b0), .val (.int b1), .val (.int b2), .val (.int b3), .val (.int b4), .val (.int b5), .val (.int b6), .unset, .unset, .unset, .unset, .unset] [])
                  refine own_go (fun _ => XS.iloadN Xs3.here hx rfl (hb hby at_149) rfl ) ?_
                  show own_R p.tables e below _ Ts3 (mkF m 150 #[.val (.int sz), .val (.int bits), .val (.int cnt), .val (.int (6 : Int32)), .val (.ref t), .val (.int b0), .val (.int b1), .val (.int b2), .val (.int b3), .val (.int b4), .val (.int b5), .val (.int b6), .unset, .unset, .unset, .unset, .unset] [(.int (6 : Int32))])
                  refine own_go (fun _ => XS.iconst Xs3.here hx rfl (hb hby at_150)) ?_
                  show own_R p.tables e below _ Ts3 (mkF m 151 #[.val (.int sz), .val (.int bits), .val (.int cnt), .val (.int (6 : Int32)), .val (.ref t), .val (.int b0), .val (.int b1), .val (.int b2), .val (.int b3), .val (.int b4), .val (.int b5), .val (.int b6), .unset, .unset, .unset, .unset, .unset] [(.int (4 : Int32)), (.int (6 : Int32))])
                  refine own_go (fun _ => XS.icmpNo Xs3.here hx rfl (hb hby at_151) rfl (tlt (by decide)).2.2.2) ?_
                  show own_R p.tables e below _ Ts3 (mkF m 154 #[.val (.int sz), .val (.int bits), .val (.int cnt), .val (.int (6 : Int32)), .val (.ref t), .val (.int b0), .val (.int b1), .val (.int b2), .val (.int b3), .val (.int b4), .val (.int b5), .val (.int b6), .unset, .unset, .unset, .unset, .unset] [])
                  refine own_go (fun _ => XS.aload Xs3.here hx rfl (hb hby at_154) rfl rfl) ?_
                  show own_R p.tables e below _ Ts3 (mkF m 156 #[.val (.int sz), .val (.int bits), .val (.int cnt), .val (.int (6 : Int32)), .val (.ref t), .val (.int b0), .val (.int b1), .val (.int b2), .val (.int b3), .val (.int b4), .val (.int b5), .val (.int b6), .unset, .unset, .unset, .unset, .unset] [(.ref t)])
                  refine own_go (fun _ => XS.iconst Xs3.here hx rfl (hb hby at_156)) ?_
                  show own_R p.tables e below _ Ts3 (mkF m 157 #[.val (.int sz), .val (.int bits), .val (.int cnt), .val (.int (6 : Int32)), .val (.ref t), .val (.int b0), .val (.int b1), .val (.int b2), .val (.int b3), .val (.int b4), .val (.int b5), .val (.int b6), .unset, .unset, .unset, .unset, .unset] [(.int (4 : Int32)), (.ref t)])
                  refine own_go (fun _ => XS.iload Xs3.here hx rfl (hb hby at_157) rfl ) ?_
                  show own_R p.tables e below _ Ts3 (mkF m 159 #[.val (.int sz), .val (.int bits), .val (.int cnt), .val (.int (6 : Int32)), .val (.ref t), .val (.int b0), .val (.int b1), .val (.int b2), .val (.int b3), .val (.int b4), .val (.int b5), .val (.int b6), .unset, .unset, .unset, .unset, .unset] [(.int b4), (.int (4 : Int32)), (.ref t)])
                  obtain ⟨Ts4, hs4, Xs4, es4, Ws4, Vs4, sts4⟩ := own_stZ Xs3 hx hZ es3 Vs3 (j := (4 : Int32)) ⟨by decide, by decide⟩ 4 rfl (Nat.le_of_ble_eq_true rfl) hb4 (g := (mkF m 159 #[.val (.int sz), .val (.int bits), .val (.int cnt), .val (.int (6 : Int32)), .val (.ref t), .val (.int b0), .val (.int b1), .val (.int b2), .val (.int b3), .val (.int b4), .val (.int b5), .val (.int b6), .unset, .unset, .unset, .unset, .unset] [(.int b4), (.int (4 : Int32)), (.ref t)])) rfl rfl (hb hby at_159)
                  have Ks4 : Keep h0 hs4 [] := Ks3.wr Ws4 (Or.inr q1)
                  have Ns4 := Fr.snoc Xs4 Ns3 g1a
                  refine own_go sts4 ?_
                  show own_R p.tables e below _ Ts4 (mkF m 160 #[.val (.int sz), .val (.int bits), .val (.int cnt), .val (.int (6 : Int32)), .val (.ref t), .val (.int b0), .val (.int b1), .val (.int b2), .val (.int b3), .val (.int b4), .val (.int b5), .val (.int b6), .unset, .unset, .unset, .unset, .unset] [])
                  refine own_go (fun _ => XS.iloadN Xs4.here hx rfl (hb hby at_160) rfl ) ?_
                  show own_R p.tables e below _ Ts4 (mkF m 161 #[.val (.int sz), .val (.int bits), .val (.int cnt), .val (.int (6 : Int32)), .val (.ref t), .val (.int b0), .val (.int b1), .val (.int b2), .val (.int b3), .val (.int b4), .val (.int b5), .val (.int b6), .unset, .unset, .unset, .unset, .unset] [(.int (6 : Int32))])
                  refine own_go (fun _ => XS.iconst Xs4.here hx rfl (hb hby at_161)) ?_
                  show own_R p.tables e below _ Ts4 (mkF m 162 #[.val (.int sz), .val (.int bits), .val (.int cnt), .val (.int (6 : Int32)), .val (.ref t), .val (.int b0), .val (.int b1), .val (.int b2), .val (.int b3), .val (.int b4), .val (.int b5), .val (.int b6), .unset, .unset, .unset, .unset, .unset] [(.int (5 : Int32)), (.int (6 : Int32))])
                  refine own_go (fun _ => XS.icmpNo Xs4.here hx rfl (hb hby at_162) rfl (tlt (by decide)).2.2.2) ?_
                  show own_R p.tables e below _ Ts4 (mkF m 165 #[.val (.int sz), .val (.int bits), .val (.int cnt), .val (.int (6 : Int32)), .val (.ref t), .val (.int b0), .val (.int b1), .val (.int b2), .val (.int b3), .val (.int b4), .val (.int b5), .val (.int b6), .unset, .unset, .unset, .unset, .unset] [])
                  refine own_go (fun _ => XS.aload Xs4.here hx rfl (hb hby at_165) rfl rfl) ?_
                  show own_R p.tables e below _ Ts4 (mkF m 167 #[.val (.int sz), .val (.int bits), .val (.int cnt), .val (.int (6 : Int32)), .val (.ref t), .val (.int b0), .val (.int b1), .val (.int b2), .val (.int b3), .val (.int b4), .val (.int b5), .val (.int b6), .unset, .unset, .unset, .unset, .unset] [(.ref t)])
                  refine own_go (fun _ => XS.iconst Xs4.here hx rfl (hb hby at_167)) ?_
                  show own_R p.tables e below _ Ts4 (mkF m 168 #[.val (.int sz), .val (.int bits), .val (.int cnt), .val (.int (6 : Int32)), .val (.ref t), .val (.int b0), .val (.int b1), .val (.int b2), .val (.int b3), .val (.int b4), .val (.int b5), .val (.int b6), .unset, .unset, .unset, .unset, .unset] [(.int (5 : Int32)), (.ref t)])
                  refine own_go (fun _ => XS.iload Xs4.here hx rfl (hb hby at_168) rfl ) ?_
                  show own_R p.tables e below _ Ts4 (mkF m 170 #[.val (.int sz), .val (.int bits), .val (.int cnt), .val (.int (6 : Int32)), .val (.ref t), .val (.int b0), .val (.int b1), .val (.int b2), .val (.int b3), .val (.int b4), .val (.int b5), .val (.int b6), .unset, .unset, .unset, .unset, .unset] [(.int b5), (.int (5 : Int32)), (.ref t)])
                  obtain ⟨Ts5, hs5, Xs5, es5, Ws5, Vs5, sts5⟩ := own_stZ Xs4 hx hZ es4 Vs4 (j := (5 : Int32)) ⟨by decide, by decide⟩ 5 rfl (Nat.le_of_ble_eq_true rfl) hb5 (g := (mkF m 170 #[.val (.int sz), .val (.int bits), .val (.int cnt), .val (.int (6 : Int32)), .val (.ref t), .val (.int b0), .val (.int b1), .val (.int b2), .val (.int b3), .val (.int b4), .val (.int b5), .val (.int b6), .unset, .unset, .unset, .unset, .unset] [(.int b5), (.int (5 : Int32)), (.ref t)])) rfl rfl (hb hby at_170)
                  have Ks5 : Keep h0 hs5 [] := Ks4.wr Ws5 (Or.inr q1)
                  have Ns5 := Fr.snoc Xs5 Ns4 g1a
                  refine own_go sts5 ?_
                  show own_R p.tables e below _ Ts5 (mkF m 171 #[.val (.int sz), .val (.int bits), .val (.int cnt), .val (.int (6 : Int32)), .val (.ref t), .val (.int b0), .val (.int b1), .val (.int b2), .val (.int b3), .val (.int b4), .val (.int b5), .val (.int b6), .unset, .unset, .unset, .unset, .unset] [])
                  refine own_go (fun _ => XS.iloadN Xs5.here hx rfl (hb hby at_171) rfl ) ?_
                  show own_R p.tables e below _ Ts5 (mkF m 172 #[.val (.int sz), .val (.int bits), .val (.int cnt), .val (.int (6 : Int32)), .val (.ref t), .val (.int b0), .val (.int b1), .val (.int b2), .val (.int b3), .val (.int b4), .val (.int b5), .val (.int b6), .unset, .unset, .unset, .unset, .unset] [(.int (6 : Int32))])
                  refine own_go (fun _ => XS.bipush Xs5.here hx rfl (hb hby at_172)) ?_
                  show own_R p.tables e below _ Ts5 (mkF m 174 #[.val (.int sz), .val (.int bits), .val (.int cnt), .val (.int (6 : Int32)), .val (.ref t), .val (.int b0), .val (.int b1), .val (.int b2), .val (.int b3), .val (.int b4), .val (.int b5), .val (.int b6), .unset, .unset, .unset, .unset, .unset] [(.int (6 : Int32)), (.int (6 : Int32))])
                  refine own_go (fun _ => XS.icmpYes Xs5.here hx rfl (pc0 := 174) (pc' := 184) rfl (hb hby at_174) rfl (flt (by decide)).2.2.2 (by decide) (by decide)) ?_
                  show own_R p.tables e below _ Ts5 (mkF m 184 #[.val (.int sz), .val (.int bits), .val (.int cnt), .val (.int (6 : Int32)), .val (.ref t), .val (.int b0), .val (.int b1), .val (.int b2), .val (.int b3), .val (.int b4), .val (.int b5), .val (.int b6), .unset, .unset, .unset, .unset, .unset] [])
                  obtain ⟨T3, h3, X3, e3, E3, A3, D3, -, st3⟩ := newO Xs5 hx hZ hown (hw _ (List.mem_of_getElem? (i := 5) rfl)) (hw _ (List.mem_of_getElem? (i := 6) rfl)) (hw _ (List.mem_of_getElem? (i := 7) rfl)) es5 (g := (mkF m 184 #[.val (.int sz), .val (.int bits), .val (.int cnt), .val (.int (6 : Int32)), .val (.ref t), .val (.int b0), .val (.int b1), .val (.int b2), .val (.int b3), .val (.int b4), .val (.int b5), .val (.int b6), .unset, .unset, .unset, .unset, .unset] [])) rfl (hb hby at_184) (by decide) (by decide)
                  obtain ⟨a3, g3⟩ : ∃ z, z = hs5.size := ⟨_, rfl⟩
                  rw [← g3] at A3 D3 st3
                  refine own_go st3 ?_
                  show own_R p.tables e below _ T3 (mkF m 187 #[.val (.int sz), .val (.int bits), .val (.int cnt), .val (.int (6 : Int32)), .val (.ref t), .val (.int b0), .val (.int b1), .val (.int b2), .val (.int b3), .val (.int b4), .val (.int b5), .val (.int b6), .unset, .unset, .unset, .unset, .unset] [(.ref a3)])
                  refine own_go (fun _ => XS.dup X3.here hx rfl (hb hby at_187) rfl rfl) ?_
                  show own_R p.tables e below _ T3 (mkF m 188 #[.val (.int sz), .val (.int bits), .val (.int cnt), .val (.int (6 : Int32)), .val (.ref t), .val (.int b0), .val (.int b1), .val (.int b2), .val (.int b3), .val (.int b4), .val (.int b5), .val (.int b6), .unset, .unset, .unset, .unset, .unset] [(.ref a3), (.ref a3)])
                  refine own_go (fun _ => XS.aload X3.here hx rfl (hb hby at_188) rfl rfl) ?_
                  show own_R p.tables e below _ T3 (mkF m 190 #[.val (.int sz), .val (.int bits), .val (.int cnt), .val (.int (6 : Int32)), .val (.ref t), .val (.int b0), .val (.int b1), .val (.int b2), .val (.int b3), .val (.int b4), .val (.int b5), .val (.int b6), .unset, .unset, .unset, .unset, .unset] [(.ref t), (.ref a3), (.ref a3)])
                  refine own_go (fun _ => XS.iloadN X3.here hx rfl (hb hby at_190) rfl ) ?_
                  show own_R p.tables e below _ T3 (mkF m 191 #[.val (.int sz), .val (.int bits), .val (.int cnt), .val (.int (6 : Int32)), .val (.ref t), .val (.int b0), .val (.int b1), .val (.int b2), .val (.int b3), .val (.int b4), .val (.int b5), .val (.int b6), .unset, .unset, .unset, .unset, .unset] [(.int cnt), (.ref t), (.ref a3), (.ref a3)])
                  have g3a : n0 ≤ a3 := Nat.le_trans Z0 (Nat.le_trans Ks5.1 (Nat.le_of_eq g3.symm))
                  have ne3 : t ≠ a3 := Nat.ne_of_lt (Nat.lt_of_lt_of_le Vs5.lt (Nat.le_of_eq g3.symm))
                  obtain ⟨v4, T4, L4, X4, Q4, st4⟩ := own_callI X3 hx hZ hown (y := (⟨"com/example/kookaburra/kookaburra/eval/Ranking", "<init>", "([ZI)V"⟩ : MethodName)) rfl (hw _ (List.mem_of_getElem? (i := 8) rfl)) (hw _ (List.mem_of_getElem? (i := 9) rfl)) (hw _ (List.mem_of_getElem? (i := 10) rfl)) (hw _ (List.mem_of_getElem? (i := 7) rfl)) (by decide) (rmInit l Z a0 hw [] h3 n0 a3 t cnt g3a A3 (D3 (Or.inr (hw _ (List.mem_of_getElem? (i := 15) rfl))) (ty := (.array .boolean)) (by decide)) (D3 (Or.inr (hw _ (List.mem_of_getElem? (i := 17) rfl))) (ty := .int) (by decide))) (W := 1) (g := (mkF m 191 #[.val (.int sz), .val (.int bits), .val (.int cnt), .val (.int (6 : Int32)), .val (.ref t), .val (.int b0), .val (.int b1), .val (.int b2), .val (.int b3), .val (.int b4), .val (.int b5), .val (.int b6), .unset, .unset, .unset, .unset, .unset] [(.int cnt), (.ref t), (.ref a3), (.ref a3)])) rfl (by rw [hml]; rfl) (a := a3) (argsL := [(.ref t), (.int cnt)]) (rest := [(.ref a3)]) (lenOf pd___ZI_V rfl) rfl rfl (by show 2 * 0 + _ ≤ _; exact Nat.le_of_eq rfl) (hb hby at_191) e3 (by decide) (by decide) (by decide) (by decide)
                  obtain ⟨rfl, N4q, K4, E4, F4a, F4b⟩ := Q4
                  have N4 := Fr.app Ns5 N4q
                  have V4 := (Vs5.ext E3).keep K4 (ninS ne3 nin0)
                  refine own_go st4 ?_
                  show own_R p.tables e below _ T4 (mkF m 194 #[.val (.int sz), .val (.int bits), .val (.int cnt), .val (.int (6 : Int32)), .val (.ref t), .val (.int b0), .val (.int b1), .val (.int b2), .val (.int b3), .val (.int b4), .val (.int b5), .val (.int b6), .unset, .unset, .unset, .unset, .unset] [(.ref a3)])
                  obtain ⟨v5, T5, L5, X5, Q5, st5⟩ := own_callV X4 hx hZ hown (y := (⟨"com/example/kookaburra/kookaburra/eval/Ranking", "reciprocalRank", "()D"⟩ : MethodName)) (hw _ (List.mem_of_getElem? (i := 18) rfl)) (hw _ (List.mem_of_getElem? (i := 19) rfl)) (hw _ (List.mem_of_getElem? (i := 21) rfl)) (hw _ (List.mem_of_getElem? (i := 20) rfl)) (hw _ (List.mem_of_getElem? (i := 22) rfl)) (hw _ (List.mem_of_getElem? (i := 7) rfl)) (by decide) (rmRR l Z a0 hw [] T4.heap n0 a3 t ([b0, b1, b2, b3, b4, b5] : List Int32) (Nat.le_of_ble_eq_true rfl) F4a V4) E4 (W := 0) (g := (mkF m 194 #[.val (.int sz), .val (.int bits), .val (.int cnt), .val (.int (6 : Int32)), .val (.ref t), .val (.int b0), .val (.int b1), .val (.int b2), .val (.int b3), .val (.int b4), .val (.int b5), .val (.int b6), .unset, .unset, .unset, .unset, .unset] [(.ref a3)])) rfl (by rw [hml]; rfl) (b := a3) (argsL := []) (rest := []) (lenOf pd___D rfl) rfl rfl (by show 2 * 0 + _ ≤ _; exact Nat.le_of_eq rfl) (hb hby at_194) rfl (by decide) (by decide) (by decide) (by decide)
                  obtain ⟨rfl, N5q, e5⟩ := Q5
                  have N5 := Fr.app N4 N5q
                  refine own_go st5 ?_
                  show own_R p.tables e below _ T5 (mkF m 197 #[.val (.int sz), .val (.int bits), .val (.int cnt), .val (.int (6 : Int32)), .val (.ref t), .val (.int b0), .val (.int b1), .val (.int b2), .val (.int b3), .val (.int b4), .val (.int b5), .val (.int b6), .unset, .unset, .unset, .unset, .unset] [(.double (own_rr [b0, b1, b2, b3, b4, b5] 1))])
                  obtain ⟨xx, hxx⟩ : ∃ z, own_rr [b0, b1, b2, b3, b4, b5] 1 = z := ⟨_, rfl⟩
                  rw [hxx]
                  show own_R p.tables e below _ T5 (mkF m 197 #[.val (.int sz), .val (.int bits), .val (.int cnt), .val (.int (6 : Int32)), .val (.ref t), .val (.int b0), .val (.int b1), .val (.int b2), .val (.int b3), .val (.int b4), .val (.int b5), .val (.int b6), .unset, .unset, .unset, .unset, .unset] [(.double xx)])
                  refine own_go (fun _ => XS.dstore X5.here hx rfl (hb hby at_197) rfl (l' := #[.val (.int sz), .val (.int bits), .val (.int cnt), .val (.int (6 : Int32)), .val (.ref t), .val (.int b0), .val (.int b1), .val (.int b2), .val (.int b3), .val (.int b4), .val (.int b5), .val (.int b6), .val (.double xx), .second, .unset, .unset, .unset]) rfl) ?_
                  refine own_go (fun _ => XS.iconst X5.here hx rfl (hb hby at_199)) ?_
                  refine own_go (fun _ => XS.istore X5.here hx rfl (hb hby at_200) rfl (l' := #[.val (.int sz), .val (.int bits), .val (.int cnt), .val (.int (6 : Int32)), .val (.ref t), .val (.int b0), .val (.int b1), .val (.int b2), .val (.int b3), .val (.int b4), .val (.int b5), .val (.int b6), .val (.double xx), .second, .val (.int (0 : Int32)), .unset, .unset]) rfl) ?_
                  show own_R p.tables e below _ T5 (mkF m 202 #[.val (.int sz), .val (.int bits), .val (.int cnt), .val (.int (6 : Int32)), .val (.ref t), .val (.int b0), .val (.int b1), .val (.int b2), .val (.int b3), .val (.int b4), .val (.int b5), .val (.int b6), .val (.double xx), .second, .val (.int (0 : Int32)), .unset, .unset] [])
                  have JT : ∀ f : Int32, xx = own_fx f → Jvm.Free.Fl.NoNaN64 (own_fx f) → own_R p.tables e below (own_E s below (own_Q0 n0) (room_1).cells (room_1).slots) T5 (mkF m 313 #[.val (.int sz), .val (.int bits), .val (.int cnt), .val (.int (6 : Int32)), .val (.ref t), .val (.int b0), .val (.int b1), .val (.int b2), .val (.int b3), .val (.int b4), .val (.int b5), .val (.int b6), .val (.double xx), .second, .val (.int f), .unset, .unset] []) := by
                    intro f hf hnn
                    show own_R p.tables e below _ T5 (mkF m 313 #[.val (.int sz), .val (.int bits), .val (.int cnt), .val (.int (6 : Int32)), .val (.ref t), .val (.int b0), .val (.int b1), .val (.int b2), .val (.int b3), .val (.int b4), .val (.int b5), .val (.int b6), .val (.double xx), .second, .val (.int f), .unset, .unset] [])
                    refine own_go (fun _ => XS.iload X5.here hx rfl (hb hby at_313) rfl ) ?_
                    show own_R p.tables e below _ T5 (mkF m 315 #[.val (.int sz), .val (.int bits), .val (.int cnt), .val (.int (6 : Int32)), .val (.ref t), .val (.int b0), .val (.int b1), .val (.int b2), .val (.int b3), .val (.int b4), .val (.int b5), .val (.int b6), .val (.double xx), .second, .val (.int f), .unset, .unset] [(.int f)])
                    by_cases hf0 : f = (0 : Int32)
                    · show own_R p.tables e below _ T5 (mkF m 315 #[.val (.int sz), .val (.int bits), .val (.int cnt), .val (.int (6 : Int32)), .val (.ref t), .val (.int b0), .val (.int b1), .val (.int b2), .val (.int b3), .val (.int b4), .val (.int b5), .val (.int b6), .val (.double xx), .second, .val (.int f), .unset, .unset] [(.int f)])
                      refine own_go (fun _ => XS.ifNo X5.here hx rfl (hb hby at_315) rfl ((if0 _ _).trans (teq hf0).2)) ?_
                      show own_R p.tables e below _ T5 (mkF m 318 #[.val (.int sz), .val (.int bits), .val (.int cnt), .val (.int (6 : Int32)), .val (.ref t), .val (.int b0), .val (.int b1), .val (.int b2), .val (.int b3), .val (.int b4), .val (.int b5), .val (.int b6), .val (.double xx), .second, .val (.int f), .unset, .unset] [])
                      have hfx : own_fx f = FP.dconst0 := if_pos hf0
                      rw [hfx] at hf hnn
                      show own_R p.tables e below _ T5 (mkF m 318 #[.val (.int sz), .val (.int bits), .val (.int cnt), .val (.int (6 : Int32)), .val (.ref t), .val (.int b0), .val (.int b1), .val (.int b2), .val (.int b3), .val (.int b4), .val (.int b5), .val (.int b6), .val (.double xx), .second, .val (.int f), .unset, .unset] [])
                      refine own_go (fun _ => XS.dconst0 X5.here hx rfl (hb hby at_318) rfl) ?_
                      refine own_go (fun _ => XS.goto X5.here hx rfl (pc0 := 319) (pc' := 327) rfl (hb hby at_319) (by decide) (by decide)) ?_
                      refine own_go (fun _ => XS.dstore X5.here hx rfl (hb hby at_327) rfl (l' := #[.val (.int sz), .val (.int bits), .val (.int cnt), .val (.int (6 : Int32)), .val (.ref t), .val (.int b0), .val (.int b1), .val (.int b2), .val (.int b3), .val (.int b4), .val (.int b5), .val (.int b6), .val (.double xx), .second, .val (.int f), .val (.double FP.dconst0), .second]) rfl) ?_
                      refine own_go (fun _ => XS.dload X5.here hx rfl (hb hby at_329) rfl ) ?_
                      show own_R p.tables e below _ T5 (mkF m 331 #[.val (.int sz), .val (.int bits), .val (.int cnt), .val (.int (6 : Int32)), .val (.ref t), .val (.int b0), .val (.int b1), .val (.int b2), .val (.int b3), .val (.int b4), .val (.int b5), .val (.int b6), .val (.double xx), .second, .val (.int f), .val (.double FP.dconst0), .second] [(.double xx)])
                      refine own_go (fun _ => XS.dload X5.here hx rfl (hb hby at_331) rfl ) ?_
                      refine own_go (fun _ => XS.dcmpS X5.here hx rfl (hb hby at_333) rfl rfl) ?_
                      show own_R p.tables e below _ T5 (mkF m 334 #[.val (.int sz), .val (.int bits), .val (.int cnt), .val (.int (6 : Int32)), .val (.ref t), .val (.int b0), .val (.int b1), .val (.int b2), .val (.int b3), .val (.int b4), .val (.int b5), .val (.int b6), .val (.double xx), .second, .val (.int f), .val (.double FP.dconst0), .second] [(.int (cmpValue (FP.dcmp xx FP.dconst0) .l))])
                      refine own_go (fun _ => XS.ifNo X5.here hx rfl (hb hby at_334) rfl ((if0 _ _).trans (teq (by rw [hf]; exact dcmpV_self hnn _)).2)) ?_
                      show own_R p.tables e below _ T5 (mkF m 337 #[.val (.int sz), .val (.int bits), .val (.int cnt), .val (.int (6 : Int32)), .val (.ref t), .val (.int b0), .val (.int b1), .val (.int b2), .val (.int b3), .val (.int b4), .val (.int b5), .val (.int b6), .val (.double xx), .second, .val (.int f), .val (.double FP.dconst0), .second] [])
                      refine own_go (fun _ => XS.iconst X5.here hx rfl (hb hby at_337)) ?_
                      refine own_go (fun _ => XS.goto X5.here hx rfl (pc0 := 338) (pc' := 342) rfl (hb hby at_338) (by decide) (by decide)) ?_
                      show own_R p.tables e below _ T5 (mkF m 342 #[.val (.int sz), .val (.int bits), .val (.int cnt), .val (.int (6 : Int32)), .val (.ref t), .val (.int b0), .val (.int b1), .val (.int b2), .val (.int b3), .val (.int b4), .val (.int b5), .val (.int b6), .val (.double xx), .second, .val (.int f), .val (.double FP.dconst0), .second] [(.int (1 : Int32))])
                      exact own_end X5 (some (.int (1 : Int32))) (fun h => by rw [hret] at h; cases h) hlk (fun fs hr => retN X5 hx (t := .boolean) hret (by simp) (hb hby at_342) hr) ⟨rfl, N5⟩ (by decide) (by decide)
                    · show own_R p.tables e below _ T5 (mkF m 315 #[.val (.int sz), .val (.int bits), .val (.int cnt), .val (.int (6 : Int32)), .val (.ref t), .val (.int b0), .val (.int b1), .val (.int b2), .val (.int b3), .val (.int b4), .val (.int b5), .val (.int b6), .val (.double xx), .second, .val (.int f), .unset, .unset] [(.int f)])
                      refine own_go (fun _ => XS.ifYes X5.here hx rfl (pc0 := 315) (pc' := 322) rfl (hb hby at_315) rfl ((if0 _ _).trans (feq hf0).2) (by decide) (by decide)) ?_
                      show own_R p.tables e below _ T5 (mkF m 322 #[.val (.int sz), .val (.int bits), .val (.int cnt), .val (.int (6 : Int32)), .val (.ref t), .val (.int b0), .val (.int b1), .val (.int b2), .val (.int b3), .val (.int b4), .val (.int b5), .val (.int b6), .val (.double xx), .second, .val (.int f), .unset, .unset] [])
                      have hfx : own_fx f = FP.ddiv FP.dconst1 (FP.i2d f) := if_neg hf0
                      rw [hfx] at hf hnn
                      show own_R p.tables e below _ T5 (mkF m 322 #[.val (.int sz), .val (.int bits), .val (.int cnt), .val (.int (6 : Int32)), .val (.ref t), .val (.int b0), .val (.int b1), .val (.int b2), .val (.int b3), .val (.int b4), .val (.int b5), .val (.int b6), .val (.double xx), .second, .val (.int f), .unset, .unset] [])
                      refine own_go (fun _ => XS.dconst1 X5.here hx rfl (hb hby at_322) rfl) ?_
                      refine own_go (fun _ => XS.iload X5.here hx rfl (hb hby at_323) rfl ) ?_
                      refine own_go (fun _ => XS.i2dS X5.here hx rfl (hb hby at_325) rfl rfl) ?_
                      refine own_go (fun _ => XS.ddivS X5.here hx rfl (hb hby at_326) rfl hnn rfl) ?_
                      show own_R p.tables e below _ T5 (mkF m 327 #[.val (.int sz), .val (.int bits), .val (.int cnt), .val (.int (6 : Int32)), .val (.ref t), .val (.int b0), .val (.int b1), .val (.int b2), .val (.int b3), .val (.int b4), .val (.int b5), .val (.int b6), .val (.double xx), .second, .val (.int f), .unset, .unset] [(.double (FP.ddiv FP.dconst1 (FP.i2d f)))])
                      refine own_go (fun _ => XS.dstore X5.here hx rfl (hb hby at_327) rfl (l' := #[.val (.int sz), .val (.int bits), .val (.int cnt), .val (.int (6 : Int32)), .val (.ref t), .val (.int b0), .val (.int b1), .val (.int b2), .val (.int b3), .val (.int b4), .val (.int b5), .val (.int b6), .val (.double xx), .second, .val (.int f), .val (.double (FP.ddiv FP.dconst1 (FP.i2d f))), .second]) rfl) ?_
                      refine own_go (fun _ => XS.dload X5.here hx rfl (hb hby at_329) rfl ) ?_
                      refine own_go (fun _ => XS.dload X5.here hx rfl (hb hby at_331) rfl ) ?_
                      refine own_go (fun _ => XS.dcmpS X5.here hx rfl (hb hby at_333) rfl rfl) ?_
                      show own_R p.tables e below _ T5 (mkF m 334 #[.val (.int sz), .val (.int bits), .val (.int cnt), .val (.int (6 : Int32)), .val (.ref t), .val (.int b0), .val (.int b1), .val (.int b2), .val (.int b3), .val (.int b4), .val (.int b5), .val (.int b6), .val (.double xx), .second, .val (.int f), .val (.double (FP.ddiv FP.dconst1 (FP.i2d f))), .second] [(.int (cmpValue (FP.dcmp xx (FP.ddiv FP.dconst1 (FP.i2d f))) .l))])
                      refine own_go (fun _ => XS.ifNo X5.here hx rfl (hb hby at_334) rfl ((if0 _ _).trans (teq (by rw [hf]; exact dcmpV_self hnn _)).2)) ?_
                      show own_R p.tables e below _ T5 (mkF m 337 #[.val (.int sz), .val (.int bits), .val (.int cnt), .val (.int (6 : Int32)), .val (.ref t), .val (.int b0), .val (.int b1), .val (.int b2), .val (.int b3), .val (.int b4), .val (.int b5), .val (.int b6), .val (.double xx), .second, .val (.int f), .val (.double (FP.ddiv FP.dconst1 (FP.i2d f))), .second] [])
                      refine own_go (fun _ => XS.iconst X5.here hx rfl (hb hby at_337)) ?_
                      refine own_go (fun _ => XS.goto X5.here hx rfl (pc0 := 338) (pc' := 342) rfl (hb hby at_338) (by decide) (by decide)) ?_
                      show own_R p.tables e below _ T5 (mkF m 342 #[.val (.int sz), .val (.int bits), .val (.int cnt), .val (.int (6 : Int32)), .val (.ref t), .val (.int b0), .val (.int b1), .val (.int b2), .val (.int b3), .val (.int b4), .val (.int b5), .val (.int b6), .val (.double xx), .second, .val (.int f), .val (.double (FP.ddiv FP.dconst1 (FP.i2d f))), .second] [(.int (1 : Int32))])
                      exact own_end X5 (some (.int (1 : Int32))) (fun h => by rw [hret] at h; cases h) hlk (fun fs hr => retN X5 hx (t := .boolean) hret (by simp) (hb hby at_342) hr) ⟨rfl, N5⟩ (by decide) (by decide)
                  refine own_go (fun _ => XS.iloadN X5.here hx rfl (hb hby at_202) rfl ) ?_
                  show own_R p.tables e below _ T5 (mkF m 203 #[.val (.int sz), .val (.int bits), .val (.int cnt), .val (.int (6 : Int32)), .val (.ref t), .val (.int b0), .val (.int b1), .val (.int b2), .val (.int b3), .val (.int b4), .val (.int b5), .val (.int b6), .val (.double xx), .second, .val (.int (0 : Int32)), .unset, .unset] [(.int (6 : Int32))])
                  refine own_go (fun _ => XS.ifNo X5.here hx rfl (hb hby at_203) rfl ((if0 _ _).trans (tlt (by decide)).2.2.2)) ?_
                  show own_R p.tables e below _ T5 (mkF m 206 #[.val (.int sz), .val (.int bits), .val (.int cnt), .val (.int (6 : Int32)), .val (.ref t), .val (.int b0), .val (.int b1), .val (.int b2), .val (.int b3), .val (.int b4), .val (.int b5), .val (.int b6), .val (.double xx), .second, .val (.int (0 : Int32)), .unset, .unset] [])
                  refine own_go (fun _ => XS.iload X5.here hx rfl (hb hby at_206) rfl ) ?_
                  show own_R p.tables e below _ T5 (mkF m 208 #[.val (.int sz), .val (.int bits), .val (.int cnt), .val (.int (6 : Int32)), .val (.ref t), .val (.int b0), .val (.int b1), .val (.int b2), .val (.int b3), .val (.int b4), .val (.int b5), .val (.int b6), .val (.double xx), .second, .val (.int (0 : Int32)), .unset, .unset] [(.int b0)])
                  by_cases k0 : b0 = (0 : Int32)
                  · show own_R p.tables e below _ T5 (mkF m 208 #[.val (.int sz), .val (.int bits), .val (.int cnt), .val (.int (6 : Int32)), .val (.ref t), .val (.int b0), .val (.int b1), .val (.int b2), .val (.int b3), .val (.int b4), .val (.int b5), .val (.int b6), .val (.double xx), .second, .val (.int (0 : Int32)), .unset, .unset] [(.int b0)])
                    refine own_go (fun _ => XS.ifYes X5.here hx rfl (pc0 := 208) (pc' := 217) rfl (hb hby at_208) rfl ((if0 _ _).trans (teq k0).1) (by decide) (by decide)) ?_
                    show own_R p.tables e below _ T5 (mkF m 217 #[.val (.int sz), .val (.int bits), .val (.int cnt), .val (.int (6 : Int32)), .val (.ref t), .val (.int b0), .val (.int b1), .val (.int b2), .val (.int b3), .val (.int b4), .val (.int b5), .val (.int b6), .val (.double xx), .second, .val (.int (0 : Int32)), .unset, .unset] [])
                    refine own_go (fun _ => XS.iloadN X5.here hx rfl (hb hby at_217) rfl ) ?_
                    show own_R p.tables e below _ T5 (mkF m 218 #[.val (.int sz), .val (.int bits), .val (.int cnt), .val (.int (6 : Int32)), .val (.ref t), .val (.int b0), .val (.int b1), .val (.int b2), .val (.int b3), .val (.int b4), .val (.int b5), .val (.int b6), .val (.double xx), .second, .val (.int (0 : Int32)), .unset, .unset] [(.int (6 : Int32))])
                    refine own_go (fun _ => XS.iconst X5.here hx rfl (hb hby at_218)) ?_
                    show own_R p.tables e below _ T5 (mkF m 219 #[.val (.int sz), .val (.int bits), .val (.int cnt), .val (.int (6 : Int32)), .val (.ref t), .val (.int b0), .val (.int b1), .val (.int b2), .val (.int b3), .val (.int b4), .val (.int b5), .val (.int b6), .val (.double xx), .second, .val (.int (0 : Int32)), .unset, .unset] [(.int (1 : Int32)), (.int (6 : Int32))])
                    refine own_go (fun _ => XS.icmpNo X5.here hx rfl (hb hby at_219) rfl (tlt (by decide)).2.2.2) ?_
                    show own_R p.tables e below _ T5 (mkF m 222 #[.val (.int sz), .val (.int bits), .val (.int cnt), .val (.int (6 : Int32)), .val (.ref t), .val (.int b0), .val (.int b1), .val (.int b2), .val (.int b3), .val (.int b4), .val (.int b5), .val (.int b6), .val (.double xx), .second, .val (.int (0 : Int32)), .unset, .unset] [])
                    refine own_go (fun _ => XS.iload X5.here hx rfl (hb hby at_222) rfl ) ?_
                    show own_R p.tables e below _ T5 (mkF m 224 #[.val (.int sz), .val (.int bits), .val (.int cnt), .val (.int (6 : Int32)), .val (.ref t), .val (.int b0), .val (.int b1), .val (.int b2), .val (.int b3), .val (.int b4), .val (.int b5), .val (.int b6), .val (.double xx), .second, .val (.int (0 : Int32)), .unset, .unset] [(.int b1)])
                    by_cases k1 : b1 = (0 : Int32)
                    · show own_R p.tables e below _ T5 (mkF m 224 #[.val (.int sz), .val (.int bits), .val (.int cnt), .val (.int (6 : Int32)), .val (.ref t), .val (.int b0), .val (.int b1), .val (.int b2), .val (.int b3), .val (.int b4), .val (.int b5), .val (.int b6), .val (.double xx), .second, .val (.int (0 : Int32)), .unset, .unset] [(.int b1)])
                      refine own_go (fun _ => XS.ifYes X5.here hx rfl (pc0 := 224) (pc' := 233) rfl (hb hby at_224) rfl ((if0 _ _).trans (teq k1).1) (by decide) (by decide)) ?_
                      show own_R p.tables e below _ T5 (mkF m 233 #[.val (.int sz), .val (.int bits), .val (.int cnt), .val (.int (6 : Int32)), .val (.ref t), .val (.int b0), .val (.int b1), .val (.int b2), .val (.int b3), .val (.int b4), .val (.int b5), .val (.int b6), .val (.double xx), .second, .val (.int (0 : Int32)), .unset, .unset] [])
                      refine own_go (fun _ => XS.iloadN X5.here hx rfl (hb hby at_233) rfl ) ?_
                      show own_R p.tables e below _ T5 (mkF m 234 #[.val (.int sz), .val (.int bits), .val (.int cnt), .val (.int (6 : Int32)), .val (.ref t), .val (.int b0), .val (.int b1), .val (.int b2), .val (.int b3), .val (.int b4), .val (.int b5), .val (.int b6), .val (.double xx), .second, .val (.int (0 : Int32)), .unset, .unset] [(.int (6 : Int32))])
                      refine own_go (fun _ => XS.iconst X5.here hx rfl (hb hby at_234)) ?_
                      show own_R p.tables e below _ T5 (mkF m 235 #[.val (.int sz), .val (.int bits), .val (.int cnt), .val (.int (6 : Int32)), .val (.ref t), .val (.int b0), .val (.int b1), .val (.int b2), .val (.int b3), .val (.int b4), .val (.int b5), .val (.int b6), .val (.double xx), .second, .val (.int (0 : Int32)), .unset, .unset] [(.int (2 : Int32)), (.int (6 : Int32))])
                      refine own_go (fun _ => XS.icmpNo X5.here hx rfl (hb hby at_235) rfl (tlt (by decide)).2.2.2) ?_
                      show own_R p.tables e below _ T5 (mkF m 238 #[.val (.int sz), .val (.int bits), .val (.int cnt), .val (.int (6 : Int32)), .val (.ref t), .val (.int b0), .val (.int b1), .val (.int b2), .val (.int b3), .val (.int b4), .val (.int b5), .val (.int b6), .val (.double xx), .second, .val (.int (0 : Int32)), .unset, .unset] [])
                      refine own_go (fun _ => XS.iload X5.here hx rfl (hb hby at_238) rfl ) ?_
                      show own_R p.tables e below _ T5 (mkF m 240 #[.val (.int sz), .val (.int bits), .val (.int cnt), .val (.int (6 : Int32)), .val (.ref t), .val (.int b0), .val (.int b1), .val (.int b2), .val (.int b3), .val (.int b4), .val (.int b5), .val (.int b6), .val (.double xx), .second, .val (.int (0 : Int32)), .unset, .unset] [(.int b2)])
                      by_cases k2 : b2 = (0 : Int32)
                      · show own_R p.tables e below _ T5 (mkF m 240 #[.val (.int sz), .val (.int bits), .val (.int cnt), .val (.int (6 : Int32)), .val (.ref t), .val (.int b0), .val (.int b1), .val (.int b2), .val (.int b3), .val (.int b4), .val (.int b5), .val (.int b6), .val (.double xx), .second, .val (.int (0 : Int32)), .unset, .unset] [(.int b2)])
                        refine own_go (fun _ => XS.ifYes X5.here hx rfl (pc0 := 240) (pc' := 249) rfl (hb hby at_240) rfl ((if0 _ _).trans (teq k2).1) (by decide) (by decide)) ?_
                        show own_R p.tables e below _ T5 (mkF m 249 #[.val (.int sz), .val (.int bits), .val (.int cnt), .val (.int (6 : Int32)), .val (.ref t), .val (.int b0), .val (.int b1), .val (.int b2), .val (.int b3), .val (.int b4), .val (.int b5), .val (.int b6), .val (.double xx), .second, .val (.int (0 : Int32)), .unset, .unset] [])
                        refine own_go (fun _ => XS.iloadN X5.here hx rfl (hb hby at_249) rfl ) ?_
                        show own_R p.tables e below _ T5 (mkF m 250 #[.val (.int sz), .val (.int bits), .val (.int cnt), .val (.int (6 : Int32)), .val (.ref t), .val (.int b0), .val (.int b1), .val (.int b2), .val (.int b3), .val (.int b4), .val (.int b5), .val (.int b6), .val (.double xx), .second, .val (.int (0 : Int32)), .unset, .unset] [(.int (6 : Int32))])
                        refine own_go (fun _ => XS.iconst X5.here hx rfl (hb hby at_250)) ?_
                        show own_R p.tables e below _ T5 (mkF m 251 #[.val (.int sz), .val (.int bits), .val (.int cnt), .val (.int (6 : Int32)), .val (.ref t), .val (.int b0), .val (.int b1), .val (.int b2), .val (.int b3), .val (.int b4), .val (.int b5), .val (.int b6), .val (.double xx), .second, .val (.int (0 : Int32)), .unset, .unset] [(.int (3 : Int32)), (.int (6 : Int32))])
                        refine own_go (fun _ => XS.icmpNo X5.here hx rfl (hb hby at_251) rfl (tlt (by decide)).2.2.2) ?_
                        show own_R p.tables e below _ T5 (mkF m 254 #[.val (.int sz), .val (.int bits), .val (.int cnt), .val (.int (6 : Int32)), .val (.ref t), .val (.int b0), .val (.int b1), .val (.int b2), .val (.int b3), .val (.int b4), .val (.int b5), .val (.int b6), .val (.double xx), .second, .val (.int (0 : Int32)), .unset, .unset] [])
                        refine own_go (fun _ => XS.iload X5.here hx rfl (hb hby at_254) rfl ) ?_
                        show own_R p.tables e below _ T5 (mkF m 256 #[.val (.int sz), .val (.int bits), .val (.int cnt), .val (.int (6 : Int32)), .val (.ref t), .val (.int b0), .val (.int b1), .val (.int b2), .val (.int b3), .val (.int b4), .val (.int b5), .val (.int b6), .val (.double xx), .second, .val (.int (0 : Int32)), .unset, .unset] [(.int b3)])
                        by_cases k3 : b3 = (0 : Int32)
                        · show own_R p.tables e below _ T5 (mkF m 256 #[.val (.int sz), .val (.int bits), .val (.int cnt), .val (.int (6 : Int32)), .val (.ref t), .val (.int b0), .val (.int b1), .val (.int b2), .val (.int b3), .val (.int b4), .val (.int b5), .val (.int b6), .val (.double xx), .second, .val (.int (0 : Int32)), .unset, .unset] [(.int b3)])
                          refine own_go (fun _ => XS.ifYes X5.here hx rfl (pc0 := 256) (pc' := 265) rfl (hb hby at_256) rfl ((if0 _ _).trans (teq k3).1) (by decide) (by decide)) ?_
                          show own_R p.tables e below _ T5 (mkF m 265 #[.val (.int sz), .val (.int bits), .val (.int cnt), .val (.int (6 : Int32)), .val (.ref t), .val (.int b0), .val (.int b1), .val (.int b2), .val (.int b3), .val (.int b4), .val (.int b5), .val (.int b6), .val (.double xx), .second, .val (.int (0 : Int32)), .unset, .unset] [])
                          refine own_go (fun _ => XS.iloadN X5.here hx rfl (hb hby at_265) rfl ) ?_
                          show own_R p.tables e below _ T5 (mkF m 266 #[.val (.int sz), .val (.int bits), .val (.int cnt), .val (.int (6 : Int32)), .val (.ref t), .val (.int b0), .val (.int b1), .val (.int b2), .val (.int b3), .val (.int b4), .val (.int b5), .val (.int b6), .val (.double xx), .second, .val (.int (0 : Int32)), .unset, .unset] [(.int (6 : Int32))])
                          refine own_go (fun _ => XS.iconst X5.here hx rfl (hb hby at_266)) ?_
                          show own_R p.tables e below _ T5 (mkF m 267 #[.val (.int sz), .val (.int bits), .val (.int cnt), .val (.int (6 : Int32)), .val (.ref t), .val (.int b0), .val (.int b1), .val (.int b2), .val (.int b3), .val (.int b4), .val (.int b5), .val (.int b6), .val (.double xx), .second, .val (.int (0 : Int32)), .unset, .unset] [(.int (4 : Int32)), (.int (6 : Int32))])
                          refine own_go (fun _ => XS.icmpNo X5.here hx rfl (hb hby at_267) rfl (tlt (by decide)).2.2.2) ?_
                          show own_R p.tables e below _ T5 (mkF m 270 #[.val (.int sz), .val (.int bits), .val (.int cnt), .val (.int (6 : Int32)), .val (.ref t), .val (.int b0), .val (.int b1), .val (.int b2), .val (.int b3), .val (.int b4), .val (.int b5), .val (.int b6), .val (.double xx), .second, .val (.int (0 : Int32)), .unset, .unset] [])
                          refine own_go (fun _ => XS.iload X5.here hx rfl (hb hby at_270) rfl ) ?_
                          show own_R p.tables e below _ T5 (mkF m 272 #[.val (.int sz), .val (.int bits), .val (.int cnt), .val (.int (6 : Int32)), .val (.ref t), .val (.int b0), .val (.int b1), .val (.int b2), .val (.int b3), .val (.int b4), .val (.int b5), .val (.int b6), .val (.double xx), .second, .val (.int (0 : Int32)), .unset, .unset] [(.int b4)])
                          by_cases k4 : b4 = (0 : Int32)
                          · show own_R p.tables e below _ T5 (mkF m 272 #[.val (.int sz), .val (.int bits), .val (.int cnt), .val (.int (6 : Int32)), .val (.ref t), .val (.int b0), .val (.int b1), .val (.int b2), .val (.int b3), .val (.int b4), .val (.int b5), .val (.int b6), .val (.double xx), .second, .val (.int (0 : Int32)), .unset, .unset] [(.int b4)])
                            refine own_go (fun _ => XS.ifYes X5.here hx rfl (pc0 := 272) (pc' := 281) rfl (hb hby at_272) rfl ((if0 _ _).trans (teq k4).1) (by decide) (by decide)) ?_
                            show own_R p.tables e below _ T5 (mkF m 281 #[.val (.int sz), .val (.int bits), .val (.int cnt), .val (.int (6 : Int32)), .val (.ref t), .val (.int b0), .val (.int b1), .val (.int b2), .val (.int b3), .val (.int b4), .val (.int b5), .val (.int b6), .val (.double xx), .second, .val (.int (0 : Int32)), .unset, .unset] [])
                            refine own_go (fun _ => XS.iloadN X5.here hx rfl (hb hby at_281) rfl ) ?_
                            show own_R p.tables e below _ T5 (mkF m 282 #[.val (.int sz), .val (.int bits), .val (.int cnt), .val (.int (6 : Int32)), .val (.ref t), .val (.int b0), .val (.int b1), .val (.int b2), .val (.int b3), .val (.int b4), .val (.int b5), .val (.int b6), .val (.double xx), .second, .val (.int (0 : Int32)), .unset, .unset] [(.int (6 : Int32))])
                            refine own_go (fun _ => XS.iconst X5.here hx rfl (hb hby at_282)) ?_
                            show own_R p.tables e below _ T5 (mkF m 283 #[.val (.int sz), .val (.int bits), .val (.int cnt), .val (.int (6 : Int32)), .val (.ref t), .val (.int b0), .val (.int b1), .val (.int b2), .val (.int b3), .val (.int b4), .val (.int b5), .val (.int b6), .val (.double xx), .second, .val (.int (0 : Int32)), .unset, .unset] [(.int (5 : Int32)), (.int (6 : Int32))])
                            refine own_go (fun _ => XS.icmpNo X5.here hx rfl (hb hby at_283) rfl (tlt (by decide)).2.2.2) ?_
                            show own_R p.tables e below _ T5 (mkF m 286 #[.val (.int sz), .val (.int bits), .val (.int cnt), .val (.int (6 : Int32)), .val (.ref t), .val (.int b0), .val (.int b1), .val (.int b2), .val (.int b3), .val (.int b4), .val (.int b5), .val (.int b6), .val (.double xx), .second, .val (.int (0 : Int32)), .unset, .unset] [])
                            refine own_go (fun _ => XS.iload X5.here hx rfl (hb hby at_286) rfl ) ?_
                            show own_R p.tables e below _ T5 (mkF m 288 #[.val (.int sz), .val (.int bits), .val (.int cnt), .val (.int (6 : Int32)), .val (.ref t), .val (.int b0), .val (.int b1), .val (.int b2), .val (.int b3), .val (.int b4), .val (.int b5), .val (.int b6), .val (.double xx), .second, .val (.int (0 : Int32)), .unset, .unset] [(.int b5)])
                            by_cases k5 : b5 = (0 : Int32)
                            · show own_R p.tables e below _ T5 (mkF m 288 #[.val (.int sz), .val (.int bits), .val (.int cnt), .val (.int (6 : Int32)), .val (.ref t), .val (.int b0), .val (.int b1), .val (.int b2), .val (.int b3), .val (.int b4), .val (.int b5), .val (.int b6), .val (.double xx), .second, .val (.int (0 : Int32)), .unset, .unset] [(.int b5)])
                              refine own_go (fun _ => XS.ifYes X5.here hx rfl (pc0 := 288) (pc' := 298) rfl (hb hby at_288) rfl ((if0 _ _).trans (teq k5).1) (by decide) (by decide)) ?_
                              show own_R p.tables e below _ T5 (mkF m 298 #[.val (.int sz), .val (.int bits), .val (.int cnt), .val (.int (6 : Int32)), .val (.ref t), .val (.int b0), .val (.int b1), .val (.int b2), .val (.int b3), .val (.int b4), .val (.int b5), .val (.int b6), .val (.double xx), .second, .val (.int (0 : Int32)), .unset, .unset] [])
                              refine own_go (fun _ => XS.iloadN X5.here hx rfl (hb hby at_298) rfl ) ?_
                              show own_R p.tables e below _ T5 (mkF m 299 #[.val (.int sz), .val (.int bits), .val (.int cnt), .val (.int (6 : Int32)), .val (.ref t), .val (.int b0), .val (.int b1), .val (.int b2), .val (.int b3), .val (.int b4), .val (.int b5), .val (.int b6), .val (.double xx), .second, .val (.int (0 : Int32)), .unset, .unset] [(.int (6 : Int32))])
                              refine own_go (fun _ => XS.bipush X5.here hx rfl (hb hby at_299)) ?_
                              show own_R p.tables e below _ T5 (mkF m 301 #[.val (.int sz), .val (.int bits), .val (.int cnt), .val (.int (6 : Int32)), .val (.ref t), .val (.int b0), .val (.int b1), .val (.int b2), .val (.int b3), .val (.int b4), .val (.int b5), .val (.int b6), .val (.double xx), .second, .val (.int (0 : Int32)), .unset, .unset] [(.int (6 : Int32)), (.int (6 : Int32))])
                              refine own_go (fun _ => XS.icmpYes X5.here hx rfl (pc0 := 301) (pc' := 313) rfl (hb hby at_301) rfl (flt (by decide)).2.2.2 (by decide) (by decide)) ?_
                              show own_R p.tables e below _ T5 (mkF m 313 #[.val (.int sz), .val (.int bits), .val (.int cnt), .val (.int (6 : Int32)), .val (.ref t), .val (.int b0), .val (.int b1), .val (.int b2), .val (.int b3), .val (.int b4), .val (.int b5), .val (.int b6), .val (.double xx), .second, .val (.int (0 : Int32)), .unset, .unset] [])
                              exact JT 0 (hxx.symm.trans (by simp [own_rr, own_fx, k0, k1, k2, k3, k4, k5])) (own_fn 0)
                            · show own_R p.tables e below _ T5 (mkF m 288 #[.val (.int sz), .val (.int bits), .val (.int cnt), .val (.int (6 : Int32)), .val (.ref t), .val (.int b0), .val (.int b1), .val (.int b2), .val (.int b3), .val (.int b4), .val (.int b5), .val (.int b6), .val (.double xx), .second, .val (.int (0 : Int32)), .unset, .unset] [(.int b5)])
                              refine own_go (fun _ => XS.ifNo X5.here hx rfl (hb hby at_288) rfl ((if0 _ _).trans (feq k5).1)) ?_
                              show own_R p.tables e below _ T5 (mkF m 291 #[.val (.int sz), .val (.int bits), .val (.int cnt), .val (.int (6 : Int32)), .val (.ref t), .val (.int b0), .val (.int b1), .val (.int b2), .val (.int b3), .val (.int b4), .val (.int b5), .val (.int b6), .val (.double xx), .second, .val (.int (0 : Int32)), .unset, .unset] [])
                              refine own_go (fun _ => XS.bipush X5.here hx rfl (hb hby at_291)) ?_
                              refine own_go (fun _ => XS.istore X5.here hx rfl (hb hby at_293) rfl (l' := #[.val (.int sz), .val (.int bits), .val (.int cnt), .val (.int (6 : Int32)), .val (.ref t), .val (.int b0), .val (.int b1), .val (.int b2), .val (.int b3), .val (.int b4), .val (.int b5), .val (.int b6), .val (.double xx), .second, .val (.int (6 : Int32)), .unset, .unset]) rfl) ?_
                              refine own_go (fun _ => XS.goto X5.here hx rfl (pc0 := 295) (pc' := 313) rfl (hb hby at_295) (by decide) (by decide)) ?_
                              show own_R p.tables e below _ T5 (mkF m 313 #[.val (.int sz), .val (.int bits), .val (.int cnt), .val (.int (6 : Int32)), .val (.ref t), .val (.int b0), .val (.int b1), .val (.int b2), .val (.int b3), .val (.int b4), .val (.int b5), .val (.int b6), .val (.double xx), .second, .val (.int (6 : Int32)), .unset, .unset] [])
                              exact JT 6 (hxx.symm.trans (by simp [own_rr, own_fx, k0, k1, k2, k3, k4, k5])) (own_fn 6)
                          · show own_R p.tables e below _ T5 (mkF m 272 #[.val (.int sz), .val (.int bits), .val (.int cnt), .val (.int (6 : Int32)), .val (.ref t), .val (.int b0), .val (.int b1), .val (.int b2), .val (.int b3), .val (.int b4), .val (.int b5), .val (.int b6), .val (.double xx), .second, .val (.int (0 : Int32)), .unset, .unset] [(.int b4)])
                            refine own_go (fun _ => XS.ifNo X5.here hx rfl (hb hby at_272) rfl ((if0 _ _).trans (feq k4).1)) ?_
                            show own_R p.tables e below _ T5 (mkF m 275 #[.val (.int sz), .val (.int bits), .val (.int cnt), .val (.int (6 : Int32)), .val (.ref t), .val (.int b0), .val (.int b1), .val (.int b2), .val (.int b3), .val (.int b4), .val (.int b5), .val (.int b6), .val (.double xx), .second, .val (.int (0 : Int32)), .unset, .unset] [])
                            refine own_go (fun _ => XS.iconst X5.here hx rfl (hb hby at_275)) ?_
                            refine own_go (fun _ => XS.istore X5.here hx rfl (hb hby at_276) rfl (l' := #[.val (.int sz), .val (.int bits), .val (.int cnt), .val (.int (6 : Int32)), .val (.ref t), .val (.int b0), .val (.int b1), .val (.int b2), .val (.int b3), .val (.int b4), .val (.int b5), .val (.int b6), .val (.double xx), .second, .val (.int (5 : Int32)), .unset, .unset]) rfl) ?_
                            refine own_go (fun _ => XS.goto X5.here hx rfl (pc0 := 278) (pc' := 313) rfl (hb hby at_278) (by decide) (by decide)) ?_
                            show own_R p.tables e below _ T5 (mkF m 313 #[.val (.int sz), .val (.int bits), .val (.int cnt), .val (.int (6 : Int32)), .val (.ref t), .val (.int b0), .val (.int b1), .val (.int b2), .val (.int b3), .val (.int b4), .val (.int b5), .val (.int b6), .val (.double xx), .second, .val (.int (5 : Int32)), .unset, .unset] [])
                            exact JT 5 (hxx.symm.trans (by simp [own_rr, own_fx, k0, k1, k2, k3, k4])) (own_fn 5)
                        · show own_R p.tables e below _ T5 (mkF m 256 #[.val (.int sz), .val (.int bits), .val (.int cnt), .val (.int (6 : Int32)), .val (.ref t), .val (.int b0), .val (.int b1), .val (.int b2), .val (.int b3), .val (.int b4), .val (.int b5), .val (.int b6), .val (.double xx), .second, .val (.int (0 : Int32)), .unset, .unset] [(.int b3)])
                          refine own_go (fun _ => XS.ifNo X5.here hx rfl (hb hby at_256) rfl ((if0 _ _).trans (feq k3).1)) ?_
                          show own_R p.tables e below _ T5 (mkF m 259 #[.val (.int sz), .val (.int bits), .val (.int cnt), .val (.int (6 : Int32)), .val (.ref t), .val (.int b0), .val (.int b1), .val (.int b2), .val (.int b3), .val (.int b4), .val (.int b5), .val (.int b6), .val (.double xx), .second, .val (.int (0 : Int32)), .unset, .unset] [])
                          refine own_go (fun _ => XS.iconst X5.here hx rfl (hb hby at_259)) ?_
                          refine own_go (fun _ => XS.istore X5.here hx rfl (hb hby at_260) rfl (l' := #[.val (.int sz), .val (.int bits), .val (.int cnt), .val (.int (6 : Int32)), .val (.ref t), .val (.int b0), .val (.int b1), .val (.int b2), .val (.int b3), .val (.int b4), .val (.int b5), .val (.int b6), .val (.double xx), .second, .val (.int (4 : Int32)), .unset, .unset]) rfl) ?_
                          refine own_go (fun _ => XS.goto X5.here hx rfl (pc0 := 262) (pc' := 313) rfl (hb hby at_262) (by decide) (by decide)) ?_
                          show own_R p.tables e below _ T5 (mkF m 313 #[.val (.int sz), .val (.int bits), .val (.int cnt), .val (.int (6 : Int32)), .val (.ref t), .val (.int b0), .val (.int b1), .val (.int b2), .val (.int b3), .val (.int b4), .val (.int b5), .val (.int b6), .val (.double xx), .second, .val (.int (4 : Int32)), .unset, .unset] [])
                          exact JT 4 (hxx.symm.trans (by simp [own_rr, own_fx, k0, k1, k2, k3])) (own_fn 4)
                      · show own_R p.tables e below _ T5 (mkF m 240 #[.val (.int sz), .val (.int bits), .val (.int cnt), .val (.int (6 : Int32)), .val (.ref t), .val (.int b0), .val (.int b1), .val (.int b2), .val (.int b3), .val (.int b4), .val (.int b5), .val (.int b6), .val (.double xx), .second, .val (.int (0 : Int32)), .unset, .unset] [(.int b2)])
                        refine own_go (fun _ => XS.ifNo X5.here hx rfl (hb hby at_240) rfl ((if0 _ _).trans (feq k2).1)) ?_
                        show own_R p.tables e below _ T5 (mkF m 243 #[.val (.int sz), .val (.int bits), .val (.int cnt), .val (.int (6 : Int32)), .val (.ref t), .val (.int b0), .val (.int b1), .val (.int b2), .val (.int b3), .val (.int b4), .val (.int b5), .val (.int b6), .val (.double xx), .second, .val (.int (0 : Int32)), .unset, .unset] [])
                        refine own_go (fun _ => XS.iconst X5.here hx rfl (hb hby at_243)) ?_
                        refine own_go (fun _ => XS.istore X5.here hx rfl (hb hby at_244) rfl (l' := #[.val (.int sz), .val (.int bits), .val (.int cnt), .val (.int (6 : Int32)), .val (.ref t), .val (.int b0), .val (.int b1), .val (.int b2), .val (.int b3), .val (.int b4), .val (.int b5), .val (.int b6), .val (.double xx), .second, .val (.int (3 : Int32)), .unset, .unset]) rfl) ?_
                        refine own_go (fun _ => XS.goto X5.here hx rfl (pc0 := 246) (pc' := 313) rfl (hb hby at_246) (by decide) (by decide)) ?_
                        show own_R p.tables e below _ T5 (mkF m 313 #[.val (.int sz), .val (.int bits), .val (.int cnt), .val (.int (6 : Int32)), .val (.ref t), .val (.int b0), .val (.int b1), .val (.int b2), .val (.int b3), .val (.int b4), .val (.int b5), .val (.int b6), .val (.double xx), .second, .val (.int (3 : Int32)), .unset, .unset] [])
                        exact JT 3 (hxx.symm.trans (by simp [own_rr, own_fx, k0, k1, k2])) (own_fn 3)
                    · show own_R p.tables e below _ T5 (mkF m 224 #[.val (.int sz), .val (.int bits), .val (.int cnt), .val (.int (6 : Int32)), .val (.ref t), .val (.int b0), .val (.int b1), .val (.int b2), .val (.int b3), .val (.int b4), .val (.int b5), .val (.int b6), .val (.double xx), .second, .val (.int (0 : Int32)), .unset, .unset] [(.int b1)])
                      refine own_go (fun _ => XS.ifNo X5.here hx rfl (hb hby at_224) rfl ((if0 _ _).trans (feq k1).1)) ?_
                      show own_R p.tables e below _ T5 (mkF m 227 #[.val (.int sz), .val (.int bits), .val (.int cnt), .val (.int (6 : Int32)), .val (.ref t), .val (.int b0), .val (.int b1), .val (.int b2), .val (.int b3), .val (.int b4), .val (.int b5), .val (.int b6), .val (.double xx), .second, .val (.int (0 : Int32)), .unset, .unset] [])
                      refine own_go (fun _ => XS.iconst X5.here hx rfl (hb hby at_227)) ?_
                      refine own_go (fun _ => XS.istore X5.here hx rfl (hb hby at_228) rfl (l' := #[.val (.int sz), .val (.int bits), .val (.int cnt), .val (.int (6 : Int32)), .val (.ref t), .val (.int b0), .val (.int b1), .val (.int b2), .val (.int b3), .val (.int b4), .val (.int b5), .val (.int b6), .val (.double xx), .second, .val (.int (2 : Int32)), .unset, .unset]) rfl) ?_
                      refine own_go (fun _ => XS.goto X5.here hx rfl (pc0 := 230) (pc' := 313) rfl (hb hby at_230) (by decide) (by decide)) ?_
                      show own_R p.tables e below _ T5 (mkF m 313 #[.val (.int sz), .val (.int bits), .val (.int cnt), .val (.int (6 : Int32)), .val (.ref t), .val (.int b0), .val (.int b1), .val (.int b2), .val (.int b3), .val (.int b4), .val (.int b5), .val (.int b6), .val (.double xx), .second, .val (.int (2 : Int32)), .unset, .unset] [])
                      exact JT 2 (hxx.symm.trans (by simp [own_rr, own_fx, k0, k1])) (own_fn 2)
                  · show own_R p.tables e below _ T5 (mkF m 208 #[.val (.int sz), .val (.int bits), .val (.int cnt), .val (.int (6 : Int32)), .val (.ref t), .val (.int b0), .val (.int b1), .val (.int b2), .val (.int b3), .val (.int b4), .val (.int b5), .val (.int b6), .val (.double xx), .second, .val (.int (0 : Int32)), .unset, .unset] [(.int b0)])
                    refine own_go (fun _ => XS.ifNo X5.here hx rfl (hb hby at_208) rfl ((if0 _ _).trans (feq k0).1)) ?_
                    show own_R p.tables e below _ T5 (mkF m 211 #[.val (.int sz), .val (.int bits), .val (.int cnt), .val (.int (6 : Int32)), .val (.ref t), .val (.int b0), .val (.int b1), .val (.int b2), .val (.int b3), .val (.int b4), .val (.int b5), .val (.int b6), .val (.double xx), .second, .val (.int (0 : Int32)), .unset, .unset] [])
                    refine own_go (fun _ => XS.iconst X5.here hx rfl (hb hby at_211)) ?_
                    refine own_go (fun _ => XS.istore X5.here hx rfl (hb hby at_212) rfl (l' := #[.val (.int sz), .val (.int bits), .val (.int cnt), .val (.int (6 : Int32)), .val (.ref t), .val (.int b0), .val (.int b1), .val (.int b2), .val (.int b3), .val (.int b4), .val (.int b5), .val (.int b6), .val (.double xx), .second, .val (.int (1 : Int32)), .unset, .unset]) rfl) ?_
                    refine own_go (fun _ => XS.goto X5.here hx rfl (pc0 := 214) (pc' := 313) rfl (hb hby at_214) (by decide) (by decide)) ?_
                    show own_R p.tables e below _ T5 (mkF m 313 #[.val (.int sz), .val (.int bits), .val (.int cnt), .val (.int (6 : Int32)), .val (.ref t), .val (.int b0), .val (.int b1), .val (.int b2), .val (.int b3), .val (.int b4), .val (.int b5), .val (.int b6), .val (.double xx), .second, .val (.int (1 : Int32)), .unset, .unset] [])
                    exact JT 1 (hxx.symm.trans (by simp [own_rr, own_fx, k0])) (own_fn 1)
                · show own_R p.tables e below _ T1 (mkF m 106 #[.val (.int sz), .val (.int bits), .val (.int cnt), .val (.int (7 : Int32)), .val (.ref t), .val (.int b0), .val (.int b1), .val (.int b2), .val (.int b3), .val (.int b4), .val (.int b5), .val (.int b6), .unset, .unset, .unset, .unset, .unset] [])
                  have V2 := V1.pad (pad_rep [] (.int 0) 7)
                  have g1a : n0 ≤ t := Nat.le_trans Z0 q1
                  refine own_go (fun _ => XS.iloadN X1.here hx rfl (hb hby at_106) rfl ) ?_
                  show own_R p.tables e below _ T1 (mkF m 107 #[.val (.int sz), .val (.int bits), .val (.int cnt), .val (.int (7 : Int32)), .val (.ref t), .val (.int b0), .val (.int b1), .val (.int b2), .val (.int b3), .val (.int b4), .val (.int b5), .val (.int b6), .unset, .unset, .unset, .unset, .unset] [(.int (7 : Int32))])
                  refine own_go (fun _ => XS.ifNo X1.here hx rfl (hb hby at_107) rfl ((if0 _ _).trans (tlt (by decide)).2.2.2)) ?_
                  show own_R p.tables e below _ T1 (mkF m 110 #[.val (.int sz), .val (.int bits), .val (.int cnt), .val (.int (7 : Int32)), .val (.ref t), .val (.int b0), .val (.int b1), .val (.int b2), .val (.int b3), .val (.int b4), .val (.int b5), .val (.int b6), .unset, .unset, .unset, .unset, .unset] [])
                  refine own_go (fun _ => XS.aload X1.here hx rfl (hb hby at_110) rfl rfl) ?_
                  show own_R p.tables e below _ T1 (mkF m 112 #[.val (.int sz), .val (.int bits), .val (.int cnt), .val (.int (7 : Int32)), .val (.ref t), .val (.int b0), .val (.int b1), .val (.int b2), .val (.int b3), .val (.int b4), .val (.int b5), .val (.int b6), .unset, .unset, .unset, .unset, .unset] [(.ref t)])
                  refine own_go (fun _ => XS.iconst X1.here hx rfl (hb hby at_112)) ?_
                  show own_R p.tables e below _ T1 (mkF m 113 #[.val (.int sz), .val (.int bits), .val (.int cnt), .val (.int (7 : Int32)), .val (.ref t), .val (.int b0), .val (.int b1), .val (.int b2), .val (.int b3), .val (.int b4), .val (.int b5), .val (.int b6), .unset, .unset, .unset, .unset, .unset] [(.int (0 : Int32)), (.ref t)])
                  refine own_go (fun _ => XS.iload X1.here hx rfl (hb hby at_113) rfl ) ?_
                  show own_R p.tables e below _ T1 (mkF m 115 #[.val (.int sz), .val (.int bits), .val (.int cnt), .val (.int (7 : Int32)), .val (.ref t), .val (.int b0), .val (.int b1), .val (.int b2), .val (.int b3), .val (.int b4), .val (.int b5), .val (.int b6), .unset, .unset, .unset, .unset, .unset] [(.int b0), (.int (0 : Int32)), (.ref t)])
                  obtain ⟨Ts0, hs0, Xs0, es0, Ws0, Vs0, sts0⟩ := own_stZ X1 hx hZ rfl V2 (j := (0 : Int32)) ⟨by decide, by decide⟩ 0 rfl (Nat.le_of_ble_eq_true rfl) hb0 (g := (mkF m 115 #[.val (.int sz), .val (.int bits), .val (.int cnt), .val (.int (7 : Int32)), .val (.ref t), .val (.int b0), .val (.int b1), .val (.int b2), .val (.int b3), .val (.int b4), .val (.int b5), .val (.int b6), .unset, .unset, .unset, .unset, .unset] [(.int b0), (.int (0 : Int32)), (.ref t)])) rfl rfl (hb hby at_115)
                  have Ks0 : Keep h0 hs0 [] := K1.wr Ws0 (Or.inr q1)
                  have Ns0 := Fr.snoc Xs0 N1 g1a
                  refine own_go sts0 ?_
                  show own_R p.tables e below _ Ts0 (mkF m 116 #[.val (.int sz), .val (.int bits), .val (.int cnt), .val (.int (7 : Int32)), .val (.ref t), .val (.int b0), .val (.int b1), .val (.int b2), .val (.int b3), .val (.int b4), .val (.int b5), .val (.int b6), .unset, .unset, .unset, .unset, .unset] [])
                  refine own_go (fun _ => XS.iloadN Xs0.here hx rfl (hb hby at_116) rfl ) ?_
                  show own_R p.tables e below _ Ts0 (mkF m 117 #[.val (.int sz), .val (.int bits), .val (.int cnt), .val (.int (7 : Int32)), .val (.ref t), .val (.int b0), .val (.int b1), .val (.int b2), .val (.int b3), .val (.int b4), .val (.int b5), .val (.int b6), .unset, .unset, .unset, .unset, .unset] [(.int (7 : Int32))])
                  refine own_go (fun _ => XS.iconst Xs0.here hx rfl (hb hby at_117)) ?_
                  show own_R p.tables e below _ Ts0 (mkF m 118 #[.val (.int sz), .val (.int bits), .val (.int cnt), .val (.int (7 : Int32)), .val (.ref t), .val (.int b0), .val (.int b1), .val (.int b2), .val (.int b3), .val (.int b4), .val (.int b5), .val (.int b6), .unset, .unset, .unset, .unset, .unset] [(.int (1 : Int32)), (.int (7 : Int32))])
                  refine own_go (fun _ => XS.icmpNo Xs0.here hx rfl (hb hby at_118) rfl (tlt (by decide)).2.2.2) ?_
                  show own_R p.tables e below _ Ts0 (mkF m 121 #[.val (.int sz), .val (.int bits), .val (.int cnt), .val (.int (7 : Int32)), .val (.ref t), .val (.int b0), .val (.int b1), .val (.int b2), .val (.int b3), .val (.int b4), .val (.int b5), .val (.int b6), .unset, .unset, .unset, .unset, .unset] [])
                  refine own_go (fun _ => XS.aload Xs0.here hx rfl (hb hby at_121) rfl rfl) ?_
                  show own_R p.tables e below _ Ts0 (mkF m 123 #[.val (.int sz), .val (.int bits), .val (.int cnt), .val (.int (7 : Int32)), .val (.ref t), .val (.int b0), .val (.int b1), .val (.int b2), .val (.int b3), .val (.int b4), .val (.int b5), .val (.int b6), .unset, .unset, .unset, .unset, .unset] [(.ref t)])
                  refine own_go (fun _ => XS.iconst Xs0.here hx rfl (hb hby at_123)) ?_
                  show own_R p.tables e below _ Ts0 (mkF m 124 #[.val (.int sz), .val (.int bits), .val (.int cnt), .val (.int (7 : Int32)), .val (.ref t), .val (.int b0), .val (.int b1), .val (.int b2), .val (.int b3), .val (.int b4), .val (.int b5), .val (.int b6), .unset, .unset, .unset, .unset, .unset] [(.int (1 : Int32)), (.ref t)])
                  refine own_go (fun _ => XS.iload Xs0.here hx rfl (hb hby at_124) rfl ) ?_
                  show own_R p.tables e below _ Ts0 (mkF m 126 #[.val (.int sz), .val (.int bits), .val (.int cnt), .val (.int (7 : Int32)), .val (.ref t), .val (.int b0), .val (.int b1), .val (.int b2), .val (.int b3), .val (.int b4), .val (.int b5), .val (.int b6), .unset, .unset, .unset, .unset, .unset] [(.int b1), (.int (1 : Int32)), (.ref t)])
                  obtain ⟨Ts1, hs1, Xs1, es1, Ws1, Vs1, sts1⟩ := own_stZ Xs0 hx hZ es0 Vs0 (j := (1 : Int32)) ⟨by decide, by decide⟩ 1 rfl (Nat.le_of_ble_eq_true rfl) hb1 (g := (mkF m 126 #[.val (.int sz), .val (.int bits), .val (.int cnt), .val (.int (7 : Int32)), .val (.ref t), .val (.int b0), .val (.int b1), .val (.int b2), .val (.int b3), .val (.int b4), .val (.int b5), .val (.int b6), .unset, .unset, .unset, .unset, .unset] [(.int b1), (.int (1 : Int32)), (.ref t)])) rfl rfl (hb hby at_126)
                  have Ks1 : Keep h0 hs1 [] := Ks0.wr Ws1 (Or.inr q1)
                  have Ns1 := Fr.snoc Xs1 Ns0 g1a
                  refine own_go sts1 ?_
                  show own_R p.tables e below _ Ts1 (mkF m 127 #[.val (.int sz), .val (.int bits), .val (.int cnt), .val (.int (7 : Int32)), .val (.ref t), .val (.int b0), .val (.int b1), .val (.int b2), .val (.int b3), .val (.int b4), .val (.int b5), .val (.int b6), .unset, .unset, .unset, .unset, .unset] [])
                  refine own_go (fun _ => XS.iloadN Xs1.here hx rfl (hb hby at_127) rfl ) ?_
                  show own_R p.tables e below _ Ts1 (mkF m 128 #[.val (.int sz), .val (.int bits), .val (.int cnt), .val (.int (7 : Int32)), .val (.ref t), .val (.int b0), .val (.int b1), .val (.int b2), .val (.int b3), .val (.int b4), .val (.int b5), .val (.int b6), .unset, .unset, .unset, .unset, .unset] [(.int (7 : Int32))])
                  refine own_go (fun _ => XS.iconst Xs1.here hx rfl (hb hby at_128)) ?_
                  show own_R p.tables e below _ Ts1 (mkF m 129 #[.val (.int sz), .val (.int bits), .val (.int cnt), .val (.int (7 : Int32)), .val (.ref t), .val (.int b0), .val (.int b1), .val (.int b2), .val (.int b3), .val (.int b4), .val (.int b5), .val (.int b6), .unset, .unset, .unset, .unset, .unset] [(.int (2 : Int32)), (.int (7 : Int32))])
                  refine own_go (fun _ => XS.icmpNo Xs1.here hx rfl (hb hby at_129) rfl (tlt (by decide)).2.2.2) ?_
                  show own_R p.tables e below _ Ts1 (mkF m 132 #[.val (.int sz), .val (.int bits), .val (.int cnt), .val (.int (7 : Int32)), .val (.ref t), .val (.int b0), .val (.int b1), .val (.int b2), .val (.int b3), .val (.int b4), .val (.int b5), .val (.int b6), .unset, .unset, .unset, .unset, .unset] [])
                  refine own_go (fun _ => XS.aload Xs1.here hx rfl (hb hby at_132) rfl rfl) ?_
                  show own_R p.tables e below _ Ts1 (mkF m 134 #[.val (.int sz), .val (.int bits), .val (.int cnt), .val (.int (7 : Int32)), .val (.ref t), .val (.int b0), .val (.int b1), .val (.int b2), .val (.int b3), .val (.int b4), .val (.int b5), .val (.int b6), .unset, .unset, .unset, .unset, .unset] [(.ref t)])
                  refine own_go (fun _ => XS.iconst Xs1.here hx rfl (hb hby at_134)) ?_
                  show own_R p.tables e below _ Ts1 (mkF m 135 #[.val (.int sz), .val (.int bits), .val (.int cnt), .val (.int (7 : Int32)), .val (.ref t), .val (.int b0), .val (.int b1), .val (.int b2), .val (.int b3), .val (.int b4), .val (.int b5), .val (.int b6), .unset, .unset, .unset, .unset, .unset] [(.int (2 : Int32)), (.ref t)])
                  refine own_go (fun _ => XS.iload Xs1.here hx rfl (hb hby at_135) rfl ) ?_
                  show own_R p.tables e below _ Ts1 (mkF m 137 #[.val (.int sz), .val (.int bits), .val (.int cnt), .val (.int (7 : Int32)), .val (.ref t), .val (.int b0), .val (.int b1), .val (.int b2), .val (.int b3), .val (.int b4), .val (.int b5), .val (.int b6), .unset, .unset, .unset, .unset, .unset] [(.int b2), (.int (2 : Int32)), (.ref t)])
                  obtain ⟨Ts2, hs2, Xs2, es2, Ws2, Vs2, sts2⟩ := own_stZ Xs1 hx hZ es1 Vs1 (j := (2 : Int32)) ⟨by decide, by decide⟩ 2 rfl (Nat.le_of_ble_eq_true rfl) hb2 (g := (mkF m 137 #[.val (.int sz), .val (.int bits), .val (.int cnt), .val (.int (7 : Int32)), .val (.ref t), .val (.int b0), .val (.int b1), .val (.int b2), .val (.int b3), .val (.int b4), .val (.int b5), .val (.int b6), .unset, .unset, .unset, .unset, .unset] [(.int b2), (.int (2 : Int32)), (.ref t)])) rfl rfl (hb hby at_137)
                  have Ks2 : Keep h0 hs2 [] := Ks1.wr Ws2 (Or.inr q1)
                  have Ns2 := Fr.snoc Xs2 Ns1 g1a
                  refine own_go sts2 ?_
                  show own_R p.tables e below _ Ts2 (mkF m 138 #[.val (.int sz), .val (.int bits), .val (.int cnt), .val (.int (7 : Int32)), .val (.ref t), .val (.int b0), .val (.int b1), .val (.int b2), .val (.int b3), .val (.int b4), .val (.int b5), .val (.int b6), .unset, .unset, .unset, .unset, .unset] [])
                  refine own_go (fun _ => XS.iloadN Xs2.here hx rfl (hb hby at_138) rfl ) ?_
                  show own_R p.tables e below _ Ts2 (mkF m 139 #[.val (.int sz), .val (.int bits), .val (.int cnt), .val (.int (7 : Int32)), .val (.ref t), .val (.int b0), .val (.int b1), .val (.int b2), .val (.int b3), .val (.int b4), .val (.int b5), .val (.int b6), .unset, .unset, .unset, .unset, .unset] [(.int (7 : Int32))])
                  refine own_go (fun _ => XS.iconst Xs2.here hx rfl (hb hby at_139)) ?_
                  show own_R p.tables e below _ Ts2 (mkF m 140 #[.val (.int sz), .val (.int bits), .val (.int cnt), .val (.int (7 : Int32)), .val (.ref t), .val (.int b0), .val (.int b1), .val (.int b2), .val (.int b3), .val (.int b4), .val (.int b5), .val (.int b6), .unset, .unset, .unset, .unset, .unset] [(.int (3 : Int32)), (.int (7 : Int32))])
                  refine own_go (fun _ => XS.icmpNo Xs2.here hx rfl (hb hby at_140) rfl (tlt (by decide)).2.2.2) ?_
                  show own_R p.tables e below _ Ts2 (mkF m 143 #[.val (.int sz), .val (.int bits), .val (.int cnt), .val (.int (7 : Int32)), .val (.ref t), .val (.int b0), .val (.int b1), .val (.int b2), .val (.int b3), .val (.int b4), .val (.int b5), .val (.int b6), .unset, .unset, .unset, .unset, .unset] [])
                  refine own_go (fun _ => XS.aload Xs2.here hx rfl (hb hby at_143) rfl rfl) ?_
                  show own_R p.tables e below _ Ts2 (mkF m 145 #[.val (.int sz), .val (.int bits), .val (.int cnt), .val (.int (7 : Int32)), .val (.ref t), .val (.int b0), .val (.int b1), .val (.int b2), .val (.int b3), .val (.int b4), .val (.int b5), .val (.int b6), .unset, .unset, .unset, .unset, .unset] [(.ref t)])
                  refine own_go (fun _ => XS.iconst Xs2.here hx rfl (hb hby at_145)) ?_
                  show own_R p.tables e below _ Ts2 (mkF m 146 #[.val (.int sz), .val (.int bits), .val (.int cnt), .val (.int (7 : Int32)), .val (.ref t), .val (.int b0), .val (.int b1), .val (.int b2), .val (.int b3), .val (.int b4), .val (.int b5), .val (.int b6), .unset, .unset, .unset, .unset, .unset] [(.int (3 : Int32)), (.ref t)])
                  refine own_go (fun _ => XS.iload Xs2.here hx rfl (hb hby at_146) rfl ) ?_
                  show own_R p.tables e below _ Ts2 (mkF m 148 #[.val (.int sz), .val (.int bits), .val (.int cnt), .val (.int (7 : Int32)), .val (.ref t), .val (.int b0), .val (.int b1), .val (.int b2), .val (.int b3), .val (.int b4), .val (.int b5), .val (.int b6), .unset, .unset, .unset, .unset, .unset] [(.int b3), (.int (3 : Int32)), (.ref t)])
                  obtain ⟨Ts3, hs3, Xs3, es3, Ws3, Vs3, sts3⟩ := own_stZ Xs2 hx hZ es2 Vs2 (j := (3 : Int32)) ⟨by decide, by decide⟩ 3 rfl (Nat.le_of_ble_eq_true rfl) hb3 (g := (mkF m 148 #[.val (.int sz), .val (.int bits), .val (.int cnt), .val (.int (7 : Int32)), .val (.ref t), .val (.int b0), .val (.int b1), .val (.int b2), .val (.int b3), .val (.int b4), .val (.int b5), .val (.int b6), .unset, .unset, .unset, .unset, .unset] [(.int b3), (.int (3 : Int32)), (.ref t)])) rfl rfl (hb hby at_148)
                  have Ks3 : Keep h0 hs3 [] := Ks2.wr Ws3 (Or.inr q1)
                  have Ns3 := Fr.snoc Xs3 Ns2 g1a
                  refine own_go sts3 ?_
                  show own_R p.tables e below _ Ts3 (mkF m 149 #[.val (.int sz), .val (.int bits), .val (.int cnt), .val (.int (7 : Int32)), .val (.ref t), .val (.int b0), .val (.int b1), .val (.int b2), .val (.int b3), .val (.int b4), .val (.int b5), .val (.int b6), .unset, .unset, .unset, .unset, .unset] [])
                  refine own_go (fun _ => XS.iloadN Xs3.here hx rfl (hb hby at_149) rfl ) ?_
                  show own_R p.tables e below _ Ts3 (mkF m 150 #[.val (.int sz), .val (.int bits), .val (.int cnt), .val (.int (7 : Int32)), .val (.ref t), .val (.int b0), .val (.int b1), .val (.int b2), .val (.int b3), .val (.int b4), .val (.int b5), .val (.int b6), .unset, .unset, .unset, .unset, .unset] [(.int (7 : Int32))])
                  refine own_go (fun _ => XS.iconst Xs3.here hx rfl (hb hby at_150)) ?_
                  show own_R p.tables e below _ Ts3 (mkF m 151 #[.val (.int sz), .val (.int bits), .val (.int cnt), .val (.int (7 : Int32)), .val (.ref t), .val (.int b0), .val (.int b1), .val (.int b2), .val (.int b3), .val (.int b4), .val (.int b5), .val (.int b6), .unset, .unset, .unset, .unset, .unset] [(.int (4 : Int32)), (.int (7 : Int32))])
                  refine own_go (fun _ => XS.icmpNo Xs3.here hx rfl (hb hby at_151) rfl (tlt (by decide)).2.2.2) ?_
                  show own_R p.tables e below _ Ts3 (mkF m 154 #[.val (.int sz), .val (.int bits), .val (.int cnt), .val (.int (7 : Int32)), .val (.ref t), .val (.int b0), .val (.int b1), .val (.int b2), .val (.int b3), .val (.int b4), .val (.int b5), .val (.int b6), .unset, .unset, .unset, .unset, .unset] [])
                  refine own_go (fun _ => XS.aload Xs3.here hx rfl (hb hby at_154) rfl rfl) ?_
                  show own_R p.tables e below _ Ts3 (mkF m 156 #[.val (.int sz), .val (.int bits), .val (.int cnt), .val (.int (7 : Int32)), .val (.ref t), .val (.int b0), .val (.int b1), .val (.int b2), .val (.int b3), .val (.int b4), .val (.int b5), .val (.int b6), .unset, .unset, .unset, .unset, .unset] [(.ref t)])
                  refine own_go (fun _ => XS.iconst Xs3.here hx rfl (hb hby at_156)) ?_
                  show own_R p.tables e below _ Ts3 (mkF m 157 #[.val (.int sz), .val (.int bits), .val (.int cnt), .val (.int (7 : Int32)), .val (.ref t), .val (.int b0), .val (.int b1), .val (.int b2), .val (.int b3), .val (.int b4), .val (.int b5), .val (.int b6), .unset, .unset, .unset, .unset, .unset] [(.int (4 : Int32)), (.ref t)])
                  refine own_go (fun _ => XS.iload Xs3.here hx rfl (hb hby at_157) rfl ) ?_
                  show own_R p.tables e below _ Ts3 (mkF m 159 #[.val (.int sz), .val (.int bits), .val (.int cnt), .val (.int (7 : Int32)), .val (.ref t), .val (.int b0), .val (.int b1), .val (.int b2), .val (.int b3), .val (.int b4), .val (.int b5), .val (.int b6), .unset, .unset, .unset, .unset, .unset] [(.int b4), (.int (4 : Int32)), (.ref t)])
                  obtain ⟨Ts4, hs4, Xs4, es4, Ws4, Vs4, sts4⟩ := own_stZ Xs3 hx hZ es3 Vs3 (j := (4 : Int32)) ⟨by decide, by decide⟩ 4 rfl (Nat.le_of_ble_eq_true rfl) hb4 (g := (mkF m 159 #[.val (.int sz), .val (.int bits), .val (.int cnt), .val (.int (7 : Int32)), .val (.ref t), .val (.int b0), .val (.int b1), .val (.int b2), .val (.int b3), .val (.int b4), .val (.int b5), .val (.int b6), .unset, .unset, .unset, .unset, .unset] [(.int b4), (.int (4 : Int32)), (.ref t)])) rfl rfl (hb hby at_159)
                  have Ks4 : Keep h0 hs4 [] := Ks3.wr Ws4 (Or.inr q1)
                  have Ns4 := Fr.snoc Xs4 Ns3 g1a
                  refine own_go sts4 ?_
                  show own_R p.tables e below _ Ts4 (mkF m 160 #[.val (.int sz), .val (.int bits), .val (.int cnt), .val (.int (7 : Int32)), .val (.ref t), .val (.int b0), .val (.int b1), .val (.int b2), .val (.int b3), .val (.int b4), .val (.int b5), .val (.int b6), .unset, .unset, .unset, .unset, .unset] [])
                  refine own_go (fun _ => XS.iloadN Xs4.here hx rfl (hb hby at_160) rfl ) ?_
                  show own_R p.tables e below _ Ts4 (mkF m 161 #[.val (.int sz), .val (.int bits), .val (.int cnt), .val (.int (7 : Int32)), .val (.ref t), .val (.int b0), .val (.int b1), .val (.int b2), .val (.int b3), .val (.int b4), .val (.int b5), .val (.int b6), .unset, .unset, .unset, .unset, .unset] [(.int (7 : Int32))])
                  refine own_go (fun _ => XS.iconst Xs4.here hx rfl (hb hby at_161)) ?_
                  show own_R p.tables e below _ Ts4 (mkF m 162 #[.val (.int sz), .val (.int bits), .val (.int cnt), .val (.int (7 : Int32)), .val (.ref t), .val (.int b0), .val (.int b1), .val (.int b2), .val (.int b3), .val (.int b4), .val (.int b5), .val (.int b6), .unset, .unset, .unset, .unset, .unset] [(.int (5 : Int32)), (.int (7 : Int32))])
                  refine own_go (fun _ => XS.icmpNo Xs4.here hx rfl (hb hby at_162) rfl (tlt (by decide)).2.2.2) ?_
                  show own_R p.tables e below _ Ts4 (mkF m 165 #[.val (.int sz), .val (.int bits), .val (.int cnt), .val (.int (7 : Int32)), .val (.ref t), .val (.int b0), .val (.int b1), .val (.int b2), .val (.int b3), .val (.int b4), .val (.int b5), .val (.int b6), .unset, .unset, .unset, .unset, .unset] [])
                  refine own_go (fun _ => XS.aload Xs4.here hx rfl (hb hby at_165) rfl rfl) ?_
                  show own_R p.tables e below _ Ts4 (mkF m 167 #[.val (.int sz), .val (.int bits), .val (.int cnt), .val (.int (7 : Int32)), .val (.ref t), .val (.int b0), .val (.int b1), .val (.int b2), .val (.int b3), .val (.int b4), .val (.int b5), .val (.int b6), .unset, .unset, .unset, .unset, .unset] [(.ref t)])
                  refine own_go (fun _ => XS.iconst Xs4.here hx rfl (hb hby at_167)) ?_
                  show own_R p.tables e below _ Ts4 (mkF m 168 #[.val (.int sz), .val (.int bits), .val (.int cnt), .val (.int (7 : Int32)), .val (.ref t), .val (.int b0), .val (.int b1), .val (.int b2), .val (.int b3), .val (.int b4), .val (.int b5), .val (.int b6), .unset, .unset, .unset, .unset, .unset] [(.int (5 : Int32)), (.ref t)])
                  refine own_go (fun _ => XS.iload Xs4.here hx rfl (hb hby at_168) rfl ) ?_
                  show own_R p.tables e below _ Ts4 (mkF m 170 #[.val (.int sz), .val (.int bits), .val (.int cnt), .val (.int (7 : Int32)), .val (.ref t), .val (.int b0), .val (.int b1), .val (.int b2), .val (.int b3), .val (.int b4), .val (.int b5), .val (.int b6), .unset, .unset, .unset, .unset, .unset] [(.int b5), (.int (5 : Int32)), (.ref t)])
                  obtain ⟨Ts5, hs5, Xs5, es5, Ws5, Vs5, sts5⟩ := own_stZ Xs4 hx hZ es4 Vs4 (j := (5 : Int32)) ⟨by decide, by decide⟩ 5 rfl (Nat.le_of_ble_eq_true rfl) hb5 (g := (mkF m 170 #[.val (.int sz), .val (.int bits), .val (.int cnt), .val (.int (7 : Int32)), .val (.ref t), .val (.int b0), .val (.int b1), .val (.int b2), .val (.int b3), .val (.int b4), .val (.int b5), .val (.int b6), .unset, .unset, .unset, .unset, .unset] [(.int b5), (.int (5 : Int32)), (.ref t)])) rfl rfl (hb hby at_170)
                  have Ks5 : Keep h0 hs5 [] := Ks4.wr Ws5 (Or.inr q1)
                  have Ns5 := Fr.snoc Xs5 Ns4 g1a
                  refine own_go sts5 ?_
                  show own_R p.tables e below _ Ts5 (mkF m 171 #[.val (.int sz), .val (.int bits), .val (.int cnt), .val (.int (7 : Int32)), .val (.ref t), .val (.int b0), .val (.int b1), .val (.int b2), .val (.int b3), .val (.int b4), .val (.int b5), .val (.int b6), .unset, .unset, .unset, .unset, .unset] [])
                  refine own_go (fun _ => XS.iloadN Xs5.here hx rfl (hb hby at_171) rfl ) ?_
                  show own_R p.tables e below _ Ts5 (mkF m 172 #[.val (.int sz), .val (.int bits), .val (.int cnt), .val (.int (7 : Int32)), .val (.ref t), .val (.int b0), .val (.int b1), .val (.int b2), .val (.int b3), .val (.int b4), .val (.int b5), .val (.int b6), .unset, .unset, .unset, .unset, .unset] [(.int (7 : Int32))])
                  refine own_go (fun _ => XS.bipush Xs5.here hx rfl (hb hby at_172)) ?_
                  show own_R p.tables e below _ Ts5 (mkF m 174 #[.val (.int sz), .val (.int bits), .val (.int cnt), .val (.int (7 : Int32)), .val (.ref t), .val (.int b0), .val (.int b1), .val (.int b2), .val (.int b3), .val (.int b4), .val (.int b5), .val (.int b6), .unset, .unset, .unset, .unset, .unset] [(.int (6 : Int32)), (.int (7 : Int32))])
                  refine own_go (fun _ => XS.icmpNo Xs5.here hx rfl (hb hby at_174) rfl (tlt (by decide)).2.2.2) ?_
                  show own_R p.tables e below _ Ts5 (mkF m 177 #[.val (.int sz), .val (.int bits), .val (.int cnt), .val (.int (7 : Int32)), .val (.ref t), .val (.int b0), .val (.int b1), .val (.int b2), .val (.int b3), .val (.int b4), .val (.int b5), .val (.int b6), .unset, .unset, .unset, .unset, .unset] [])
                  refine own_go (fun _ => XS.aload Xs5.here hx rfl (hb hby at_177) rfl rfl) ?_
                  show own_R p.tables e below _ Ts5 (mkF m 179 #[.val (.int sz), .val (.int bits), .val (.int cnt), .val (.int (7 : Int32)), .val (.ref t), .val (.int b0), .val (.int b1), .val (.int b2), .val (.int b3), .val (.int b4), .val (.int b5), .val (.int b6), .unset, .unset, .unset, .unset, .unset] [(.ref t)])
                  refine own_go (fun _ => XS.bipush Xs5.here hx rfl (hb hby at_179)) ?_
                  show own_R p.tables e below _ Ts5 (mkF m 181 #[.val (.int sz), .val (.int bits), .val (.int cnt), .val (.int (7 : Int32)), .val (.ref t), .val (.int b0), .val (.int b1), .val (.int b2), .val (.int b3), .val (.int b4), .val (.int b5), .val (.int b6), .unset, .unset, .unset, .unset, .unset] [(.int (6 : Int32)), (.ref t)])
                  refine own_go (fun _ => XS.iload Xs5.here hx rfl (hb hby at_181) rfl ) ?_
                  show own_R p.tables e below _ Ts5 (mkF m 183 #[.val (.int sz), .val (.int bits), .val (.int cnt), .val (.int (7 : Int32)), .val (.ref t), .val (.int b0), .val (.int b1), .val (.int b2), .val (.int b3), .val (.int b4), .val (.int b5), .val (.int b6), .unset, .unset, .unset, .unset, .unset] [(.int b6), (.int (6 : Int32)), (.ref t)])
                  obtain ⟨Ts6, hs6, Xs6, es6, Ws6, Vs6, sts6⟩ := own_stZ Xs5 hx hZ es5 Vs5 (j := (6 : Int32)) ⟨by decide, by decide⟩ 6 rfl (Nat.le_of_ble_eq_true rfl) hb6 (g := (mkF m 183 #[.val (.int sz), .val (.int bits), .val (.int cnt), .val (.int (7 : Int32)), .val (.ref t), .val (.int b0), .val (.int b1), .val (.int b2), .val (.int b3), .val (.int b4), .val (.int b5), .val (.int b6), .unset, .unset, .unset, .unset, .unset] [(.int b6), (.int (6 : Int32)), (.ref t)])) rfl rfl (hb hby at_183)
                  have Ks6 : Keep h0 hs6 [] := Ks5.wr Ws6 (Or.inr q1)
                  have Ns6 := Fr.snoc Xs6 Ns5 g1a
                  refine own_go sts6 ?_
                  show own_R p.tables e below _ Ts6 (mkF m 184 #[.val (.int sz), .val (.int bits), .val (.int cnt), .val (.int (7 : Int32)), .val (.ref t), .val (.int b0), .val (.int b1), .val (.int b2), .val (.int b3), .val (.int b4), .val (.int b5), .val (.int b6), .unset, .unset, .unset, .unset, .unset] [])
                  obtain ⟨T3, h3, X3, e3, E3, A3, D3, -, st3⟩ := newO Xs6 hx hZ hown (hw _ (List.mem_of_getElem? (i := 5) rfl)) (hw _ (List.mem_of_getElem? (i := 6) rfl)) (hw _ (List.mem_of_getElem? (i := 7) rfl)) es6 (g := (mkF m 184 #[.val (.int sz), .val (.int bits), .val (.int cnt), .val (.int (7 : Int32)), .val (.ref t), .val (.int b0), .val (.int b1), .val (.int b2), .val (.int b3), .val (.int b4), .val (.int b5), .val (.int b6), .unset, .unset, .unset, .unset, .unset] [])) rfl (hb hby at_184) (by decide) (by decide)
                  obtain ⟨a3, g3⟩ : ∃ z, z = hs6.size := ⟨_, rfl⟩
                  rw [← g3] at A3 D3 st3
                  refine own_go st3 ?_
                  show own_R p.tables e below _ T3 (mkF m 187 #[.val (.int sz), .val (.int bits), .val (.int cnt), .val (.int (7 : Int32)), .val (.ref t), .val (.int b0), .val (.int b1), .val (.int b2), .val (.int b3), .val (.int b4), .val (.int b5), .val (.int b6), .unset, .unset, .unset, .unset, .unset] [(.ref a3)])
                  refine own_go (fun _ => XS.dup X3.here hx rfl (hb hby at_187) rfl rfl) ?_
                  show own_R p.tables e below _ T3 (mkF m 188 #[.val (.int sz), .val (.int bits), .val (.int cnt), .val (.int (7 : Int32)), .val (.ref t), .val (.int b0), .val (.int b1), .val (.int b2), .val (.int b3), .val (.int b4), .val (.int b5), .val (.int b6), .unset, .unset, .unset, .unset, .unset] [(.ref a3), (.ref a3)])
                  refine own_go (fun _ => XS.aload X3.here hx rfl (hb hby at_188) rfl rfl) ?_
                  show own_R p.tables e below _ T3 (mkF m 190 #[.val (.int sz), .val (.int bits), .val (.int cnt), .val (.int (7 : Int32)), .val (.ref t), .val (.int b0), .val (.int b1), .val (.int b2), .val (.int b3), .val (.int b4), .val (.int b5), .val (.int b6), .unset, .unset, .unset, .unset, .unset] [(.ref t), (.ref a3), (.ref a3)])
                  refine own_go (fun _ => XS.iloadN X3.here hx rfl (hb hby at_190) rfl ) ?_
                  show own_R p.tables e below _ T3 (mkF m 191 #[.val (.int sz), .val (.int bits), .val (.int cnt), .val (.int (7 : Int32)), .val (.ref t), .val (.int b0), .val (.int b1), .val (.int b2), .val (.int b3), .val (.int b4), .val (.int b5), .val (.int b6), .unset, .unset, .unset, .unset, .unset] [(.int cnt), (.ref t), (.ref a3), (.ref a3)])
                  have g3a : n0 ≤ a3 := Nat.le_trans Z0 (Nat.le_trans Ks6.1 (Nat.le_of_eq g3.symm))
                  have ne3 : t ≠ a3 := Nat.ne_of_lt (Nat.lt_of_lt_of_le Vs6.lt (Nat.le_of_eq g3.symm))
                  obtain ⟨v4, T4, L4, X4, Q4, st4⟩ := own_callI X3 hx hZ hown (y := (⟨"com/example/kookaburra/kookaburra/eval/Ranking", "<init>", "([ZI)V"⟩ : MethodName)) rfl (hw _ (List.mem_of_getElem? (i := 8) rfl)) (hw _ (List.mem_of_getElem? (i := 9) rfl)) (hw _ (List.mem_of_getElem? (i := 10) rfl)) (hw _ (List.mem_of_getElem? (i := 7) rfl)) (by decide) (rmInit l Z a0 hw [] h3 n0 a3 t cnt g3a A3 (D3 (Or.inr (hw _ (List.mem_of_getElem? (i := 15) rfl))) (ty := (.array .boolean)) (by decide)) (D3 (Or.inr (hw _ (List.mem_of_getElem? (i := 17) rfl))) (ty := .int) (by decide))) (W := 1) (g := (mkF m 191 #[.val (.int sz), .val (.int bits), .val (.int cnt), .val (.int (7 : Int32)), .val (.ref t), .val (.int b0), .val (.int b1), .val (.int b2), .val (.int b3), .val (.int b4), .val (.int b5), .val (.int b6), .unset, .unset, .unset, .unset, .unset] [(.int cnt), (.ref t), (.ref a3), (.ref a3)])) rfl (by rw [hml]; rfl) (a := a3) (argsL := [(.ref t), (.int cnt)]) (rest := [(.ref a3)]) (lenOf pd___ZI_V rfl) rfl rfl (by show 2 * 0 + _ ≤ _; exact Nat.le_of_eq rfl) (hb hby at_191) e3 (by decide) (by decide) (by decide) (by decide)
                  obtain ⟨rfl, N4q, K4, E4, F4a, F4b⟩ := Q4
                  have N4 := Fr.app Ns6 N4q
                  have V4 := (Vs6.ext E3).keep K4 (ninS ne3 nin0)
                  refine own_go st4 ?_
                  show own_R p.tables e below _ T4 (mkF m 194 #[.val (.int sz), .val (.int bits), .val (.int cnt), .val (.int (7 : Int32)), .val (.ref t), .val (.int b0), .val (.int b1), .val (.int b2), .val (.int b3), .val (.int b4), .val (.int b5), .val (.int b6), .unset, .unset, .unset, .unset, .unset] [(.ref a3)])
                  obtain ⟨v5, T5, L5, X5, Q5, st5⟩ := own_callV X4 hx hZ hown (y := (⟨"com/example/kookaburra/kookaburra/eval/Ranking", "reciprocalRank", "()D"⟩ : MethodName)) (hw _ (List.mem_of_getElem? (i := 18) rfl)) (hw _ (List.mem_of_getElem? (i := 19) rfl)) (hw _ (List.mem_of_getElem? (i := 21) rfl)) (hw _ (List.mem_of_getElem? (i := 20) rfl)) (hw _ (List.mem_of_getElem? (i := 22) rfl)) (hw _ (List.mem_of_getElem? (i := 7) rfl)) (by decide) (rmRR l Z a0 hw [] T4.heap n0 a3 t ([b0, b1, b2, b3, b4, b5, b6] : List Int32) (Nat.le_of_ble_eq_true rfl) F4a V4) E4 (W := 0) (g := (mkF m 194 #[.val (.int sz), .val (.int bits), .val (.int cnt), .val (.int (7 : Int32)), .val (.ref t), .val (.int b0), .val (.int b1), .val (.int b2), .val (.int b3), .val (.int b4), .val (.int b5), .val (.int b6), .unset, .unset, .unset, .unset, .unset] [(.ref a3)])) rfl (by rw [hml]; rfl) (b := a3) (argsL := []) (rest := []) (lenOf pd___D rfl) rfl rfl (by show 2 * 0 + _ ≤ _; exact Nat.le_of_eq rfl) (hb hby at_194) rfl (by decide) (by decide) (by decide) (by decide)
                  obtain ⟨rfl, N5q, e5⟩ := Q5
                  have N5 := Fr.app N4 N5q
                  refine own_go st5 ?_
                  show own_R p.tables e below _ T5 (mkF m 197 #[.val (.int sz), .val (.int bits), .val (.int cnt), .val (.int (7 : Int32)), .val (.ref t), .val (.int b0), .val (.int b1), .val (.int b2), .val (.int b3), .val (.int b4), .val (.int b5), .val (.int b6), .unset, .unset, .unset, .unset, .unset] [(.double (own_rr [b0, b1, b2, b3, b4, b5, b6] 1))])
                  obtain ⟨xx, hxx⟩ : ∃ z, own_rr [b0, b1, b2, b3, b4, b5, b6] 1 = z := ⟨_, rfl⟩
                  rw [hxx]
                  show own_R p.tables e below _ T5 (mkF m 197 #[.val (.int sz), .val (.int bits), .val (.int cnt), .val (.int (7 : Int32)), .val (.ref t), .val (.int b0), .val (.int b1), .val (.int b2), .val (.int b3), .val (.int b4), .val (.int b5), .val (.int b6), .unset, .unset, .unset, .unset, .unset] [(.double xx)])
                  refine own_go (fun _ => XS.dstore X5.here hx rfl (hb hby at_197) rfl (l' := #[.val (.int sz), .val (.int bits), .val (.int cnt), .val (.int (7 : Int32)), .val (.ref t), .val (.int b0), .val (.int b1), .val (.int b2), .val (.int b3), .val (.int b4), .val (.int b5), .val (.int b6), .val (.double xx), .second, .unset, .unset, .unset]) rfl) ?_
                  refine own_go (fun _ => XS.iconst X5.here hx rfl (hb hby at_199)) ?_
                  refine own_go (fun _ => XS.istore X5.here hx rfl (hb hby at_200) rfl (l' := #[.val (.int sz), .val (.int bits), .val (.int cnt), .val (.int (7 : Int32)), .val (.ref t), .val (.int b0), .val (.int b1), .val (.int b2), .val (.int b3), .val (.int b4), .val (.int b5), .val (.int b6), .val (.double xx), .second, .val (.int (0 : Int32)), .unset, .unset]) rfl) ?_
                  show own_R p.tables e below _ T5 (mkF m 202 #[.val (.int sz), .val (.int bits), .val (.int cnt), .val (.int (7 : Int32)), .val (.ref t), .val (.int b0), .val (.int b1), .val (.int b2), .val (.int b3), .val (.int b4), .val (.int b5), .val (.int b6), .val (.double xx), .second, .val (.int (0 : Int32)), .unset, .unset] [])
                  have JT : ∀ f : Int32, xx = own_fx f → Jvm.Free.Fl.NoNaN64 (own_fx f) → own_R p.tables e below (own_E s below (own_Q0 n0) (room_1).cells (room_1).slots) T5 (mkF m 313 #[.val (.int sz), .val (.int bits), .val (.int cnt), .val (.int (7 : Int32)), .val (.ref t), .val (.int b0), .val (.int b1), .val (.int b2), .val (.int b3), .val (.int b4), .val (.int b5), .val (.int b6), .val (.double xx), .second, .val (.int f), .unset, .unset] []) := by
                    intro f hf hnn
                    show own_R p.tables e below _ T5 (mkF m 313 #[.val (.int sz), .val (.int bits), .val (.int cnt), .val (.int (7 : Int32)), .val (.ref t), .val (.int b0), .val (.int b1), .val (.int b2), .val (.int b3), .val (.int b4), .val (.int b5), .val (.int b6), .val (.double xx), .second, .val (.int f), .unset, .unset] [])
                    refine own_go (fun _ => XS.iload X5.here hx rfl (hb hby at_313) rfl ) ?_
                    show own_R p.tables e below _ T5 (mkF m 315 #[.val (.int sz), .val (.int bits), .val (.int cnt), .val (.int (7 : Int32)), .val (.ref t), .val (.int b0), .val (.int b1), .val (.int b2), .val (.int b3), .val (.int b4), .val (.int b5), .val (.int b6), .val (.double xx), .second, .val (.int f), .unset, .unset] [(.int f)])
                    by_cases hf0 : f = (0 : Int32)
                    · show own_R p.tables e below _ T5 (mkF m 315 #[.val (.int sz), .val (.int bits), .val (.int cnt), .val (.int (7 : Int32)), .val (.ref t), .val (.int b0), .val (.int b1), .val (.int b2), .val (.int b3), .val (.int b4), .val (.int b5), .val (.int b6), .val (.double xx), .second, .val (.int f), .unset, .unset] [(.int f)])
                      refine own_go (fun _ => XS.ifNo X5.here hx rfl (hb hby at_315) rfl ((if0 _ _).trans (teq hf0).2)) ?_
                      show own_R p.tables e below _ T5 (mkF m 318 #[.val (.int sz), .val (.int bits), .val (.int cnt), .val (.int (7 : Int32)), .val (.ref t), .val (.int b0), .val (.int b1), .val (.int b2), .val (.int b3), .val (.int b4), .val (.int b5), .val (.int b6), .val (.double xx), .second, .val (.int f), .unset, .unset] [])
                      have hfx : own_fx f = FP.dconst0 := if_pos hf0
                      rw [hfx] at hf hnn
                      show own_R p.tables e below _ T5 (mkF m 318 #[.val (.int sz), .val (.int bits), .val (.int cnt), .val (.int (7 : Int32)), .val (.ref t), .val (.int b0), .val (.int b1), .val (.int b2), .val (.int b3), .val (.int b4), .val (.int b5), .val (.int b6), .val (.double xx), .second, .val (.int f), .unset, .unset] [])
                      refine own_go (fun _ => XS.dconst0 X5.here hx rfl (hb hby at_318) rfl) ?_
                      refine own_go (fun _ => XS.goto X5.here hx rfl (pc0 := 319) (pc' := 327) rfl (hb hby at_319) (by decide) (by decide)) ?_
                      refine own_go (fun _ => XS.dstore X5.here hx rfl (hb hby at_327) rfl (l' := #[.val (.int sz), .val (.int bits), .val (.int cnt), .val (.int (7 : Int32)), .val (.ref t), .val (.int b0), .val (.int b1), .val (.int b2), .val (.int b3), .val (.int b4), .val (.int b5), .val (.int b6), .val (.double xx), .second, .val (.int f), .val (.double FP.dconst0), .second]) rfl) ?_
                      refine own_go (fun _ => XS.dload X5.here hx rfl (hb hby at_329) rfl ) ?_
                      show own_R p.tables e below _ T5 (mkF m 331 #[.val (.int sz), .val (.int bits), .val (.int cnt), .val (.int (7 : Int32)), .val (.ref t), .val (.int b0), .val (.int b1), .val (.int b2), .val (.int b3), .val (.int b4), .val (.int b5), .val (.int b6), .val (.double xx), .second, .val (.int f), .val (.double FP.dconst0), .second] [(.double xx)])
                      refine own_go (fun _ => XS.dload X5.here hx rfl (hb hby at_331) rfl ) ?_
                      refine own_go (fun _ => XS.dcmpS X5.here hx rfl (hb hby at_333) rfl rfl) ?_
                      show own_R p.tables e below _ T5 (mkF m 334 #[.val (.int sz), .val (.int bits), .val (.int cnt), .val (.int (7 : Int32)), .val (.ref t), .val (.int b0), .val (.int b1), .val (.int b2), .val (.int b3), .val (.int b4), .val (.int b5), .val (.int b6), .val (.double xx), .second, .val (.int f), .val (.double FP.dconst0), .second] [(.int (cmpValue (FP.dcmp xx FP.dconst0) .l))])
                      refine own_go (fun _ => XS.ifNo X5.here hx rfl (hb hby at_334) rfl ((if0 _ _).trans (teq (by rw [hf]; exact dcmpV_self hnn _)).2)) ?_
                      show own_R p.tables e below _ T5 (mkF m 337 #[.val (.int sz), .val (.int bits), .val (.int cnt), .val (.int (7 : Int32)), .val (.ref t), .val (.int b0), .val (.int b1), .val (.int b2), .val (.int b3), .val (.int b4), .val (.int b5), .val (.int b6), .val (.double xx), .second, .val (.int f), .val (.double FP.dconst0), .second] [])
                      refine own_go (fun _ => XS.iconst X5.here hx rfl (hb hby at_337)) ?_
                      refine own_go (fun _ => XS.goto X5.here hx rfl (pc0 := 338) (pc' := 342) rfl (hb hby at_338) (by decide) (by decide)) ?_
                      show own_R p.tables e below _ T5 (mkF m 342 #[.val (.int sz), .val (.int bits), .val (.int cnt), .val (.int (7 : Int32)), .val (.ref t), .val (.int b0), .val (.int b1), .val (.int b2), .val (.int b3), .val (.int b4), .val (.int b5), .val (.int b6), .val (.double xx), .second, .val (.int f), .val (.double FP.dconst0), .second] [(.int (1 : Int32))])
                      exact own_end X5 (some (.int (1 : Int32))) (fun h => by rw [hret] at h; cases h) hlk (fun fs hr => retN X5 hx (t := .boolean) hret (by simp) (hb hby at_342) hr) ⟨rfl, N5⟩ (by decide) (by decide)
                    · show own_R p.tables e below _ T5 (mkF m 315 #[.val (.int sz), .val (.int bits), .val (.int cnt), .val (.int (7 : Int32)), .val (.ref t), .val (.int b0), .val (.int b1), .val (.int b2), .val (.int b3), .val (.int b4), .val (.int b5), .val (.int b6), .val (.double xx), .second, .val (.int f), .unset, .unset] [(.int f)])
                      refine own_go (fun _ => XS.ifYes X5.here hx rfl (pc0 := 315) (pc' := 322) rfl (hb hby at_315) rfl ((if0 _ _).trans (feq hf0).2) (by decide) (by decide)) ?_
                      show own_R p.tables e below _ T5 (mkF m 322 #[.val (.int sz), .val (.int bits), .val (.int cnt), .val (.int (7 : Int32)), .val (.ref t), .val (.int b0), .val (.int b1), .val (.int b2), .val (.int b3), .val (.int b4), .val (.int b5), .val (.int b6), .val (.double xx), .second, .val (.int f), .unset, .unset] [])
                      have hfx : own_fx f = FP.ddiv FP.dconst1 (FP.i2d f) := if_neg hf0
                      rw [hfx] at hf hnn
                      show own_R p.tables e below _ T5 (mkF m 322 #[.val (.int sz), .val (.int bits), .val (.int cnt), .val (.int (7 : Int32)), .val (.ref t), .val (.int b0), .val (.int b1), .val (.int b2), .val (.int b3), .val (.int b4), .val (.int b5), .val (.int b6), .val (.double xx), .second, .val (.int f), .unset, .unset] [])
                      refine own_go (fun _ => XS.dconst1 X5.here hx rfl (hb hby at_322) rfl) ?_
                      refine own_go (fun _ => XS.iload X5.here hx rfl (hb hby at_323) rfl ) ?_
                      refine own_go (fun _ => XS.i2dS X5.here hx rfl (hb hby at_325) rfl rfl) ?_
                      refine own_go (fun _ => XS.ddivS X5.here hx rfl (hb hby at_326) rfl hnn rfl) ?_
                      show own_R p.tables e below _ T5 (mkF m 327 #[.val (.int sz), .val (.int bits), .val (.int cnt), .val (.int (7 : Int32)), .val (.ref t), .val (.int b0), .val (.int b1), .val (.int b2), .val (.int b3), .val (.int b4), .val (.int b5), .val (.int b6), .val (.double xx), .second, .val (.int f), .unset, .unset] [(.double (FP.ddiv FP.dconst1 (FP.i2d f)))])
                      refine own_go (fun _ => XS.dstore X5.here hx rfl (hb hby at_327) rfl (l' := #[.val (.int sz), .val (.int bits), .val (.int cnt), .val (.int (7 : Int32)), .val (.ref t), .val (.int b0), .val (.int b1), .val (.int b2), .val (.int b3), .val (.int b4), .val (.int b5), .val (.int b6), .val (.double xx), .second, .val (.int f), .val (.double (FP.ddiv FP.dconst1 (FP.i2d f))), .second]) rfl) ?_
                      refine own_go (fun _ => XS.dload X5.here hx rfl (hb hby at_329) rfl ) ?_
                      refine own_go (fun _ => XS.dload X5.here hx rfl (hb hby at_331) rfl ) ?_
                      refine own_go (fun _ => XS.dcmpS X5.here hx rfl (hb hby at_333) rfl rfl) ?_
                      show own_R p.tables e below _ T5 (mkF m 334 #[.val (.int sz), .val (.int bits), .val (.int cnt), .val (.int (7 : Int32)), .val (.ref t), .val (.int b0), .val (.int b1), .val (.int b2), .val (.int b3), .val (.int b4), .val (.int b5), .val (.int b6), .val (.double xx), .second, .val (.int f), .val (.double (FP.ddiv FP.dconst1 (FP.i2d f))), .second] [(.int (cmpValue (FP.dcmp xx (FP.ddiv FP.dconst1 (FP.i2d f))) .l))])
                      refine own_go (fun _ => XS.ifNo X5.here hx rfl (hb hby at_334) rfl ((if0 _ _).trans (teq (by rw [hf]; exact dcmpV_self hnn _)).2)) ?_
                      show own_R p.tables e below _ T5 (mkF m 337 #[.val (.int sz), .val (.int bits), .val (.int cnt), .val (.int (7 : Int32)), .val (.ref t), .val (.int b0), .val (.int b1), .val (.int b2), .val (.int b3), .val (.int b4), .val (.int b5), .val (.int b6), .val (.double xx), .second, .val (.int f), .val (.double (FP.ddiv FP.dconst1 (FP.i2d f))), .second] [])
                      refine own_go (fun _ => XS.iconst X5.here hx rfl (hb hby at_337)) ?_
                      refine own_go (fun _ => XS.goto X5.here hx rfl (pc0 := 338) (pc' := 342) rfl (hb hby at_338) (by decide) (by decide)) ?_
                      show own_R p.tables e below _ T5 (mkF m 342 #[.val (.int sz), .val (.int bits), .val (.int cnt), .val (.int (7 : Int32)), .val (.ref t), .val (.int b0), .val (.int b1), .val (.int b2), .val (.int b3), .val (.int b4), .val (.int b5), .val (.int b6), .val (.double xx), .second, .val (.int f), .val (.double (FP.ddiv FP.dconst1 (FP.i2d f))), .second] [(.int (1 : Int32))])
                      exact own_end X5 (some (.int (1 : Int32))) (fun h => by rw [hret] at h; cases h) hlk (fun fs hr => retN X5 hx (t := .boolean) hret (by simp) (hb hby at_342) hr) ⟨rfl, N5⟩ (by decide) (by decide)
                  refine own_go (fun _ => XS.iloadN X5.here hx rfl (hb hby at_202) rfl ) ?_
                  show own_R p.tables e below _ T5 (mkF m 203 #[.val (.int sz), .val (.int bits), .val (.int cnt), .val (.int (7 : Int32)), .val (.ref t), .val (.int b0), .val (.int b1), .val (.int b2), .val (.int b3), .val (.int b4), .val (.int b5), .val (.int b6), .val (.double xx), .second, .val (.int (0 : Int32)), .unset, .unset] [(.int (7 : Int32))])
                  refine own_go (fun _ => XS.ifNo X5.here hx rfl (hb hby at_203) rfl ((if0 _ _).trans (tlt (by decide)).2.2.2)) ?_
                  show own_R p.tables e below _ T5 (mkF m 206 #[.val (.int sz), .val (.int bits), .val (.int cnt), .val (.int (7 : Int32)), .val (.ref t), .val (.int b0), .val (.int b1), .val (.int b2), .val (.int b3), .val (.int b4), .val (.int b5), .val (.int b6), .val (.double xx), .second, .val (.int (0 : Int32)), .unset, .unset] [])
                  refine own_go (fun _ => XS.iload X5.here hx rfl (hb hby at_206) rfl ) ?_
                  show own_R p.tables e below _ T5 (mkF m 208 #[.val (.int sz), .val (.int bits), .val (.int cnt), .val (.int (7 : Int32)), .val (.ref t), .val (.int b0), .val (.int b1), .val (.int b2), .val (.int b3), .val (.int b4), .val (.int b5), .val (.int b6), .val (.double xx), .second, .val (.int (0 : Int32)), .unset, .unset] [(.int b0)])
                  by_cases k0 : b0 = (0 : Int32)
                  · show own_R p.tables e below _ T5 (mkF m 208 #[.val (.int sz), .val (.int bits), .val (.int cnt), .val (.int (7 : Int32)), .val (.ref t), .val (.int b0), .val (.int b1), .val (.int b2), .val (.int b3), .val (.int b4), .val (.int b5), .val (.int b6), .val (.double xx), .second, .val (.int (0 : Int32)), .unset, .unset] [(.int b0)])
                    refine own_go (fun _ => XS.ifYes X5.here hx rfl (pc0 := 208) (pc' := 217) rfl (hb hby at_208) rfl ((if0 _ _).trans (teq k0).1) (by decide) (by decide)) ?_
                    show own_R p.tables e below _ T5 (mkF m 217 #[.val (.int sz), .val (.int bits), .val (.int cnt), .val (.int (7 : Int32)), .val (.ref t), .val (.int b0), .val (.int b1), .val (.int b2), .val (.int b3), .val (.int b4), .val (.int b5), .val (.int b6), .val (.double xx), .second, .val (.int (0 : Int32)), .unset, .unset] [])
                    refine own_go (fun _ => XS.iloadN X5.here hx rfl (hb hby at_217) rfl ) ?_
                    show own_R p.tables e below _ T5 (mkF m 218 #[.val (.int sz), .val (.int bits), .val (.int cnt), .val (.int (7 : Int32)), .val (.ref t), .val (.int b0), .val (.int b1), .val (.int b2), .val (.int b3), .val (.int b4), .val (.int b5), .val (.int b6), .val (.double xx), .second, .val (.int (0 : Int32)), .unset, .unset] [(.int (7 : Int32))])
                    refine own_go (fun _ => XS.iconst X5.here hx rfl (hb hby at_218)) ?_
                    show own_R p.tables e below _ T5 (mkF m 219 #[.val (.int sz), .val (.int bits), .val (.int cnt), .val (.int (7 : Int32)), .val (.ref t), .val (.int b0), .val (.int b1), .val (.int b2), .val (.int b3), .val (.int b4), .val (.int b5), .val (.int b6), .val (.double xx), .second, .val (.int (0 : Int32)), .unset, .unset] [(.int (1 : Int32)), (.int (7 : Int32))])
                    refine own_go (fun _ => XS.icmpNo X5.here hx rfl (hb hby at_219) rfl (tlt (by decide)).2.2.2) ?_
                    show own_R p.tables e below _ T5 (mkF m 222 #[.val (.int sz), .val (.int bits), .val (.int cnt), .val (.int (7 : Int32)), .val (.ref t), .val (.int b0), .val (.int b1), .val (.int b2), .val (.int b3), .val (.int b4), .val (.int b5), .val (.int b6), .val (.double xx), .second, .val (.int (0 : Int32)), .unset, .unset] [])
                    refine own_go (fun _ => XS.iload X5.here hx rfl (hb hby at_222) rfl ) ?_
                    show own_R p.tables e below _ T5 (mkF m 224 #[.val (.int sz), .val (.int bits), .val (.int cnt), .val (.int (7 : Int32)), .val (.ref t), .val (.int b0), .val (.int b1), .val (.int b2), .val (.int b3), .val (.int b4), .val (.int b5), .val (.int b6), .val (.double xx), .second, .val (.int (0 : Int32)), .unset, .unset] [(.int b1)])
                    by_cases k1 : b1 = (0 : Int32)
                    · show own_R p.tables e below _ T5 (mkF m 224 #[.val (.int sz), .val (.int bits), .val (.int cnt), .val (.int (7 : Int32)), .val (.ref t), .val (.int b0), .val (.int b1), .val (.int b2), .val (.int b3), .val (.int b4), .val (.int b5), .val (.int b6), .val (.double xx), .second, .val (.int (0 : Int32)), .unset, .unset] [(.int b1)])
                      refine own_go (fun _ => XS.ifYes X5.here hx rfl (pc0 := 224) (pc' := 233) rfl (hb hby at_224) rfl ((if0 _ _).trans (teq k1).1) (by decide) (by decide)) ?_
                      show own_R p.tables e below _ T5 (mkF m 233 #[.val (.int sz), .val (.int bits), .val (.int cnt), .val (.int (7 : Int32)), .val (.ref t), .val (.int b0), .val (.int b1), .val (.int b2), .val (.int b3), .val (.int b4), .val (.int b5), .val (.int b6), .val (.double xx), .second, .val (.int (0 : Int32)), .unset, .unset] [])
                      refine own_go (fun _ => XS.iloadN X5.here hx rfl (hb hby at_233) rfl ) ?_
                      show own_R p.tables e below _ T5 (mkF m 234 #[.val (.int sz), .val (.int bits), .val (.int cnt), .val (.int (7 : Int32)), .val (.ref t), .val (.int b0), .val (.int b1), .val (.int b2), .val (.int b3), .val (.int b4), .val (.int b5), .val (.int b6), .val (.double xx), .second, .val (.int (0 : Int32)), .unset, .unset] [(.int (7 : Int32))])
                      refine own_go (fun _ => XS.iconst X5.here hx rfl (hb hby at_234)) ?_
                      show own_R p.tables e below _ T5 (mkF m 235 #[.val (.int sz), .val (.int bits), .val (.int cnt), .val (.int (7 : Int32)), .val (.ref t), .val (.int b0), .val (.int b1), .val (.int b2), .val (.int b3), .val (.int b4), .val (.int b5), .val (.int b6), .val (.double xx), .second, .val (.int (0 : Int32)), .unset, .unset] [(.int (2 : Int32)), (.int (7 : Int32))])
                      refine own_go (fun _ => XS.icmpNo X5.here hx rfl (hb hby at_235) rfl (tlt (by decide)).2.2.2) ?_
                      show own_R p.tables e below _ T5 (mkF m 238 #[.val (.int sz), .val (.int bits), .val (.int cnt), .val (.int (7 : Int32)), .val (.ref t), .val (.int b0), .val (.int b1), .val (.int b2), .val (.int b3), .val (.int b4), .val (.int b5), .val (.int b6), .val (.double xx), .second, .val (.int (0 : Int32)), .unset, .unset] [])
                      refine own_go (fun _ => XS.iload X5.here hx rfl (hb hby at_238) rfl ) ?_
                      show own_R p.tables e below _ T5 (mkF m 240 #[.val (.int sz), .val (.int bits), .val (.int cnt), .val (.int (7 : Int32)), .val (.ref t), .val (.int b0), .val (.int b1), .val (.int b2), .val (.int b3), .val (.int b4), .val (.int b5), .val (.int b6), .val (.double xx), .second, .val (.int (0 : Int32)), .unset, .unset] [(.int b2)])
                      by_cases k2 : b2 = (0 : Int32)
                      · show own_R p.tables e below _ T5 (mkF m 240 #[.val (.int sz), .val (.int bits), .val (.int cnt), .val (.int (7 : Int32)), .val (.ref t), .val (.int b0), .val (.int b1), .val (.int b2), .val (.int b3), .val (.int b4), .val (.int b5), .val (.int b6), .val (.double xx), .second, .val (.int (0 : Int32)), .unset, .unset] [(.int b2)])
                        refine own_go (fun _ => XS.ifYes X5.here hx rfl (pc0 := 240) (pc' := 249) rfl (hb hby at_240) rfl ((if0 _ _).trans (teq k2).1) (by decide) (by decide)) ?_
                        show own_R p.tables e below _ T5 (mkF m 249 #[.val (.int sz), .val (.int bits), .val (.int cnt), .val (.int (7 : Int32)), .val (.ref t), .val (.int b0), .val (.int b1), .val (.int b2), .val (.int b3), .val (.int b4), .val (.int b5), .val (.int b6), .val (.double xx), .second, .val (.int (0 : Int32)), .unset, .unset] [])
                        refine own_go (fun _ => XS.iloadN X5.here hx rfl (hb hby at_249) rfl ) ?_
                        show own_R p.tables e below _ T5 (mkF m 250 #[.val (.int sz), .val (.int bits), .val (.int cnt), .val (.int (7 : Int32)), .val (.ref t), .val (.int b0), .val (.int b1), .val (.int b2), .val (.int b3), .val (.int b4), .val (.int b5), .val (.int b6), .val (.double xx), .second, .val (.int (0 : Int32)), .unset, .unset] [(.int (7 : Int32))])
                        refine own_go (fun _ => XS.iconst X5.here hx rfl (hb hby at_250)) ?_
                        show own_R p.tables e below _ T5 (mkF m 251 #[.val (.int sz), .val (.int bits), .val (.int cnt), .val (.int (7 : Int32)), .val (.ref t), .val (.int b0), .val (.int b1), .val (.int b2), .val (.int b3), .val (.int b4), .val (.int b5), .val (.int b6), .val (.double xx), .second, .val (.int (0 : Int32)), .unset, .unset] [(.int (3 : Int32)), (.int (7 : Int32))])
                        refine own_go (fun _ => XS.icmpNo X5.here hx rfl (hb hby at_251) rfl (tlt (by decide)).2.2.2) ?_
                        show own_R p.tables e below _ T5 (mkF m 254 #[.val (.int sz), .val (.int bits), .val (.int cnt), .val (.int (7 : Int32)), .val (.ref t), .val (.int b0), .val (.int b1), .val (.int b2), .val (.int b3), .val (.int b4), .val (.int b5), .val (.int b6), .val (.double xx), .second, .val (.int (0 : Int32)), .unset, .unset] [])
                        refine own_go (fun _ => XS.iload X5.here hx rfl (hb hby at_254) rfl ) ?_
                        show own_R p.tables e below _ T5 (mkF m 256 #[.val (.int sz), .val (.int bits), .val (.int cnt), .val (.int (7 : Int32)), .val (.ref t), .val (.int b0), .val (.int b1), .val (.int b2), .val (.int b3), .val (.int b4), .val (.int b5), .val (.int b6), .val (.double xx), .second, .val (.int (0 : Int32)), .unset, .unset] [(.int b3)])
                        by_cases k3 : b3 = (0 : Int32)
                        · show own_R p.tables e below _ T5 (mkF m 256 #[.val (.int sz), .val (.int bits), .val (.int cnt), .val (.int (7 : Int32)), .val (.ref t), .val (.int b0), .val (.int b1), .val (.int b2), .val (.int b3), .val (.int b4), .val (.int b5), .val (.int b6), .val (.double xx), .second, .val (.int (0 : Int32)), .unset, .unset] [(.int b3)])
                          refine own_go (fun _ => XS.ifYes X5.here hx rfl (pc0 := 256) (pc' := 265) rfl (hb hby at_256) rfl ((if0 _ _).trans (teq k3).1) (by decide) (by decide)) ?_
                          show own_R p.tables e below _ T5 (mkF m 265 #[.val (.int sz), .val (.int bits), .val (.int cnt), .val (.int (7 : Int32)), .val (.ref t), .val (.int b0), .val (.int b1), .val (.int b2), .val (.int b3), .val (.int b4), .val (.int b5), .val (.int b6), .val (.double xx), .second, .val (.int (0 : Int32)), .unset, .unset] [])
                          refine own_go (fun _ => XS.iloadN X5.here hx rfl (hb hby at_265) rfl ) ?_
                          show own_R p.tables e below _ T5 (mkF m 266 #[.val (.int sz), .val (.int bits), .val (.int cnt), .val (.int (7 : Int32)), .val (.ref t), .val (.int b0), .val (.int b1), .val (.int b2), .val (.int b3), .val (.int b4), .val (.int b5), .val (.int b6), .val (.double xx), .second, .val (.int (0 : Int32)), .unset, .unset] [(.int (7 : Int32))])
                          refine own_go (fun _ => XS.iconst X5.here hx rfl (hb hby at_266)) ?_
                          show own_R p.tables e below _ T5 (mkF m 267 #[.val (.int sz), .val (.int bits), .val (.int cnt), .val (.int (7 : Int32)), .val (.ref t), .val (.int b0), .val (.int b1), .val (.int b2), .val (.int b3), .val (.int b4), .val (.int b5), .val (.int b6), .val (.double xx), .second, .val (.int (0 : Int32)), .unset, .unset] [(.int (4 : Int32)), (.int (7 : Int32))])
                          refine own_go (fun _ => XS.icmpNo X5.here hx rfl (hb hby at_267) rfl (tlt (by decide)).2.2.2) ?_
                          show own_R p.tables e below _ T5 (mkF m 270 #[.val (.int sz), .val (.int bits), .val (.int cnt), .val (.int (7 : Int32)), .val (.ref t), .val (.int b0), .val (.int b1), .val (.int b2), .val (.int b3), .val (.int b4), .val (.int b5), .val (.int b6), .val (.double xx), .second, .val (.int (0 : Int32)), .unset, .unset] [])
                          refine own_go (fun _ => XS.iload X5.here hx rfl (hb hby at_270) rfl ) ?_
                          show own_R p.tables e below _ T5 (mkF m 272 #[.val (.int sz), .val (.int bits), .val (.int cnt), .val (.int (7 : Int32)), .val (.ref t), .val (.int b0), .val (.int b1), .val (.int b2), .val (.int b3), .val (.int b4), .val (.int b5), .val (.int b6), .val (.double xx), .second, .val (.int (0 : Int32)), .unset, .unset] [(.int b4)])
                          by_cases k4 : b4 = (0 : Int32)
                          · show own_R p.tables e below _ T5 (mkF m 272 #[.val (.int sz), .val (.int bits), .val (.int cnt), .val (.int (7 : Int32)), .val (.ref t), .val (.int b0), .val (.int b1), .val (.int b2), .val (.int b3), .val (.int b4), .val (.int b5), .val (.int b6), .val (.double xx), .second, .val (.int (0 : Int32)), .unset, .unset] [(.int b4)])
                            refine own_go (fun _ => XS.ifYes X5.here hx rfl (pc0 := 272) (pc' := 281) rfl (hb hby at_272) rfl ((if0 _ _).trans (teq k4).1) (by decide) (by decide)) ?_
                            show own_R p.tables e below _ T5 (mkF m 281 #[.val (.int sz), .val (.int bits), .val (.int cnt), .val (.int (7 : Int32)), .val (.ref t), .val (.int b0), .val (.int b1), .val (.int b2), .val (.int b3), .val (.int b4), .val (.int b5), .val (.int b6), .val (.double xx), .second, .val (.int (0 : Int32)), .unset, .unset] [])
                            refine own_go (fun _ => XS.iloadN X5.here hx rfl (hb hby at_281) rfl ) ?_
                            show own_R p.tables e below _ T5 (mkF m 282 #[.val (.int sz), .val (.int bits), .val (.int cnt), .val (.int (7 : Int32)), .val (.ref t), .val (.int b0), .val (.int b1), .val (.int b2), .val (.int b3), .val (.int b4), .val (.int b5), .val (.int b6), .val (.double xx), .second, .val (.int (0 : Int32)), .unset, .unset] [(.int (7 : Int32))])
                            refine own_go (fun _ => XS.iconst X5.here hx rfl (hb hby at_282)) ?_
                            show own_R p.tables e below _ T5 (mkF m 283 #[.val (.int sz), .val (.int bits), .val (.int cnt), .val (.int (7 : Int32)), .val (.ref t), .val (.int b0), .val (.int b1), .val (.int b2), .val (.int b3), .val (.int b4), .val (.int b5), .val (.int b6), .val (.double xx), .second, .val (.int (0 : Int32)), .unset, .unset] [(.int (5 : Int32)), (.int (7 : Int32))])
                            refine own_go (fun _ => XS.icmpNo X5.here hx rfl (hb hby at_283) rfl (tlt (by decide)).2.2.2) ?_
                            show own_R p.tables e below _ T5 (mkF m 286 #[.val (.int sz), .val (.int bits), .val (.int cnt), .val (.int (7 : Int32)), .val (.ref t), .val (.int b0), .val (.int b1), .val (.int b2), .val (.int b3), .val (.int b4), .val (.int b5), .val (.int b6), .val (.double xx), .second, .val (.int (0 : Int32)), .unset, .unset] [])
                            refine own_go (fun _ => XS.iload X5.here hx rfl (hb hby at_286) rfl ) ?_
                            show own_R p.tables e below _ T5 (mkF m 288 #[.val (.int sz), .val (.int bits), .val (.int cnt), .val (.int (7 : Int32)), .val (.ref t), .val (.int b0), .val (.int b1), .val (.int b2), .val (.int b3), .val (.int b4), .val (.int b5), .val (.int b6), .val (.double xx), .second, .val (.int (0 : Int32)), .unset, .unset] [(.int b5)])
                            by_cases k5 : b5 = (0 : Int32)
                            · show own_R p.tables e below _ T5 (mkF m 288 #[.val (.int sz), .val (.int bits), .val (.int cnt), .val (.int (7 : Int32)), .val (.ref t), .val (.int b0), .val (.int b1), .val (.int b2), .val (.int b3), .val (.int b4), .val (.int b5), .val (.int b6), .val (.double xx), .second, .val (.int (0 : Int32)), .unset, .unset] [(.int b5)])
                              refine own_go (fun _ => XS.ifYes X5.here hx rfl (pc0 := 288) (pc' := 298) rfl (hb hby at_288) rfl ((if0 _ _).trans (teq k5).1) (by decide) (by decide)) ?_
                              show own_R p.tables e below _ T5 (mkF m 298 #[.val (.int sz), .val (.int bits), .val (.int cnt), .val (.int (7 : Int32)), .val (.ref t), .val (.int b0), .val (.int b1), .val (.int b2), .val (.int b3), .val (.int b4), .val (.int b5), .val (.int b6), .val (.double xx), .second, .val (.int (0 : Int32)), .unset, .unset] [])
                              refine own_go (fun _ => XS.iloadN X5.here hx rfl (hb hby at_298) rfl ) ?_
                              show own_R p.tables e below _ T5 (mkF m 299 #[.val (.int sz), .val (.int bits), .val (.int cnt), .val (.int (7 : Int32)), .val (.ref t), .val (.int b0), .val (.int b1), .val (.int b2), .val (.int b3), .val (.int b4), .val (.int b5), .val (.int b6), .val (.double xx), .second, .val (.int (0 : Int32)), .unset, .unset] [(.int (7 : Int32))])
                              refine own_go (fun _ => XS.bipush X5.here hx rfl (hb hby at_299)) ?_
                              show own_R p.tables e below _ T5 (mkF m 301 #[.val (.int sz), .val (.int bits), .val (.int cnt), .val (.int (7 : Int32)), .val (.ref t), .val (.int b0), .val (.int b1), .val (.int b2), .val (.int b3), .val (.int b4), .val (.int b5), .val (.int b6), .val (.double xx), .second, .val (.int (0 : Int32)), .unset, .unset] [(.int (6 : Int32)), (.int (7 : Int32))])
                              refine own_go (fun _ => XS.icmpNo X5.here hx rfl (hb hby at_301) rfl (tlt (by decide)).2.2.2) ?_
                              show own_R p.tables e below _ T5 (mkF m 304 #[.val (.int sz), .val (.int bits), .val (.int cnt), .val (.int (7 : Int32)), .val (.ref t), .val (.int b0), .val (.int b1), .val (.int b2), .val (.int b3), .val (.int b4), .val (.int b5), .val (.int b6), .val (.double xx), .second, .val (.int (0 : Int32)), .unset, .unset] [])
                              refine own_go (fun _ => XS.iload X5.here hx rfl (hb hby at_304) rfl ) ?_
                              show own_R p.tables e below _ T5 (mkF m 306 #[.val (.int sz), .val (.int bits), .val (.int cnt), .val (.int (7 : Int32)), .val (.ref t), .val (.int b0), .val (.int b1), .val (.int b2), .val (.int b3), .val (.int b4), .val (.int b5), .val (.int b6), .val (.double xx), .second, .val (.int (0 : Int32)), .unset, .unset] [(.int b6)])
                              by_cases k6 : b6 = (0 : Int32)
                              · show own_R p.tables e below _ T5 (mkF m 306 #[.val (.int sz), .val (.int bits), .val (.int cnt), .val (.int (7 : Int32)), .val (.ref t), .val (.int b0), .val (.int b1), .val (.int b2), .val (.int b3), .val (.int b4), .val (.int b5), .val (.int b6), .val (.double xx), .second, .val (.int (0 : Int32)), .unset, .unset] [(.int b6)])
                                refine own_go (fun _ => XS.ifYes X5.here hx rfl (pc0 := 306) (pc' := 313) rfl (hb hby at_306) rfl ((if0 _ _).trans (teq k6).1) (by decide) (by decide)) ?_
                                show own_R p.tables e below _ T5 (mkF m 313 #[.val (.int sz), .val (.int bits), .val (.int cnt), .val (.int (7 : Int32)), .val (.ref t), .val (.int b0), .val (.int b1), .val (.int b2), .val (.int b3), .val (.int b4), .val (.int b5), .val (.int b6), .val (.double xx), .second, .val (.int (0 : Int32)), .unset, .unset] [])
                                exact JT 0 (hxx.symm.trans (by simp [own_rr, own_fx, k0, k1, k2, k3, k4, k5, k6])) (own_fn 0)
                              · show own_R p.tables e below _ T5 (mkF m 306 #[.val (.int sz), .val (.int bits), .val (.int cnt), .val (.int (7 : Int32)), .val (.ref t), .val (.int b0), .val (.int b1), .val (.int b2), .val (.int b3), .val (.int b4), .val (.int b5), .val (.int b6), .val (.double xx), .second, .val (.int (0 : Int32)), .unset, .unset] [(.int b6)])
                                refine own_go (fun _ => XS.ifNo X5.here hx rfl (hb hby at_306) rfl ((if0 _ _).trans (feq k6).1)) ?_
                                show own_R p.tables e below _ T5 (mkF m 309 #[.val (.int sz), .val (.int bits), .val (.int cnt), .val (.int (7 : Int32)), .val (.ref t), .val (.int b0), .val (.int b1), .val (.int b2), .val (.int b3), .val (.int b4), .val (.int b5), .val (.int b6), .val (.double xx), .second, .val (.int (0 : Int32)), .unset, .unset] [])
                                refine own_go (fun _ => XS.bipush X5.here hx rfl (hb hby at_309)) ?_
                                refine own_go (fun _ => XS.istore X5.here hx rfl (hb hby at_311) rfl (l' := #[.val (.int sz), .val (.int bits), .val (.int cnt), .val (.int (7 : Int32)), .val (.ref t), .val (.int b0), .val (.int b1), .val (.int b2), .val (.int b3), .val (.int b4), .val (.int b5), .val (.int b6), .val (.double xx), .second, .val (.int (7 : Int32)), .unset, .unset]) rfl) ?_
                                show own_R p.tables e below _ T5 (mkF m 313 #[.val (.int sz), .val (.int bits), .val (.int cnt), .val (.int (7 : Int32)), .val (.ref t), .val (.int b0), .val (.int b1), .val (.int b2), .val (.int b3), .val (.int b4), .val (.int b5), .val (.int b6), .val (.double xx), .second, .val (.int (7 : Int32)), .unset, .unset] [])
                                exact JT 7 (hxx.symm.trans (by simp [own_rr, own_fx, k0, k1, k2, k3, k4, k5, k6])) (own_fn 7)
                            · show own_R p.tables e below _ T5 (mkF m 288 #[.val (.int sz), .val (.int bits), .val (.int cnt), .val (.int (7 : Int32)), .val (.ref t), .val (.int b0), .val (.int b1), .val (.int b2), .val (.int b3), .val (.int b4), .val (.int b5), .val (.int b6), .val (.double xx), .second, .val (.int (0 : Int32)), .unset, .unset] [(.int b5)])
                              refine own_go (fun _ => XS.ifNo X5.here hx rfl (hb hby at_288) rfl ((if0 _ _).trans (feq k5).1)) ?_
                              show own_R p.tables e below _ T5 (mkF m 291 #[.val (.int sz), .val (.int bits), .val (.int cnt), .val (.int (7 : Int32)), .val (.ref t), .val (.int b0), .val (.int b1), .val (.int b2), .val (.int b3), .val (.int b4), .val (.int b5), .val (.int b6), .val (.double xx), .second, .val (.int (0 : Int32)), .unset, .unset] [])
                              refine own_go (fun _ => XS.bipush X5.here hx rfl (hb hby at_291)) ?_
                              refine own_go (fun _ => XS.istore X5.here hx rfl (hb hby at_293) rfl (l' := #[.val (.int sz), .val (.int bits), .val (.int cnt), .val (.int (7 : Int32)), .val (.ref t), .val (.int b0), .val (.int b1), .val (.int b2), .val (.int b3), .val (.int b4), .val (.int b5), .val (.int b6), .val (.double xx), .second, .val (.int (6 : Int32)), .unset, .unset]) rfl) ?_
                              refine own_go (fun _ => XS.goto X5.here hx rfl (pc0 := 295) (pc' := 313) rfl (hb hby at_295) (by decide) (by decide)) ?_
                              show own_R p.tables e below _ T5 (mkF m 313 #[.val (.int sz), .val (.int bits), .val (.int cnt), .val (.int (7 : Int32)), .val (.ref t), .val (.int b0), .val (.int b1), .val (.int b2), .val (.int b3), .val (.int b4), .val (.int b5), .val (.int b6), .val (.double xx), .second, .val (.int (6 : Int32)), .unset, .unset] [])
                              exact JT 6 (hxx.symm.trans (by simp [own_rr, own_fx, k0, k1, k2, k3, k4, k5])) (own_fn 6)
                          · show own_R p.tables e below _ T5 (mkF m 272 #[.val (.int sz), .val (.int bits), .val (.int cnt), .val (.int (7 : Int32)), .val (.ref t), .val (.int b0), .val (.int b1), .val (.int b2), .val (.int b3), .val (.int b4), .val (.int b5), .val (.int b6), .val (.double xx), .second, .val (.int (0 : Int32)), .unset, .unset] [(.int b4)])
                            refine own_go (fun _ => XS.ifNo X5.here hx rfl (hb hby at_272) rfl ((if0 _ _).trans (feq k4).1)) ?_
                            show own_R p.tables e below _ T5 (mkF m 275 #[.val (.int sz), .val (.int bits), .val (.int cnt), .val (.int (7 : Int32)), .val (.ref t), .val (.int b0), .val (.int b1), .val (.int b2), .val (.int b3), .val (.int b4), .val (.int b5), .val (.int b6), .val (.double xx), .second, .val (.int (0 : Int32)), .unset, .unset] [])
                            refine own_go (fun _ => XS.iconst X5.here hx rfl (hb hby at_275)) ?_
                            refine own_go (fun _ => XS.istore X5.here hx rfl (hb hby at_276) rfl (l' := #[.val (.int sz), .val (.int bits), .val (.int cnt), .val (.int (7 : Int32)), .val (.ref t), .val (.int b0), .val (.int b1), .val (.int b2), .val (.int b3), .val (.int b4), .val (.int b5), .val (.int b6), .val (.double xx), .second, .val (.int (5 : Int32)), .unset, .unset]) rfl) ?_
                            refine own_go (fun _ => XS.goto X5.here hx rfl (pc0 := 278) (pc' := 313) rfl (hb hby at_278) (by decide) (by decide)) ?_
                            show own_R p.tables e below _ T5 (mkF m 313 #[.val (.int sz), .val (.int bits), .val (.int cnt), .val (.int (7 : Int32)), .val (.ref t), .val (.int b0), .val (.int b1), .val (.int b2), .val (.int b3), .val (.int b4), .val (.int b5), .val (.int b6), .val (.double xx), .second, .val (.int (5 : Int32)), .unset, .unset] [])
                            exact JT 5 (hxx.symm.trans (by simp [own_rr, own_fx, k0, k1, k2, k3, k4])) (own_fn 5)
                        · show own_R p.tables e below _ T5 (mkF m 256 #[.val (.int sz), .val (.int bits), .val (.int cnt), .val (.int (7 : Int32)), .val (.ref t), .val (.int b0), .val (.int b1), .val (.int b2), .val (.int b3), .val (.int b4), .val (.int b5), .val (.int b6), .val (.double xx), .second, .val (.int (0 : Int32)), .unset, .unset] [(.int b3)])
                          refine own_go (fun _ => XS.ifNo X5.here hx rfl (hb hby at_256) rfl ((if0 _ _).trans (feq k3).1)) ?_
                          show own_R p.tables e below _ T5 (mkF m 259 #[.val (.int sz), .val (.int bits), .val (.int cnt), .val (.int (7 : Int32)), .val (.ref t), .val (.int b0), .val (.int b1), .val (.int b2), .val (.int b3), .val (.int b4), .val (.int b5), .val (.int b6), .val (.double xx), .second, .val (.int (0 : Int32)), .unset, .unset] [])
                          refine own_go (fun _ => XS.iconst X5.here hx rfl (hb hby at_259)) ?_
                          refine own_go (fun _ => XS.istore X5.here hx rfl (hb hby at_260) rfl (l' := #[.val (.int sz), .val (.int bits), .val (.int cnt), .val (.int (7 : Int32)), .val (.ref t), .val (.int b0), .val (.int b1), .val (.int b2), .val (.int b3), .val (.int b4), .val (.int b5), .val (.int b6), .val (.double xx), .second, .val (.int (4 : Int32)), .unset, .unset]) rfl) ?_
                          refine own_go (fun _ => XS.goto X5.here hx rfl (pc0 := 262) (pc' := 313) rfl (hb hby at_262) (by decide) (by decide)) ?_
                          show own_R p.tables e below _ T5 (mkF m 313 #[.val (.int sz), .val (.int bits), .val (.int cnt), .val (.int (7 : Int32)), .val (.ref t), .val (.int b0), .val (.int b1), .val (.int b2), .val (.int b3), .val (.int b4), .val (.int b5), .val (.int b6), .val (.double xx), .second, .val (.int (4 : Int32)), .unset, .unset] [])
                          exact JT 4 (hxx.symm.trans (by simp [own_rr, own_fx, k0, k1, k2, k3])) (own_fn 4)
                      · show own_R p.tables e below _ T5 (mkF m 240 #[.val (.int sz), .val (.int bits), .val (.int cnt), .val (.int (7 : Int32)), .val (.ref t), .val (.int b0), .val (.int b1), .val (.int b2), .val (.int b3), .val (.int b4), .val (.int b5), .val (.int b6), .val (.double xx), .second, .val (.int (0 : Int32)), .unset, .unset] [(.int b2)])
                        refine own_go (fun _ => XS.ifNo X5.here hx rfl (hb hby at_240) rfl ((if0 _ _).trans (feq k2).1)) ?_
                        show own_R p.tables e below _ T5 (mkF m 243 #[.val (.int sz), .val (.int bits), .val (.int cnt), .val (.int (7 : Int32)), .val (.ref t), .val (.int b0), .val (.int b1), .val (.int b2), .val (.int b3), .val (.int b4), .val (.int b5), .val (.int b6), .val (.double xx), .second, .val (.int (0 : Int32)), .unset, .unset] [])
                        refine own_go (fun _ => XS.iconst X5.here hx rfl (hb hby at_243)) ?_
                        refine own_go (fun _ => XS.istore X5.here hx rfl (hb hby at_244) rfl (l' := #[.val (.int sz), .val (.int bits), .val (.int cnt), .val (.int (7 : Int32)), .val (.ref t), .val (.int b0), .val (.int b1), .val (.int b2), .val (.int b3), .val (.int b4), .val (.int b5), .val (.int b6), .val (.double xx), .second, .val (.int (3 : Int32)), .unset, .unset]) rfl) ?_
                        refine own_go (fun _ => XS.goto X5.here hx rfl (pc0 := 246) (pc' := 313) rfl (hb hby at_246) (by decide) (by decide)) ?_
                        show own_R p.tables e below _ T5 (mkF m 313 #[.val (.int sz), .val (.int bits), .val (.int cnt), .val (.int (7 : Int32)), .val (.ref t), .val (.int b0), .val (.int b1), .val (.int b2), .val (.int b3), .val (.int b4), .val (.int b5), .val (.int b6), .val (.double xx), .second, .val (.int (3 : Int32)), .unset, .unset] [])
                        exact JT 3 (hxx.symm.trans (by simp [own_rr, own_fx, k0, k1, k2])) (own_fn 3)
                    · show own_R p.tables e below _ T5 (mkF m 224 #[.val (.int sz), .val (.int bits), .val (.int cnt), .val (.int (7 : Int32)), .val (.ref t), .val (.int b0), .val (.int b1), .val (.int b2), .val (.int b3), .val (.int b4), .val (.int b5), .val (.int b6), .val (.double xx), .second, .val (.int (0 : Int32)), .unset, .unset] [(.int b1)])
                      refine own_go (fun _ => XS.ifNo X5.here hx rfl (hb hby at_224) rfl ((if0 _ _).trans (feq k1).1)) ?_
                      show own_R p.tables e below _ T5 (mkF m 227 #[.val (.int sz), .val (.int bits), .val (.int cnt), .val (.int (7 : Int32)), .val (.ref t), .val (.int b0), .val (.int b1), .val (.int b2), .val (.int b3), .val (.int b4), .val (.int b5), .val (.int b6), .val (.double xx), .second, .val (.int (0 : Int32)), .unset, .unset] [])
                      refine own_go (fun _ => XS.iconst X5.here hx rfl (hb hby at_227)) ?_
                      refine own_go (fun _ => XS.istore X5.here hx rfl (hb hby at_228) rfl (l' := #[.val (.int sz), .val (.int bits), .val (.int cnt), .val (.int (7 : Int32)), .val (.ref t), .val (.int b0), .val (.int b1), .val (.int b2), .val (.int b3), .val (.int b4), .val (.int b5), .val (.int b6), .val (.double xx), .second, .val (.int (2 : Int32)), .unset, .unset]) rfl) ?_
                      refine own_go (fun _ => XS.goto X5.here hx rfl (pc0 := 230) (pc' := 313) rfl (hb hby at_230) (by decide) (by decide)) ?_
                      show own_R p.tables e below _ T5 (mkF m 313 #[.val (.int sz), .val (.int bits), .val (.int cnt), .val (.int (7 : Int32)), .val (.ref t), .val (.int b0), .val (.int b1), .val (.int b2), .val (.int b3), .val (.int b4), .val (.int b5), .val (.int b6), .val (.double xx), .second, .val (.int (2 : Int32)), .unset, .unset] [])
                      exact JT 2 (hxx.symm.trans (by simp [own_rr, own_fx, k0, k1])) (own_fn 2)
                  · show own_R p.tables e below _ T5 (mkF m 208 #[.val (.int sz), .val (.int bits), .val (.int cnt), .val (.int (7 : Int32)), .val (.ref t), .val (.int b0), .val (.int b1), .val (.int b2), .val (.int b3), .val (.int b4), .val (.int b5), .val (.int b6), .val (.double xx), .second, .val (.int (0 : Int32)), .unset, .unset] [(.int b0)])
                    refine own_go (fun _ => XS.ifNo X5.here hx rfl (hb hby at_208) rfl ((if0 _ _).trans (feq k0).1)) ?_
                    show own_R p.tables e below _ T5 (mkF m 211 #[.val (.int sz), .val (.int bits), .val (.int cnt), .val (.int (7 : Int32)), .val (.ref t), .val (.int b0), .val (.int b1), .val (.int b2), .val (.int b3), .val (.int b4), .val (.int b5), .val (.int b6), .val (.double xx), .second, .val (.int (0 : Int32)), .unset, .unset] [])
                    refine own_go (fun _ => XS.iconst X5.here hx rfl (hb hby at_211)) ?_
                    refine own_go (fun _ => XS.istore X5.here hx rfl (hb hby at_212) rfl (l' := #[.val (.int sz), .val (.int bits), .val (.int cnt), .val (.int (7 : Int32)), .val (.ref t), .val (.int b0), .val (.int b1), .val (.int b2), .val (.int b3), .val (.int b4), .val (.int b5), .val (.int b6), .val (.double xx), .second, .val (.int (1 : Int32)), .unset, .unset]) rfl) ?_
                    refine own_go (fun _ => XS.goto X5.here hx rfl (pc0 := 214) (pc' := 313) rfl (hb hby at_214) (by decide) (by decide)) ?_
                    show own_R p.tables e below _ T5 (mkF m 313 #[.val (.int sz), .val (.int bits), .val (.int cnt), .val (.int (7 : Int32)), .val (.ref t), .val (.int b0), .val (.int b1), .val (.int b2), .val (.int b3), .val (.int b4), .val (.int b5), .val (.int b6), .val (.double xx), .second, .val (.int (1 : Int32)), .unset, .unset] [])
                    exact JT 1 (hxx.symm.trans (by simp [own_rr, own_fx, k0])) (own_fn 1)
              by_cases t6 : (bits &&& (64 : Int32)) = (0 : Int32)
              · show own_R p.tables e below _ T1 (mkF m 96 #[.val (.int sz), .val (.int bits), .val (.int cnt), .val (.int n), .val (.ref t), .val (.int b0), .val (.int b1), .val (.int b2), .val (.int b3), .val (.int b4), .val (.int b5), .unset, .unset, .unset, .unset, .unset, .unset] [(.int (bits &&& (64 : Int32)))])
                refine own_go (fun _ => XS.ifYes X1.here hx rfl (pc0 := 96) (pc' := 103) rfl (hb hby at_96) rfl ((if0 _ _).trans (teq t6).1) (by decide) (by decide)) ?_
                show own_R p.tables e below _ T1 (mkF m 103 #[.val (.int sz), .val (.int bits), .val (.int cnt), .val (.int n), .val (.ref t), .val (.int b0), .val (.int b1), .val (.int b2), .val (.int b3), .val (.int b4), .val (.int b5), .unset, .unset, .unset, .unset, .unset, .unset] [])
                refine own_go (fun _ => XS.iconst X1.here hx rfl (hb hby at_103)) ?_
                refine own_go (fun _ => XS.istore X1.here hx rfl (hb hby at_104) rfl (l' := #[.val (.int sz), .val (.int bits), .val (.int cnt), .val (.int n), .val (.ref t), .val (.int b0), .val (.int b1), .val (.int b2), .val (.int b3), .val (.int b4), .val (.int b5), .val (.int (0 : Int32)), .unset, .unset, .unset, .unset, .unset]) rfl) ?_
                show own_R p.tables e below _ T1 (mkF m 106 #[.val (.int sz), .val (.int bits), .val (.int cnt), .val (.int n), .val (.ref t), .val (.int b0), .val (.int b1), .val (.int b2), .val (.int b3), .val (.int b4), .val (.int b5), .val (.int (0 : Int32)), .unset, .unset, .unset, .unset, .unset] [])
                exact J6 _ (Or.inl rfl)
              · show own_R p.tables e below _ T1 (mkF m 96 #[.val (.int sz), .val (.int bits), .val (.int cnt), .val (.int n), .val (.ref t), .val (.int b0), .val (.int b1), .val (.int b2), .val (.int b3), .val (.int b4), .val (.int b5), .unset, .unset, .unset, .unset, .unset, .unset] [(.int (bits &&& (64 : Int32)))])
                refine own_go (fun _ => XS.ifNo X1.here hx rfl (hb hby at_96) rfl ((if0 _ _).trans (feq t6).1)) ?_
                show own_R p.tables e below _ T1 (mkF m 99 #[.val (.int sz), .val (.int bits), .val (.int cnt), .val (.int n), .val (.ref t), .val (.int b0), .val (.int b1), .val (.int b2), .val (.int b3), .val (.int b4), .val (.int b5), .unset, .unset, .unset, .unset, .unset, .unset] [])
                refine own_go (fun _ => XS.iconst X1.here hx rfl (hb hby at_99)) ?_
                refine own_go (fun _ => XS.goto X1.here hx rfl (pc0 := 100) (pc' := 104) rfl (hb hby at_100) (by decide) (by decide)) ?_
                refine own_go (fun _ => XS.istore X1.here hx rfl (hb hby at_104) rfl (l' := #[.val (.int sz), .val (.int bits), .val (.int cnt), .val (.int n), .val (.ref t), .val (.int b0), .val (.int b1), .val (.int b2), .val (.int b3), .val (.int b4), .val (.int b5), .val (.int (1 : Int32)), .unset, .unset, .unset, .unset, .unset]) rfl) ?_
                show own_R p.tables e below _ T1 (mkF m 106 #[.val (.int sz), .val (.int bits), .val (.int cnt), .val (.int n), .val (.ref t), .val (.int b0), .val (.int b1), .val (.int b2), .val (.int b3), .val (.int b4), .val (.int b5), .val (.int (1 : Int32)), .unset, .unset, .unset, .unset, .unset] [])
                exact J6 _ (Or.inr rfl)
            by_cases t5 : (bits &&& (32 : Int32)) = (0 : Int32)
            · show own_R p.tables e below _ T1 (mkF m 82 #[.val (.int sz), .val (.int bits), .val (.int cnt), .val (.int n), .val (.ref t), .val (.int b0), .val (.int b1), .val (.int b2), .val (.int b3), .val (.int b4), .unset, .unset, .unset, .unset, .unset, .unset, .unset] [(.int (bits &&& (32 : Int32)))])
              refine own_go (fun _ => XS.ifYes X1.here hx rfl (pc0 := 82) (pc' := 89) rfl (hb hby at_82) rfl ((if0 _ _).trans (teq t5).1) (by decide) (by decide)) ?_
              show own_R p.tables e below _ T1 (mkF m 89 #[.val (.int sz), .val (.int bits), .val (.int cnt), .val (.int n), .val (.ref t), .val (.int b0), .val (.int b1), .val (.int b2), .val (.int b3), .val (.int b4), .unset, .unset, .unset, .unset, .unset, .unset, .unset] [])
              refine own_go (fun _ => XS.iconst X1.here hx rfl (hb hby at_89)) ?_
              refine own_go (fun _ => XS.istore X1.here hx rfl (hb hby at_90) rfl (l' := #[.val (.int sz), .val (.int bits), .val (.int cnt), .val (.int n), .val (.ref t), .val (.int b0), .val (.int b1), .val (.int b2), .val (.int b3), .val (.int b4), .val (.int (0 : Int32)), .unset, .unset, .unset, .unset, .unset, .unset]) rfl) ?_
              show own_R p.tables e below _ T1 (mkF m 92 #[.val (.int sz), .val (.int bits), .val (.int cnt), .val (.int n), .val (.ref t), .val (.int b0), .val (.int b1), .val (.int b2), .val (.int b3), .val (.int b4), .val (.int (0 : Int32)), .unset, .unset, .unset, .unset, .unset, .unset] [])
              exact J5 _ (Or.inl rfl)
            · show own_R p.tables e below _ T1 (mkF m 82 #[.val (.int sz), .val (.int bits), .val (.int cnt), .val (.int n), .val (.ref t), .val (.int b0), .val (.int b1), .val (.int b2), .val (.int b3), .val (.int b4), .unset, .unset, .unset, .unset, .unset, .unset, .unset] [(.int (bits &&& (32 : Int32)))])
              refine own_go (fun _ => XS.ifNo X1.here hx rfl (hb hby at_82) rfl ((if0 _ _).trans (feq t5).1)) ?_
              show own_R p.tables e below _ T1 (mkF m 85 #[.val (.int sz), .val (.int bits), .val (.int cnt), .val (.int n), .val (.ref t), .val (.int b0), .val (.int b1), .val (.int b2), .val (.int b3), .val (.int b4), .unset, .unset, .unset, .unset, .unset, .unset, .unset] [])
              refine own_go (fun _ => XS.iconst X1.here hx rfl (hb hby at_85)) ?_
              refine own_go (fun _ => XS.goto X1.here hx rfl (pc0 := 86) (pc' := 90) rfl (hb hby at_86) (by decide) (by decide)) ?_
              refine own_go (fun _ => XS.istore X1.here hx rfl (hb hby at_90) rfl (l' := #[.val (.int sz), .val (.int bits), .val (.int cnt), .val (.int n), .val (.ref t), .val (.int b0), .val (.int b1), .val (.int b2), .val (.int b3), .val (.int b4), .val (.int (1 : Int32)), .unset, .unset, .unset, .unset, .unset, .unset]) rfl) ?_
              show own_R p.tables e below _ T1 (mkF m 92 #[.val (.int sz), .val (.int bits), .val (.int cnt), .val (.int n), .val (.ref t), .val (.int b0), .val (.int b1), .val (.int b2), .val (.int b3), .val (.int b4), .val (.int (1 : Int32)), .unset, .unset, .unset, .unset, .unset, .unset] [])
              exact J5 _ (Or.inr rfl)
          by_cases t4 : (bits &&& (16 : Int32)) = (0 : Int32)
          · show own_R p.tables e below _ T1 (mkF m 68 #[.val (.int sz), .val (.int bits), .val (.int cnt), .val (.int n), .val (.ref t), .val (.int b0), .val (.int b1), .val (.int b2), .val (.int b3), .unset, .unset, .unset, .unset, .unset, .unset, .unset, .unset] [(.int (bits &&& (16 : Int32)))])
            refine own_go (fun _ => XS.ifYes X1.here hx rfl (pc0 := 68) (pc' := 75) rfl (hb hby at_68) rfl ((if0 _ _).trans (teq t4).1) (by decide) (by decide)) ?_
            show own_R p.tables e below _ T1 (mkF m 75 #[.val (.int sz), .val (.int bits), .val (.int cnt), .val (.int n), .val (.ref t), .val (.int b0), .val (.int b1), .val (.int b2), .val (.int b3), .unset, .unset, .unset, .unset, .unset, .unset, .unset, .unset] [])
            refine own_go (fun _ => XS.iconst X1.here hx rfl (hb hby at_75)) ?_
            refine own_go (fun _ => XS.istore X1.here hx rfl (hb hby at_76) rfl (l' := #[.val (.int sz), .val (.int bits), .val (.int cnt), .val (.int n), .val (.ref t), .val (.int b0), .val (.int b1), .val (.int b2), .val (.int b3), .val (.int (0 : Int32)), .unset, .unset, .unset, .unset, .unset, .unset, .unset]) rfl) ?_
            show own_R p.tables e below _ T1 (mkF m 78 #[.val (.int sz), .val (.int bits), .val (.int cnt), .val (.int n), .val (.ref t), .val (.int b0), .val (.int b1), .val (.int b2), .val (.int b3), .val (.int (0 : Int32)), .unset, .unset, .unset, .unset, .unset, .unset, .unset] [])
            exact J4 _ (Or.inl rfl)
          · show own_R p.tables e below _ T1 (mkF m 68 #[.val (.int sz), .val (.int bits), .val (.int cnt), .val (.int n), .val (.ref t), .val (.int b0), .val (.int b1), .val (.int b2), .val (.int b3), .unset, .unset, .unset, .unset, .unset, .unset, .unset, .unset] [(.int (bits &&& (16 : Int32)))])
            refine own_go (fun _ => XS.ifNo X1.here hx rfl (hb hby at_68) rfl ((if0 _ _).trans (feq t4).1)) ?_
            show own_R p.tables e below _ T1 (mkF m 71 #[.val (.int sz), .val (.int bits), .val (.int cnt), .val (.int n), .val (.ref t), .val (.int b0), .val (.int b1), .val (.int b2), .val (.int b3), .unset, .unset, .unset, .unset, .unset, .unset, .unset, .unset] [])
            refine own_go (fun _ => XS.iconst X1.here hx rfl (hb hby at_71)) ?_
            refine own_go (fun _ => XS.goto X1.here hx rfl (pc0 := 72) (pc' := 76) rfl (hb hby at_72) (by decide) (by decide)) ?_
            refine own_go (fun _ => XS.istore X1.here hx rfl (hb hby at_76) rfl (l' := #[.val (.int sz), .val (.int bits), .val (.int cnt), .val (.int n), .val (.ref t), .val (.int b0), .val (.int b1), .val (.int b2), .val (.int b3), .val (.int (1 : Int32)), .unset, .unset, .unset, .unset, .unset, .unset, .unset]) rfl) ?_
            show own_R p.tables e below _ T1 (mkF m 78 #[.val (.int sz), .val (.int bits), .val (.int cnt), .val (.int n), .val (.ref t), .val (.int b0), .val (.int b1), .val (.int b2), .val (.int b3), .val (.int (1 : Int32)), .unset, .unset, .unset, .unset, .unset, .unset, .unset] [])
            exact J4 _ (Or.inr rfl)
        by_cases t3 : (bits &&& (8 : Int32)) = (0 : Int32)
        · show own_R p.tables e below _ T1 (mkF m 54 #[.val (.int sz), .val (.int bits), .val (.int cnt), .val (.int n), .val (.ref t), .val (.int b0), .val (.int b1), .val (.int b2), .unset, .unset, .unset, .unset, .unset, .unset, .unset, .unset, .unset] [(.int (bits &&& (8 : Int32)))])
          refine own_go (fun _ => XS.ifYes X1.here hx rfl (pc0 := 54) (pc' := 61) rfl (hb hby at_54) rfl ((if0 _ _).trans (teq t3).1) (by decide) (by decide)) ?_
          show own_R p.tables e below _ T1 (mkF m 61 #[.val (.int sz), .val (.int bits), .val (.int cnt), .val (.int n), .val (.ref t), .val (.int b0), .val (.int b1), .val (.int b2), .unset, .unset, .unset, .unset, .unset, .unset, .unset, .unset, .unset] [])
          refine own_go (fun _ => XS.iconst X1.here hx rfl (hb hby at_61)) ?_
          refine own_go (fun _ => XS.istore X1.here hx rfl (hb hby at_62) rfl (l' := #[.val (.int sz), .val (.int bits), .val (.int cnt), .val (.int n), .val (.ref t), .val (.int b0), .val (.int b1), .val (.int b2), .val (.int (0 : Int32)), .unset, .unset, .unset, .unset, .unset, .unset, .unset, .unset]) rfl) ?_
          show own_R p.tables e below _ T1 (mkF m 64 #[.val (.int sz), .val (.int bits), .val (.int cnt), .val (.int n), .val (.ref t), .val (.int b0), .val (.int b1), .val (.int b2), .val (.int (0 : Int32)), .unset, .unset, .unset, .unset, .unset, .unset, .unset, .unset] [])
          exact J3 _ (Or.inl rfl)
        · show own_R p.tables e below _ T1 (mkF m 54 #[.val (.int sz), .val (.int bits), .val (.int cnt), .val (.int n), .val (.ref t), .val (.int b0), .val (.int b1), .val (.int b2), .unset, .unset, .unset, .unset, .unset, .unset, .unset, .unset, .unset] [(.int (bits &&& (8 : Int32)))])
          refine own_go (fun _ => XS.ifNo X1.here hx rfl (hb hby at_54) rfl ((if0 _ _).trans (feq t3).1)) ?_
          show own_R p.tables e below _ T1 (mkF m 57 #[.val (.int sz), .val (.int bits), .val (.int cnt), .val (.int n), .val (.ref t), .val (.int b0), .val (.int b1), .val (.int b2), .unset, .unset, .unset, .unset, .unset, .unset, .unset, .unset, .unset] [])
          refine own_go (fun _ => XS.iconst X1.here hx rfl (hb hby at_57)) ?_
          refine own_go (fun _ => XS.goto X1.here hx rfl (pc0 := 58) (pc' := 62) rfl (hb hby at_58) (by decide) (by decide)) ?_
          refine own_go (fun _ => XS.istore X1.here hx rfl (hb hby at_62) rfl (l' := #[.val (.int sz), .val (.int bits), .val (.int cnt), .val (.int n), .val (.ref t), .val (.int b0), .val (.int b1), .val (.int b2), .val (.int (1 : Int32)), .unset, .unset, .unset, .unset, .unset, .unset, .unset, .unset]) rfl) ?_
          show own_R p.tables e below _ T1 (mkF m 64 #[.val (.int sz), .val (.int bits), .val (.int cnt), .val (.int n), .val (.ref t), .val (.int b0), .val (.int b1), .val (.int b2), .val (.int (1 : Int32)), .unset, .unset, .unset, .unset, .unset, .unset, .unset, .unset] [])
          exact J3 _ (Or.inr rfl)
      by_cases t2 : (bits &&& (4 : Int32)) = (0 : Int32)
      · show own_R p.tables e below _ T1 (mkF m 40 #[.val (.int sz), .val (.int bits), .val (.int cnt), .val (.int n), .val (.ref t), .val (.int b0), .val (.int b1), .unset, .unset, .unset, .unset, .unset, .unset, .unset, .unset, .unset, .unset] [(.int (bits &&& (4 : Int32)))])
        refine own_go (fun _ => XS.ifYes X1.here hx rfl (pc0 := 40) (pc' := 47) rfl (hb hby at_40) rfl ((if0 _ _).trans (teq t2).1) (by decide) (by decide)) ?_
        show own_R p.tables e below _ T1 (mkF m 47 #[.val (.int sz), .val (.int bits), .val (.int cnt), .val (.int n), .val (.ref t), .val (.int b0), .val (.int b1), .unset, .unset, .unset, .unset, .unset, .unset, .unset, .unset, .unset, .unset] [])
        refine own_go (fun _ => XS.iconst X1.here hx rfl (hb hby at_47)) ?_
        refine own_go (fun _ => XS.istore X1.here hx rfl (hb hby at_48) rfl (l' := #[.val (.int sz), .val (.int bits), .val (.int cnt), .val (.int n), .val (.ref t), .val (.int b0), .val (.int b1), .val (.int (0 : Int32)), .unset, .unset, .unset, .unset, .unset, .unset, .unset, .unset, .unset]) rfl) ?_
        show own_R p.tables e below _ T1 (mkF m 50 #[.val (.int sz), .val (.int bits), .val (.int cnt), .val (.int n), .val (.ref t), .val (.int b0), .val (.int b1), .val (.int (0 : Int32)), .unset, .unset, .unset, .unset, .unset, .unset, .unset, .unset, .unset] [])
        exact J2 _ (Or.inl rfl)
      · show own_R p.tables e below _ T1 (mkF m 40 #[.val (.int sz), .val (.int bits), .val (.int cnt), .val (.int n), .val (.ref t), .val (.int b0), .val (.int b1), .unset, .unset, .unset, .unset, .unset, .unset, .unset, .unset, .unset, .unset] [(.int (bits &&& (4 : Int32)))])
        refine own_go (fun _ => XS.ifNo X1.here hx rfl (hb hby at_40) rfl ((if0 _ _).trans (feq t2).1)) ?_
        show own_R p.tables e below _ T1 (mkF m 43 #[.val (.int sz), .val (.int bits), .val (.int cnt), .val (.int n), .val (.ref t), .val (.int b0), .val (.int b1), .unset, .unset, .unset, .unset, .unset, .unset, .unset, .unset, .unset, .unset] [])
        refine own_go (fun _ => XS.iconst X1.here hx rfl (hb hby at_43)) ?_
        refine own_go (fun _ => XS.goto X1.here hx rfl (pc0 := 44) (pc' := 48) rfl (hb hby at_44) (by decide) (by decide)) ?_
        refine own_go (fun _ => XS.istore X1.here hx rfl (hb hby at_48) rfl (l' := #[.val (.int sz), .val (.int bits), .val (.int cnt), .val (.int n), .val (.ref t), .val (.int b0), .val (.int b1), .val (.int (1 : Int32)), .unset, .unset, .unset, .unset, .unset, .unset, .unset, .unset, .unset]) rfl) ?_
        show own_R p.tables e below _ T1 (mkF m 50 #[.val (.int sz), .val (.int bits), .val (.int cnt), .val (.int n), .val (.ref t), .val (.int b0), .val (.int b1), .val (.int (1 : Int32)), .unset, .unset, .unset, .unset, .unset, .unset, .unset, .unset, .unset] [])
        exact J2 _ (Or.inr rfl)
    by_cases t1 : (bits &&& (2 : Int32)) = (0 : Int32)
    · show own_R p.tables e below _ T1 (mkF m 27 #[.val (.int sz), .val (.int bits), .val (.int cnt), .val (.int n), .val (.ref t), .val (.int b0), .unset, .unset, .unset, .unset, .unset, .unset, .unset, .unset, .unset, .unset, .unset] [(.int (bits &&& (2 : Int32)))])
      refine own_go (fun _ => XS.ifYes X1.here hx rfl (pc0 := 27) (pc' := 34) rfl (hb hby at_27) rfl ((if0 _ _).trans (teq t1).1) (by decide) (by decide)) ?_
      show own_R p.tables e below _ T1 (mkF m 34 #[.val (.int sz), .val (.int bits), .val (.int cnt), .val (.int n), .val (.ref t), .val (.int b0), .unset, .unset, .unset, .unset, .unset, .unset, .unset, .unset, .unset, .unset, .unset] [])
      refine own_go (fun _ => XS.iconst X1.here hx rfl (hb hby at_34)) ?_
      refine own_go (fun _ => XS.istore X1.here hx rfl (hb hby at_35) rfl (l' := #[.val (.int sz), .val (.int bits), .val (.int cnt), .val (.int n), .val (.ref t), .val (.int b0), .val (.int (0 : Int32)), .unset, .unset, .unset, .unset, .unset, .unset, .unset, .unset, .unset, .unset]) rfl) ?_
      show own_R p.tables e below _ T1 (mkF m 37 #[.val (.int sz), .val (.int bits), .val (.int cnt), .val (.int n), .val (.ref t), .val (.int b0), .val (.int (0 : Int32)), .unset, .unset, .unset, .unset, .unset, .unset, .unset, .unset, .unset, .unset] [])
      exact J1 _ (Or.inl rfl)
    · show own_R p.tables e below _ T1 (mkF m 27 #[.val (.int sz), .val (.int bits), .val (.int cnt), .val (.int n), .val (.ref t), .val (.int b0), .unset, .unset, .unset, .unset, .unset, .unset, .unset, .unset, .unset, .unset, .unset] [(.int (bits &&& (2 : Int32)))])
      refine own_go (fun _ => XS.ifNo X1.here hx rfl (hb hby at_27) rfl ((if0 _ _).trans (feq t1).1)) ?_
      show own_R p.tables e below _ T1 (mkF m 30 #[.val (.int sz), .val (.int bits), .val (.int cnt), .val (.int n), .val (.ref t), .val (.int b0), .unset, .unset, .unset, .unset, .unset, .unset, .unset, .unset, .unset, .unset, .unset] [])
      refine own_go (fun _ => XS.iconst X1.here hx rfl (hb hby at_30)) ?_
      refine own_go (fun _ => XS.goto X1.here hx rfl (pc0 := 31) (pc' := 35) rfl (hb hby at_31) (by decide) (by decide)) ?_
      refine own_go (fun _ => XS.istore X1.here hx rfl (hb hby at_35) rfl (l' := #[.val (.int sz), .val (.int bits), .val (.int cnt), .val (.int n), .val (.ref t), .val (.int b0), .val (.int (1 : Int32)), .unset, .unset, .unset, .unset, .unset, .unset, .unset, .unset, .unset, .unset]) rfl) ?_
      show own_R p.tables e below _ T1 (mkF m 37 #[.val (.int sz), .val (.int bits), .val (.int cnt), .val (.int n), .val (.ref t), .val (.int b0), .val (.int (1 : Int32)), .unset, .unset, .unset, .unset, .unset, .unset, .unset, .unset, .unset, .unset] [])
      exact J1 _ (Or.inr rfl)
  by_cases t0 : (bits &&& (1 : Int32)) = (0 : Int32)
  · show own_R p.tables e below _ T1 (mkF m 14 #[.val (.int sz), .val (.int bits), .val (.int cnt), .val (.int n), .val (.ref t), .unset, .unset, .unset, .unset, .unset, .unset, .unset, .unset, .unset, .unset, .unset, .unset] [(.int (bits &&& (1 : Int32)))])
    refine own_go (fun _ => XS.ifYes X1.here hx rfl (pc0 := 14) (pc' := 21) rfl (hb hby at_14) rfl ((if0 _ _).trans (teq t0).1) (by decide) (by decide)) ?_
    show own_R p.tables e below _ T1 (mkF m 21 #[.val (.int sz), .val (.int bits), .val (.int cnt), .val (.int n), .val (.ref t), .unset, .unset, .unset, .unset, .unset, .unset, .unset, .unset, .unset, .unset, .unset, .unset] [])
    refine own_go (fun _ => XS.iconst X1.here hx rfl (hb hby at_21)) ?_
    refine own_go (fun _ => XS.istore X1.here hx rfl (hb hby at_22) rfl (l' := #[.val (.int sz), .val (.int bits), .val (.int cnt), .val (.int n), .val (.ref t), .val (.int (0 : Int32)), .unset, .unset, .unset, .unset, .unset, .unset, .unset, .unset, .unset, .unset, .unset]) rfl) ?_
    show own_R p.tables e below _ T1 (mkF m 24 #[.val (.int sz), .val (.int bits), .val (.int cnt), .val (.int n), .val (.ref t), .val (.int (0 : Int32)), .unset, .unset, .unset, .unset, .unset, .unset, .unset, .unset, .unset, .unset, .unset] [])
    exact J0 _ (Or.inl rfl)
  · show own_R p.tables e below _ T1 (mkF m 14 #[.val (.int sz), .val (.int bits), .val (.int cnt), .val (.int n), .val (.ref t), .unset, .unset, .unset, .unset, .unset, .unset, .unset, .unset, .unset, .unset, .unset, .unset] [(.int (bits &&& (1 : Int32)))])
    refine own_go (fun _ => XS.ifNo X1.here hx rfl (hb hby at_14) rfl ((if0 _ _).trans (feq t0).1)) ?_
    show own_R p.tables e below _ T1 (mkF m 17 #[.val (.int sz), .val (.int bits), .val (.int cnt), .val (.int n), .val (.ref t), .unset, .unset, .unset, .unset, .unset, .unset, .unset, .unset, .unset, .unset, .unset, .unset] [])
    refine own_go (fun _ => XS.iconst X1.here hx rfl (hb hby at_17)) ?_
    refine own_go (fun _ => XS.goto X1.here hx rfl (pc0 := 18) (pc' := 22) rfl (hb hby at_18) (by decide) (by decide)) ?_
    refine own_go (fun _ => XS.istore X1.here hx rfl (hb hby at_22) rfl (l' := #[.val (.int sz), .val (.int bits), .val (.int cnt), .val (.int n), .val (.ref t), .val (.int (1 : Int32)), .unset, .unset, .unset, .unset, .unset, .unset, .unset, .unset, .unset, .unset, .unset]) rfl) ?_
    show own_R p.tables e below _ T1 (mkF m 24 #[.val (.int sz), .val (.int bits), .val (.int cnt), .val (.int n), .val (.ref t), .val (.int (1 : Int32)), .unset, .unset, .unset, .unset, .unset, .unset, .unset, .unset, .unset, .unset, .unset] [])
    exact J0 _ (Or.inr rfl)
set_option maxRecDepth 65536 in
set_option maxHeartbeats 40000000 in
theorem comes_1 {Post : Tables → Env → Array Value → State → Outcome → State → Prop} (hpost : ∀ tb e args s v u, (limb_1_1.after args s (.returned v) u = true ∧ limb_1_2.after args s (.returned v) u = true ∧ True) → FrameEnd s (.returned v) u (Jvm.fieldLocs frame_1_writes args s ++ Jvm.arrayLocs frame_1_arrays args s ++ Jvm.staticLocs frame_1_statics s) 16 128 → Post tb e args s (.returned v) u) :
    ArmFor flags0 classFile x code maxLocals ret World_1 tables_1 room_1 Calls_1 rest_1 Pre_1 Post := by
  intro l hfl _ _ p e ha hc hk s m args below hf hA hF happ hP
  obtain ⟨hcalls, hrest, hpre⟩ := hP
  obtain ⟨-, -, -, hnamed, -, -, -, hat⟩ := (Spec.applies_iff hf).mp happ
  obtain ⟨hg, hn⟩ := and_e (Cond.before_iff.mp (show (Jvm.Cond.and given_1 narrow_1).before args s = true from hpre))
  obtain ⟨gc, q0⟩ := and_e hg
  obtain ⟨g0, q1⟩ := and_e q0
  obtain ⟨g1, q2⟩ := and_e q1
  have g2 := q2
  obtain ⟨w0, w1, w2, rfl⟩ : ∃ w0 w1 w2 : Value, args = #[w0, w1, w2] := by
    have hs : args.size = 3 := by simpa [Cond.value, given_1] using gc
    obtain ⟨L⟩ := args
    match L, hs with
    | [w0, w1, w2], _ => exact ⟨w0, w1, w2, rfl⟩
  have hw := fun d (hd : d ∈ tables_1) => atoms_spec (ws := Jvm.Cond.code x code maxLocals ret :: tables_1) hat d (List.mem_cons_of_mem _ hd)
  have hfit : Fit s := fun {y c} hc i hi => by
    obtain ⟨ha, rfl⟩ := Array.getElem?_eq_some_iff.mp hc
    have q := List.all_eq_true.mp ((Array.all_eq_true_iff_forall_mem.mp hF) _ (Array.getElem_mem ha)) i (List.mem_range.mpr hi)
    simpa [Array.getElem?_eq_getElem hi] using q
  obtain ⟨i0, ei0⟩ := is_v g0
  obtain rfl : w0 = (.int i0) := Option.some.inj ei0
  obtain ⟨i1, ei1⟩ := is_v g1
  obtain rfl : w1 = (.int i1) := Option.some.inj ei1
  obtain ⟨i2, ei2⟩ := is_v g2
  obtain rfl : w2 = (.int i2) := Option.some.inj ei2
  obtain ⟨n, o, h1, h2, h3, _, L, rfl, ⟨rfl, N⟩, hq⟩ := rm0 l s _ hw tables_1 s.heap s.heap.size i0 i1 i2 (Nat.le_refl _) p e ha hc hk s m _ below hf ((Spec.applies_iff_loose hf).mp happ).1 ⟨rfl, State.Warmed39.refl s, rfl⟩ trivial
  refine ⟨n, _, h1, h2, h3, hpost _ _ _ _ _ _ ⟨Cond.after_iff.mpr rfl, Cond.after_iff.mpr (eq_i res_at (Term.int_eval (1)) rfl), trivial⟩ ⟨hq.1, hq.2.1, (hq.2.2.sift fun y hy => Or.inr (N y hy)).mono (by decide) (by decide)⟩⟩
theorem main_1_1 : Claimed_1_1 := comes_1 fun _ _ _ _ _ _ h hF => ⟨h.1, hF⟩
theorem main_1_2 : Claimed_1_2 := comes_1 fun _ _ _ _ _ _ h hF => ⟨h.2.1, hF⟩

end Jvm.Pilot.@@N@@
namespace Jvm.Pilot.@@N@@
open Jvm Jvm.ClassFile Sem Op Lib Jvm.Free Jvm.Stand Jvm.Pilot.@@N@@.Jvm.D
/-! MADE BY PROGRAM (witnessworld.py) out of the Statement's table words and the real class files: 11 classes; the members and pool entries that the words name. The judged class is class 1, her method 1. -/
namespace start1
open Jvm.ClassFile
def u (s : String) : CpInfo := .utf8 (stringToUtf16 s)
/-- a pool by its gaps: so many unusable entries, then the entry; so many at the end -/
def gap : Nat → List CpInfo → List CpInfo
  | 0, r => r
  | n + 1, r => .unusable :: gap n r
def poolList (es : List (Nat × CpInfo)) (last : Nat) : List CpInfo := es.foldr (fun e r => gap e.1 (e.2 :: r)) (gap last [])
def pool (es : List (Nat × CpInfo)) (last : Nat) : Array CpInfo := ⟨poolList es last⟩
def fileOf (pool : Array CpInfo) (this : Nat) (attrs : Array Attribute := #[]) (ms : Array MethodInfo := #[]) (fl : Nat := 33) (sup : Nat := 0) (ifs : Array Nat := #[]) (fds : Array FieldInfo := #[]) : ClassFile where
  minorVersion := 0
  majorVersion := 65
  constantPool := pool
  accessFlags := fl
  thisClass := this
  superClass := sup
  interfaces := ifs
  fields := fds
  methods := ms
  attributes := attrs
def plain (name : String) (sup : Option ClassId) : Class where
  name := name
  kind := .ordinary
  loader := none
  accessFlags := 33
  super := sup
  interfaces := #[]
  cf := none
  fields := #[]
  methods := #[]
  instanceTypes := #[]
  staticTypes := #[]
  resolved := #[]
  callSites := []
  init := .initialized
  statics := none
  mirror := none

def pool0 : Array CpInfo := pool [(5, u "<init>"), (0, u "()V"), (1, .class_ 10), (1, u "java/lang/Object")] 113

def k0c0 : Code := { maxStack := 0, maxLocals := 1, code := object_method_1_code, exceptionTable := #[], attributes := #[] }
def k0m0 : Method := { name := "<init>", desc := "()V", sig := { parameters := [], returnType := none }, accessFlags := 1, code := some k0c0 }
/-- java/lang/Object -/
def k0 : Class := { plain "java/lang/Object" none with
  accessFlags := 33
  interfaces := #[]
  cf := some (fileOf pool0 8 #[] #[{ accessFlags := 1, nameIndex := 5, descriptorIndex := 6, attributes := #[] }] 33 0 #[] #[])
  fields := #[]
  methods := #[k0m0]
  instanceTypes := #[]
  staticTypes := #[]
  resolved := Array.replicate 124 none
  statics := none }

def pool1 : Array CpInfo := pool [(2, .class_ 4), (1, u "java/lang/Object"), (0, u "<init>"), (0, u "()V"), (0, .methodref 8 9), (0, .class_ 10), (0, .nameAndType 11 12), (0, u "com/example/kookaburra/kookaburra/eval/RankingReciprocalRankPinLaw"), (0, u "make"), (0, u "(I)[Z"), (0, .class_ 14), (0, u "com/example/kookaburra/kookaburra/eval/Ranking"), (0, .methodref 13 16), (0, .nameAndType 5 17), (0, u "([ZI)V"), (0, .methodref 13 19), (0, .nameAndType 20 21), (0, u "reciprocalRank"), (0, u "()D"), (2, u "law"), (0, u "(III)Z")] 5

def k1m0 : Method := { name := "<init>", desc := "()V", sig := { parameters := [], returnType := none }, accessFlags := 1, code := none }
def k1c1 : Code := { maxStack := 4, maxLocals := 17, code := code, exceptionTable := #[], attributes := #[] }
def k1m1 : Method := { name := "law", desc := "(III)Z", sig := { parameters := [.int, .int, .int], returnType := some .boolean }, accessFlags := 9, code := some k1c1 }
def k1c2 : Code := { maxStack := 2, maxLocals := 1, code := method_3_code, exceptionTable := #[], attributes := #[] }
def k1m2 : Method := { name := "make", desc := "(I)[Z", sig := { parameters := [.int], returnType := some (.array .boolean) }, accessFlags := 10, code := some k1c2 }
/-- com/example/kookaburra/kookaburra/eval/RankingReciprocalRankPinLaw -/
def k1 : Class := { plain "com/example/kookaburra/kookaburra/eval/RankingReciprocalRankPinLaw" (some 0) with
  accessFlags := 49
  interfaces := #[]
  cf := some (fileOf pool1 8 #[] #[{ accessFlags := 1, nameIndex := 5, descriptorIndex := 6, attributes := #[] }, { accessFlags := 9, nameIndex := 24, descriptorIndex := 25, attributes := #[] }, { accessFlags := 10, nameIndex := 11, descriptorIndex := 12, attributes := #[] }] 49 2 #[] #[])
  fields := #[]
  methods := #[k1m0, k1m1, k1m2]
  instanceTypes := #[]
  staticTypes := #[]
  resolved := Array.replicate 31 none
  statics := none }

def pool2 : Array CpInfo := pool [(1, .methodref 2 3), (0, .class_ 4), (0, .nameAndType 5 6), (0, u "java/lang/Object"), (0, u "<init>"), (0, u "()V"), (0, .fieldref 8 9), (0, .class_ 10), (0, .nameAndType 11 12), (0, u "com/example/kookaburra/kookaburra/eval/Ranking"), (0, u "relevantAt"), (0, u "[Z"), (0, .fieldref 8 14), (0, .nameAndType 15 16), (0, u "relevantCount"), (0, u "I"), (10, u "([ZI)V"), (7, u "()D"), (1, u "reciprocalRank")] 5

def k2c0 : Code := { maxStack := 2, maxLocals := 3, code := prog_7_method_1_code, exceptionTable := #[], attributes := #[] }
def k2m0 : Method := { name := "<init>", desc := "([ZI)V", sig := { parameters := [(.array .boolean), .int], returnType := none }, accessFlags := 0, code := some k2c0 }
def k2c1 : Code := { maxStack := 4, maxLocals := 4, code := prog_7_method_6_code, exceptionTable := #[], attributes := #[] }
def k2m1 : Method := { name := "reciprocalRank", desc := "()D", sig := { parameters := [], returnType := some .double }, accessFlags := 0, code := some k2c1 }
/-- com/example/kookaburra/kookaburra/eval/Ranking -/
def k2 : Class := { plain "com/example/kookaburra/kookaburra/eval/Ranking" (some 0) with
  accessFlags := 48
  interfaces := #[]
  cf := some (fileOf pool2 8 #[] #[{ accessFlags := 0, nameIndex := 5, descriptorIndex := 27, attributes := #[] }, { accessFlags := 0, nameIndex := 37, descriptorIndex := 35, attributes := #[] }] 48 2 #[] #[{ accessFlags := 18, nameIndex := 11, descriptorIndex := 12, attributes := #[] }, { accessFlags := 18, nameIndex := 15, descriptorIndex := 16, attributes := #[] }])
  fields := #[{ name := "relevantAt", type := (.array .boolean), accessFlags := 18, slot := 0, constantValue := 0 }, { name := "relevantCount", type := .int, accessFlags := 18, slot := 1, constantValue := 0 }]
  methods := #[k2m0, k2m1]
  instanceTypes := #[(.array .boolean), .int]
  staticTypes := #[]
  resolved := Array.replicate 43 none
  statics := none }

def pool3 : Array CpInfo := pool [(1, u "java/lang/Cloneable"), (0, .class_ 1), (0, u "java/lang/Object"), (0, .class_ 3)] 3

/-- java/lang/Cloneable -/
def k3 : Class := { plain "java/lang/Cloneable" (some 0) with
  accessFlags := 1537
  interfaces := #[]
  cf := some (fileOf pool3 2 #[] #[] 1537 4 #[] #[])
  fields := #[]
  methods := #[]
  instanceTypes := #[]
  staticTypes := #[]
  resolved := Array.replicate 8 none
  statics := none }

def pool4 : Array CpInfo := pool [(1, u "java/io/Serializable"), (0, .class_ 1), (0, u "java/lang/Object"), (0, .class_ 3)] 3

/-- java/io/Serializable -/
def k4 : Class := { plain "java/io/Serializable" (some 0) with
  accessFlags := 1537
  interfaces := #[]
  cf := some (fileOf pool4 2 #[] #[] 1537 4 #[] #[])
  fields := #[]
  methods := #[]
  instanceTypes := #[]
  staticTypes := #[]
  resolved := Array.replicate 8 none
  statics := none }

/-- the primitive boolean -/
def k5 : Class := { plain "boolean" none with kind := .primitive 'Z', accessFlags := 0x411 }
/-- [Z -/
def k6 : Class := { plain "[Z" (some 0) with kind := .array 5 .boolean, interfaces := #[3, 4], accessFlags := 1041 }

/-- the primitive byte -/
def k7 : Class := { plain "byte" none with kind := .primitive 'B', accessFlags := 0x411 }
/-- [B -/
def k8 : Class := { plain "[B" (some 0) with kind := .array 7 .byte, interfaces := #[3, 4], accessFlags := 1041 }

/-- the primitive int -/
def k9 : Class := { plain "int" none with kind := .primitive 'I', accessFlags := 0x411 }
/-- [I -/
def k10 : Class := { plain "[I" (some 0) with kind := .array 9 .int, interfaces := #[3, 4], accessFlags := 1041 }

def heap : Heap := #[]
def classes : Array Class := #[k0, k1, k2, k3, k4, k5, k6, k7, k8, k9, k10]
def interned : List (Array UInt16 × Addr) := []
def slotsUsed : Nat := 0
def theMethod : MethodId := ⟨1, 1⟩
def args0 : Array Value := #[.int 1, .int 2, .int 3]
def aboutOver (below : List Frame) : State where
  vm := { classes := classes, interned := interned.toArray }
  heap := heap
  slotsUsed := slotsUsed
  threads := #[{ frames := .invoking theMethod args0 :: below }]
def below0 : List Frame := [.native { method := ⟨0, 0⟩, args := #[] }]
def about1 : State := aboutOver below0
def p0 : Program := .bare "" "" ""
def e0 : Env := launch0.env 0 0 0
theorem w_frames : about1.frames = Frame.invoking theMethod args0 :: below0 := rfl
set_option maxRecDepth 65536 in
theorem w_args : argsFit about1.vm theMethod args0 = true := by decide +kernel
set_option maxRecDepth 65536 in
theorem w_heap : heapFits about1 = true := by decide +kernel
set_option maxRecDepth 65536 in
theorem w_runnable : about1.curStatus? = some .runnable := by decide +kernel
set_option maxRecDepth 65536 in
theorem w_alone : about1.alone = true := by decide +kernel
set_option maxRecDepth 65536 in
theorem w_named : about1.methodNamed? x = some theMethod := by decide +kernel
set_option maxRecDepth 65536 in
theorem w_hears : about1.hears theMethod below0 = true := by decide +kernel
set_option maxRecDepth 65536 in
theorem w_ripe : about1.ripe theMethod args0 below0 = true := by decide +kernel
theorem w_running : about1.status = .running := rfl
set_option maxRecDepth 65536 in
theorem w_room : about1.hasRoom e0.platform room_1 = true :=
  launch0.hasRoom_least _ room_1 (by decide +kernel) (by decide +kernel) (by decide +kernel) (by decide +kernel) (by decide +kernel) (by decide +kernel)
theorem allAtoms_all (ts : List Jvm.Cond) (a : Array Jvm.Value) (st : Jvm.State) : (allAtoms ts).before a st = ts.all (fun c => c.before a st) := by
  induction ts with
  | nil => rfl
  | cons c t ih =>
    show (Jvm.Cond.and c (allAtoms t)).before a st = _
    rw [Jvm.Cond.before_and, ih, List.all_cons]
def words1 : List Jvm.Cond := Jvm.Cond.code x code maxLocals ret :: tables_1
/-- a 'code' word, met by the world's own term for the bytes: nothing is compared byte by byte -/
theorem code_word {y : MethodName} {bytes : ByteArray} {mx : Nat} {rt : Option FieldType} {a : Array Value} {s : State} {m : MethodId} {meth : Method} {c : Code} (h1 : s.methodNamed? y = some m) (h2 : s.vm.method? m = some meth) (h3 : meth.code = some c) (h4 : c.code = bytes)
    (h5 : (c.maxLocals == mx && c.exceptionTable.isEmpty && decide (c.maxStack ≤ mostOperands) && decide (meth.sig.returnType = rt) && !meth.locks && decide (parseMethodDescriptor y.desc = some meth.sig)) = true) : (Jvm.Cond.code y bytes mx rt).before a s = true := by
  simp only [Bool.and_eq_true, beq_iff_eq, Bool.not_eq_true', decide_eq_true_eq] at h5
  obtain ⟨⟨⟨⟨⟨g1, g2⟩, g3⟩, g4⟩, g5⟩, g6⟩ := h5
  simp [Cond.before, Cond.holds, Cond.value, h1, h2, h3, h4, g1, g2, g3, g4, g5, g6]
def isCode : Jvm.Cond → Bool
  | .code _ _ _ _ => true
  | _ => false
theorem all_split {L : List Jvm.Cond} {P : Jvm.Cond → Bool} (h1 : L.all (fun c => isCode c || P c) = true) (h2 : ∀ c ∈ L.filter isCode, P c = true) : L.all P = true := by
  refine List.all_eq_true.mpr fun c hc => ?_
  have h := List.all_eq_true.mp h1 c hc
  rcases Bool.eq_false_or_eq_true (isCode c) with hi | hi
  · exact h2 c (List.mem_filter.mpr ⟨hc, hi⟩)
  · simpa [hi] using h
set_option maxRecDepth 65536 in
theorem w_c0 : (Jvm.Cond.code x code maxLocals ret).before args0 about1 = true := code_word (m := ⟨1, 1⟩) (meth := k1m1) (c := k1c1) (by decide +kernel) rfl rfl rfl (by decide +kernel)
set_option maxRecDepth 65536 in
theorem w_c1 : (Jvm.Cond.code ({ cls := "com/example/kookaburra/kookaburra/eval/RankingReciprocalRankPinLaw", name := "make", desc := "(I)[Z" } : Jvm.MethodName) method_3_code (1 : Nat) (Option.some (Jvm.ClassFile.FieldType.array Jvm.ClassFile.FieldType.boolean))).before args0 about1 = true := code_word (m := ⟨1, 2⟩) (meth := k1m2) (c := k1c2) (by decide +kernel) rfl rfl rfl (by decide +kernel)
set_option maxRecDepth 65536 in
theorem w_c2 : (Jvm.Cond.code ({ cls := "com/example/kookaburra/kookaburra/eval/Ranking", name := "<init>", desc := "([ZI)V" } : Jvm.MethodName) prog_7_method_1_code (3 : Nat) (Option.none : Option Jvm.ClassFile.FieldType)).before args0 about1 = true := code_word (m := ⟨2, 0⟩) (meth := k2m0) (c := k2c0) (by decide +kernel) rfl rfl rfl (by decide +kernel)
set_option maxRecDepth 65536 in
theorem w_c3 : (Jvm.Cond.code ({ cls := "java/lang/Object", name := "<init>", desc := "()V" } : Jvm.MethodName) object_method_1_code (1 : Nat) (Option.none : Option Jvm.ClassFile.FieldType)).before args0 about1 = true := code_word (m := ⟨0, 0⟩) (meth := k0m0) (c := k0c0) (by decide +kernel) rfl rfl rfl (by decide +kernel)
set_option maxRecDepth 65536 in
theorem w_c4 : (Jvm.Cond.code ({ cls := "com/example/kookaburra/kookaburra/eval/Ranking", name := "reciprocalRank", desc := "()D" } : Jvm.MethodName) prog_7_method_6_code (4 : Nat) (Option.some Jvm.ClassFile.FieldType.double)).before args0 about1 = true := code_word (m := ⟨2, 1⟩) (meth := k2m1) (c := k2c1) (by decide +kernel) rfl rfl rfl (by decide +kernel)
def codes1 : List Jvm.Cond := [Jvm.Cond.code x code maxLocals ret, Jvm.Cond.code ({ cls := "com/example/kookaburra/kookaburra/eval/RankingReciprocalRankPinLaw", name := "make", desc := "(I)[Z" } : Jvm.MethodName) method_3_code (1 : Nat) (Option.some (Jvm.ClassFile.FieldType.array Jvm.ClassFile.FieldType.boolean)), Jvm.Cond.code ({ cls := "com/example/kookaburra/kookaburra/eval/Ranking", name := "<init>", desc := "([ZI)V" } : Jvm.MethodName) prog_7_method_1_code (3 : Nat) (Option.none : Option Jvm.ClassFile.FieldType), Jvm.Cond.code ({ cls := "java/lang/Object", name := "<init>", desc := "()V" } : Jvm.MethodName) object_method_1_code (1 : Nat) (Option.none : Option Jvm.ClassFile.FieldType), Jvm.Cond.code ({ cls := "com/example/kookaburra/kookaburra/eval/Ranking", name := "reciprocalRank", desc := "()D" } : Jvm.MethodName) prog_7_method_6_code (4 : Nat) (Option.some Jvm.ClassFile.FieldType.double)]
set_option maxRecDepth 65536 in
theorem codes_eq : words1.filter isCode = codes1 := rfl
theorem w_codes : ∀ c ∈ words1.filter isCode, c.before args0 about1 = true := by
  rw [codes_eq]
  intro c hc
  simp only [codes1, List.mem_cons, List.not_mem_nil, or_false] at hc
  rcases hc with rfl | rfl | rfl | rfl | rfl
  · exact w_c0
  · exact w_c1
  · exact w_c2
  · exact w_c3
  · exact w_c4
set_option maxRecDepth 65536 in
theorem w_t1 : words1.all (fun c => isCode c || c.before args0 about1) = true := by decide +kernel
theorem w_tables : (allAtoms (Jvm.Cond.code x code maxLocals ret :: tables_1)).before args0 about1 = true := by
  rw [allAtoms_all]
  show words1.all (fun c => c.before args0 about1) = true
  refine all_split ?_ w_codes
  rw [w_t1]
set_option maxRecDepth 65536 in
theorem w_case : (Jvm.Cond.and given_1 narrow_1).before args0 about1 = true := by decide +kernel
theorem w_applies : (headSpec (Jvm.Cond.code x code maxLocals ret :: tables_1) room_1).applies x e0.platform about1 = true :=
  (Spec.applies_iff w_frames).mpr ⟨w_running, w_runnable, w_alone, w_named, w_hears, w_ripe, w_room, w_tables⟩
theorem atStart : AtStart classFile x code maxLocals ret World_1 tables_1 room_1 Calls_1 rest_1 Pre_1 launch0 p0 e0 about1 theMethod args0 below0 :=
  ⟨lists_1, trivial, launch0.admits_env _ _ _, launch0.least_env, fairChoices_fair.cas, fairChoices_fair.clock, w_frames, w_args, w_heap, w_applies, trivial, trivial, w_case⟩
end start1
theorem witness_1 : WitnessClaimed_1 := ⟨start1.p0, start1.e0, start1.about1, start1.theMethod, start1.args0, start1.below0, start1.atStart⟩
end Jvm.Pilot.@@N@@
