import JvmDerived
import JvmDerived.Pilot.@@N@@Statement
import JvmDerived.Pilot.@@N@@Code
set_option linter.unusedVariables false
set_option linter.unusedSimpArgs false
namespace Jvm.Pilot.@@N@@
open Jvm Jvm.ClassFile Sem Op Lib Jvm.Free Jvm.Stand Jvm.LawKit Jvm.RoadKit Bundle Jvm.Pilot.@@N@@.Jvm.D

section OwnKit
variable {p : Program} {l : Launch} {e : Env} {R : Room} {s : State} {m : MethodId} {args : Array Value} {below : List Frame} {meth : Method} {c : Code} {T : State} {locs : List Loc} {cells slots : Nat} {Z : State} {a0 : Array Value} {h : Heap}
/-- from T at frame F the walk reaches a state that P holds of -/
def own_R (tb : Tables) (e : Env) (below : List Frame) (P : State → Prop) (T : State) (F : JFrame) : Prop := ∃ t, Steps tb e below (T.setTop F) t ∧ P t
theorem own_go {tb : Tables} {e : Env} {below : List Frame} {P : State → Prop} {T T' : State} {F F' : JFrame} (h : ∀ t, Steps tb e below (T'.setTop F') t → Steps tb e below (T.setTop F) t) (r : own_R tb e below P T' F') : own_R tb e below P T F := by
  obtain ⟨t, a, b⟩ := r
  exact ⟨t, h t a, b⟩
/-- what a body's end must meet -/
def own_E (s : State) (below : List Frame) (Q : Option Value → Heap → List Loc → Prop) (C N : Nat) (t : State) : Prop := ∃ v L, t.status = .running ∧ Ended t below (.returned v) ∧ Q v t.heap L ∧ FrameEnd s (.returned v) t L C N
/-- a body's contract -/
abbrev own_C (l : Launch) (Z : State) (y : MethodName) (bytes : ByteArray) (ml : Nat) (ret : Option FieldType) (ws : List Jvm.Cond) (rm : Room) (as : Array Value) (h0 : Heap) (Q : Option Value → Heap → List Loc → Prop) : Prop :=
  MetFree l y (head1 (Jvm.Cond.code y bytes ml ret :: ws) rm) (fun a U => a = as ∧ Z.Warmed39 U.vm ∧ U.heap = h0) (fun _ _ _ _ _ => True) (fun _ U o U' => ∃ v L, o = .returned v ∧ Q v U'.heap L ∧ FrameEnd U o U' L rm.cells rm.slots)
theorem own_body {y : MethodName} {bytes : ByteArray} {ml : Nat} {ret : Option FieldType} {ws : List Jvm.Cond} {rm : Room} {as : Array Value} {h0 : Heap} {Q : Option Value → Heap → List Loc → Prop} {ls : Array Slot}
    (hy : plainFor y = true) (hef : ∀ m, entryFrame m as ml = mkF m 0 ls [])
    (H : ∀ (p : Program) (e : Env) (s : State) (m : MethodId) (below : List Frame) (meth : Method) (c : Code) (T : State), Z.Warmed39 s.vm → p.tables.exec = Jvm.exec → c.code = bytes → c.maxLocals = ml → s.vm.findClass y.cls = some m.cls → meth.name = y.name → meth.sig.returnType = ret → meth.locks = false →
      Stand p l e rm s m as below meth c T [] 0 0 → T.heap = h0 → own_R p.tables e below (own_E s below Q rm.cells rm.slots) T (mkF m 0 ls [])) :
    own_C l Z y bytes ml ret ws rm as h0 Q := by
  refine MetFree.of_bodySF hy hisR ?_
  intro p e s m args below meth c s₁ Bd hml0 hP hK
  obtain ⟨rfl, hZ, hh⟩ := hP
  obtain ⟨t, st, v, L, h1, h2, h3, h4⟩ := H p e s m below meth c s₁ hZ Bd.exec Bd.bytes hml0 (findClass_of_methodNamed Bd.named) (name_of_methodNamed Bd.named Bd.method).1 Bd.returns Bd.notSynchronized (Stand.of_body Bd) (by rw [← hh, Bd.state]; rfl)
  exact ⟨t, _, castTop (hef m) st, h1, h2, v, L, rfl, h3, h4⟩
theorem own_end {Q : Option Value → Heap → List Loc → Prop} {C N : Nat} {F : JFrame} (X : Stand p l e R s m args below meth c T locs cells slots) (v : Option Value) (hv : meth.sig.returnType = none → v = none) (hlk : meth.locks = false)
    (hst : ∀ fs, (∀ (f : JFrame) (acts : List Action), f.method = m → f.locked = none → f.entered = [] → (doReturn e (T.setTop f) acts v).1 = T.setFrames fs) → Steps p.tables e below (T.setTop F) (T.setFrames fs))
    (hQ : Q v T.heap locs) (hc : cells ≤ C) (hn : slots ≤ N) : own_R p.tables e below (own_E s below Q C N) T F := by
  obtain ⟨fs, hr, hrun, hended, hW, hsame⟩ := X.leave (v := v) hv hlk
  exact ⟨_, hst fs hr, v, locs, hrun, hended, hQ, ⟨_, rfl⟩, hW, hsame.mono hc hn⟩
theorem own_retI (X : Stand p l e R s m args below meth c T locs cells slots) (hx : p.tables.exec = Jvm.exec) {pc : Nat} {Ls : Array Slot} {z : Int32} {rest : List Value} (hret : meth.sig.returnType = some .int) (hd : decode c.code pc = .ok (.ireturn, 1)) {fs : List Frame}
    (hl : ∀ (f : JFrame) (acts : List Action), f.method = m → f.locked = none → f.entered = [] → (doReturn e (T.setTop f) acts (some (.int z))).1 = T.setFrames fs) : Steps p.tables e below (T.setTop (mkF m pc Ls (.int z :: rest))) (T.setFrames fs) := by
  have hm' : T.vm.method? m = some meth := X.method'
  have hn : narrow .int (.int z) = .int z := rfl
  show Steps p.tables e below (T.setTop { method := m, pc := pc, locals := Ls, stack := _ :: rest, locked := none }) _
  jvm_step X.here [X.here.top, hx, hd, hm', hret, hn]
  first | (intro acts; rw [hl _ acts rfl rfl rfl]) | rw [hl _ _ rfl rfl rfl]
  exact Steps.refl _
theorem own_retJ (X : Stand p l e R s m args below meth c T locs cells slots) (hx : p.tables.exec = Jvm.exec) {pc : Nat} {Ls : Array Slot} {z : Int64} {rest : List Value} (hret : meth.sig.returnType = some .long) (hd : decode c.code pc = .ok (.lreturn, 1)) {fs : List Frame}
    (hl : ∀ (f : JFrame) (acts : List Action), f.method = m → f.locked = none → f.entered = [] → (doReturn e (T.setTop f) acts (some (.long z))).1 = T.setFrames fs) : Steps p.tables e below (T.setTop (mkF m pc Ls (.long z :: rest))) (T.setFrames fs) := by
  have hm' : T.vm.method? m = some meth := X.method'
  have hn : narrow .long (.long z) = .long z := rfl
  show Steps p.tables e below (T.setTop { method := m, pc := pc, locals := Ls, stack := _ :: rest, locked := none }) _
  jvm_step X.here [X.here.top, hx, hd, hm', hret, hn]
  first | (intro acts; rw [hl _ acts rfl rfl rfl]) | rw [hl _ _ rfl rfl rfl]
  exact Steps.refl _
theorem own_retD (X : Stand p l e R s m args below meth c T locs cells slots) (hx : p.tables.exec = Jvm.exec) {pc : Nat} {Ls : Array Slot} {z : UInt64} {rest : List Value} (hret : meth.sig.returnType = some .double) (hd : decode c.code pc = .ok (.dreturn, 1)) {fs : List Frame}
    (hl : ∀ (f : JFrame) (acts : List Action), f.method = m → f.locked = none → f.entered = [] → (doReturn e (T.setTop f) acts (some (.double z))).1 = T.setFrames fs) : Steps p.tables e below (T.setTop (mkF m pc Ls (.double z :: rest))) (T.setFrames fs) := by
  have hm' : T.vm.method? m = some meth := X.method'
  have hn : narrow .double (.double z) = .double z := rfl
  show Steps p.tables e below (T.setTop { method := m, pc := pc, locals := Ls, stack := _ :: rest, locked := none }) _
  jvm_step X.here [X.here.top, hx, hd, hm', hret, hn]
  first | (intro acts; rw [hl _ acts rfl rfl rfl]) | rw [hl _ _ rfl rfl rfl]
  exact Steps.refl _
theorem own_retA (X : Stand p l e R s m args below meth c T locs cells slots) (hx : p.tables.exec = Jvm.exec) {pc : Nat} {Ls : Array Slot} {z : Value} {t : FieldType} {rest : List Value} (hret : meth.sig.returnType = some t) (ht : t.isReference = true) (hz : z.isRef = true) (hd : decode c.code pc = .ok (.areturn, 1)) {fs : List Frame}
    (hl : ∀ (f : JFrame) (acts : List Action), f.method = m → f.locked = none → f.entered = [] → (doReturn e (T.setTop f) acts (some z)).1 = T.setFrames fs) : Steps p.tables e below (T.setTop (mkF m pc Ls (z :: rest))) (T.setFrames fs) := by
  have hm' : T.vm.method? m = some meth := X.method'
  show Steps p.tables e below (T.setTop { method := m, pc := pc, locals := Ls, stack := _ :: rest, locked := none }) _
  jvm_step X.here [X.here.top, hx, hd, hm', hret, ht, hz]
  first | (intro acts; rw [hl _ acts rfl rfl rfl]) | rw [hl _ _ rfl rfl rfl]
  exact Steps.refl _
theorem own_len {a : Addr} {k : ClassId} {ty : FieldType} {n : Int32} {vs : List Value} {d : Value} (X : Stand p l e R s m args below meth c T locs cells slots) (hx : p.tables.exec = Jvm.exec) (hZ : Z.Warmed39 s.vm) (eT : T.heap = h) (V : Arv Z h a k ty n vs d)
    {g : JFrame} (hg : g.method = m) {rest : List Value} (hs : g.stack = .ref a :: rest) (hd : decode c.code g.pc = .ok (.arraylength, 1)) :
    ∀ t, Steps p.tables e below (T.setTop { g with pc := g.pc + 1, stack := .int n :: rest }) t → Steps p.tables e below (T.setTop g) t := by
  obtain ⟨cl, Ar, -, S, N, -, -⟩ := V
  intro t st
  refine X.arraylength hx (by rw [eT]; exact Ar.1) (State.isArrayOf_alike hZ.alike Ar.2.1) hg hs hd t ?_
  rw [len_of S N]
  exact st
theorem own_ldD {a : Addr} {k : ClassId} {n j : Int32} {vs : List Value} {d v : Value} (X : Stand p l e R s m args below meth c T locs cells slots) (hx : p.tables.exec = Jvm.exec) (hZ : Z.Warmed39 s.vm) (eT : T.heap = h) (V : Arv Z h a k .double n vs d) (hj : ¬ j < 0 ∧ j < n) (hv : vs.getD j.toNatClampNeg d = v)
    {g : JFrame} (hg : g.method = m) {rest : List Value} (hs : g.stack = .int j :: .ref a :: rest) (hd : decode c.code g.pc = .ok (.daload, 1)) :
    ∀ t, Steps p.tables e below (T.setTop { g with pc := g.pc + 1, stack := v :: rest }) t → Steps p.tables e below (T.setTop g) t := by
  obtain ⟨cl, Ar, -, S, N, H, -⟩ := V
  intro t st
  exact X.daload hx (by rw [eT]; exact Ar.1) (State.isArrayOf_alike hZ.alike Ar.2.1) Ar.2.2 (inb_of S hj) (H.at (inb_of S hj) hv) hg hs hd t st
theorem own_ldZ {a : Addr} {k : ClassId} {n j : Int32} {vs : List Value} {d v : Value} (X : Stand p l e R s m args below meth c T locs cells slots) (hx : p.tables.exec = Jvm.exec) (hZ : Z.Warmed39 s.vm) (eT : T.heap = h) (V : Arv Z h a k .boolean n vs d) (hj : ¬ j < 0 ∧ j < n) (hv : vs.getD j.toNatClampNeg d = v)
    {g : JFrame} (hg : g.method = m) {rest : List Value} (hs : g.stack = .int j :: .ref a :: rest) (hd : decode c.code g.pc = .ok (.baload, 1)) :
    ∀ t, Steps p.tables e below (T.setTop { g with pc := g.pc + 1, stack := v :: rest }) t → Steps p.tables e below (T.setTop g) t := by
  obtain ⟨cl, Ar, -, S, N, H, -⟩ := V
  intro t st
  exact X.baloadBooleans hx (by rw [eT]; exact Ar.1) (State.isArrayOf_alike hZ.alike Ar.2.1) Ar.2.2 (inb_of S hj) (H.at (inb_of S hj) hv) hg hs hd t st
theorem own_stD {a : Addr} {k : ClassId} {n j : Int32} {vs : List Value} {d : Value} {x : UInt64} (X : Stand p l e R s m args below meth c T locs cells slots) (hx : p.tables.exec = Jvm.exec) (hZ : Z.Warmed39 s.vm) (eT : T.heap = h) (V : Arv Z h a k .double n vs d) (hj : ¬ j < 0 ∧ j < n) (i : Nat) (hji : j.toNatClampNeg = i) (hi : i < vs.length)
    {g : JFrame} (hg : g.method = m) {rest : List Value} (hs : g.stack = .double x :: .int j :: .ref a :: rest) (hd : decode c.code g.pc = .ok (.dastore, 1)) :
    ∃ T' h', Stand p l e R s m args below meth c T' (locs ++ [⟨a, j.toNatClampNeg⟩]) cells slots ∧ T'.heap = h' ∧ Wr h h' a j.toNatClampNeg (.double x) ∧ Arv Z h' a k .double n (vs.set i (.double x)) d ∧ ∀ t, Steps p.tables e below (T'.setTop { g with pc := g.pc + 1, stack := rest }) t → Steps p.tables e below (T.setTop g) t := by
  obtain ⟨cl, Ar, q, S, N, H, G⟩ := V
  obtain ⟨T', h', X', e', W, st⟩ := stD X hx hZ eT Ar (inb_of S hj) hg hs hd
  exact ⟨T', h', X', e', W, Arv.set Ar q S N H G rfl W i hji hi, st⟩
theorem own_stZ {a : Addr} {k : ClassId} {n j : Int32} {vs : List Value} {d : Value} {x : Int32} (X : Stand p l e R s m args below meth c T locs cells slots) (hx : p.tables.exec = Jvm.exec) (hZ : Z.Warmed39 s.vm) (eT : T.heap = h) (V : Arv Z h a k .boolean n vs d) (hj : ¬ j < 0 ∧ j < n) (i : Nat) (hji : j.toNatClampNeg = i) (hi : i < vs.length) (h01 : x = 0 ∨ x = 1)
    {g : JFrame} (hg : g.method = m) {rest : List Value} (hs : g.stack = .int x :: .int j :: .ref a :: rest) (hd : decode c.code g.pc = .ok (.bastore, 1)) :
    ∃ T' h', Stand p l e R s m args below meth c T' (locs ++ [⟨a, j.toNatClampNeg⟩]) cells slots ∧ T'.heap = h' ∧ Wr h h' a j.toNatClampNeg (.int x) ∧ Arv Z h' a k .boolean n (vs.set i (.int x)) d ∧ ∀ t, Steps p.tables e below (T'.setTop { g with pc := g.pc + 1, stack := rest }) t → Steps p.tables e below (T.setTop g) t := by
  obtain ⟨cl, Ar, q, S, N, H, G⟩ := V
  obtain ⟨T', h', X', e', W, st⟩ := stZ X hx hZ eT Ar (inb_of S hj) hg hs hd
  have en : nar .boolean x = x := by rcases h01 with rfl | rfl <;> rfl
  rw [en] at W
  exact ⟨T', h', X', e', W, Arv.set Ar q S N H G (by rcases h01 with rfl | rfl <;> rfl) W i hji hi, st⟩
/-- a payer's form: what the three calls ask -/
abbrev own_B (l : Launch) (R : Room) (p : Program) (e : Env) (below : List Frame) (s : State) (args : Array Value) (y : MethodName) (W : Nat) (as : Array Value) (h : Heap) (kc ks : Nat) (Q : Option Value → Heap → List Loc → Prop) : Prop :=
  Back l R p e below s args y 3 W (fun A a => a = as ∧ A.U.heap = h ∧ A.cells + kc ≤ R.cells ∧ A.slots + ks ≤ R.slots) (fun A _ v B => ∃ L, Q v B.U.heap L ∧ B.locs = A.locs ++ L ∧ B.cells = A.cells + kc ∧ B.slots = A.slots + ks)
theorem own_backS (X : Stand p l e R s m args below meth c T locs cells slots) (hx : p.tables.exec = Jvm.exec) (hZ : Z.Warmed39 s.vm) {own : String} (hown : s.vm.findClass own = some m.cls) {index : Nat} {y : MethodName} {bytes : ByteArray} {maxL : Nat} {ret : Option FieldType}
    (w1 : (Jvm.Cond.methodLink own index y).before a0 Z = true) (w2 : (Jvm.Cond.static y).before a0 Z = true) (w3 : (Jvm.Cond.initialized y.cls).before a0 Z = true) (w4 : (Jvm.Cond.code y bytes maxL ret).before a0 Z = true) (hy : y.cls ≠ "java/lang/invoke/MethodHandle" ∧ y.cls ≠ "java/lang/invoke/VarHandle")
    {W kc ks : Nat} {as : Array Value} {Q : Option Value → Heap → List Loc → Prop} (hK : own_B l R p e below s args y W as h kc ks Q) 
    {g : JFrame} (hg : g.method = m) (hsize : g.locals.size = c.maxLocals) {argsL rest : List Value} (hlen : ∀ sig, parseMethodDescriptor y.desc = some sig → argsL.length = sig.parameters.length)
    (hst : g.stack = argsL.reverse ++ rest) (has : argsL.toArray = as) (hW : 2 * g.monitorRoom + (rest.map fun v => v.category).sum ≤ W) (hd : decode c.code g.pc = .ok (.invokestatic index, 3)) (eT : T.heap = h)
    (hc : cells + kc ≤ R.cells) (hs : slots + ks ≤ R.slots) :
    ∃ v T' L, Stand p l e R s m args below meth c T' (locs ++ L) (cells + kc) (slots + ks) ∧ Q v T'.heap L ∧ ∀ t, Steps p.tables e below (T'.setTop { g with pc := g.pc + 3, stack := v.toList ++ rest }) t → Steps p.tables e below (T.setTop g) t := by
  obtain ⟨v, vm1, ⟨T1, L1, k1, n1⟩, -, X1, ⟨Lc, hQ, l1, y1, z1⟩, st⟩ := Jvm.LawKit.callS X hx (y := y) hown (mvT hZ w1) (mvT hZ w2) (mvT hZ w3) (mvT hZ w4) hy hK hg hsize (argsL := argsL) (rest := rest) hlen hst hW hd (fun _ _ => ⟨has, eT, hc, hs⟩)
  dsimp only [Pt.U, Pt.locs, Pt.cells, Pt.slots] at X1 l1 y1 z1 st hQ
  subst l1 y1 z1
  exact ⟨v, T1, Lc, X1, hQ, st⟩
theorem own_callS (X : Stand p l e R s m args below meth c T locs cells slots) (hx : p.tables.exec = Jvm.exec) (hZ : Z.Warmed39 s.vm) {own : String} (hown : s.vm.findClass own = some m.cls) {index : Nat} {y : MethodName} {bytes : ByteArray} {maxL : Nat} {ret : Option FieldType}
    (w1 : (Jvm.Cond.methodLink own index y).before a0 Z = true) (w2 : (Jvm.Cond.static y).before a0 Z = true) (w3 : (Jvm.Cond.initialized y.cls).before a0 Z = true) (w4 : (Jvm.Cond.code y bytes maxL ret).before a0 Z = true) (hy : y.cls ≠ "java/lang/invoke/MethodHandle" ∧ y.cls ≠ "java/lang/invoke/VarHandle")
    {rm : Room} {as : Array Value} {Q : Option Value → Heap → List Loc → Prop} (hM : own_C l Z y bytes maxL ret [] rm as h Q) {W : Nat}
    {g : JFrame} (hg : g.method = m) (hsize : g.locals.size = c.maxLocals) {argsL rest : List Value} (hlen : ∀ sig, parseMethodDescriptor y.desc = some sig → argsL.length = sig.parameters.length)
    (hst : g.stack = argsL.reverse ++ rest) (has : argsL.toArray = as) (hW : 2 * g.monitorRoom + (rest.map fun v => v.category).sum ≤ W) (hd : decode c.code g.pc = .ok (.invokestatic index, 3)) (eT : T.heap = h)
    (hf : rm.frames + 1 ≤ R.frames) (hl : W + (maxL + 11) + rm.locals ≤ R.locals) (hc : cells + rm.cells ≤ R.cells) (hs : slots + rm.slots ≤ R.slots) :
    ∃ v T' L, Stand p l e R s m args below meth c T' (locs ++ L) (cells + rm.cells) (slots + rm.slots) ∧ Q v T'.heap L ∧ ∀ t, Steps p.tables e below (T'.setTop { g with pc := g.pc + 3, stack := v.toList ++ rest }) t → Steps p.tables e below (T.setTop g) t :=
  own_backS X hx hZ hown w1 w2 w3 w4 hy (backOf (W := W) hM hZ w4 w3 hf hl) hg hsize hlen hst has hW hd eT hc hs
theorem own_backI (X : Stand p l e R s m args below meth c T locs cells slots) (hx : p.tables.exec = Jvm.exec) (hZ : Z.Warmed39 s.vm) {own : String} (hown : s.vm.findClass own = some m.cls) {index : Nat} {y : MethodName} {bytes : ByteArray} {maxL : Nat} 
    (hy1 : y.name = "<init>") (w1 : (Jvm.Cond.methodLink own index y).before a0 Z = true) (w2 : (Jvm.Cond.instanceMethod y).before a0 Z = true) (w4 : (Jvm.Cond.code y bytes maxL none).before a0 Z = true) (w3 : (Jvm.Cond.initialized y.cls).before a0 Z = true) (hy : y.cls ≠ "java/lang/invoke/MethodHandle" ∧ y.cls ≠ "java/lang/invoke/VarHandle")
    {W kc ks : Nat} {as : Array Value} {Q : Option Value → Heap → List Loc → Prop} (hK : own_B l R p e below s args y W as h kc ks Q) 
    {g : JFrame} (hg : g.method = m) (hsize : g.locals.size = c.maxLocals) {a : Addr} {argsL rest : List Value} (hlen : ∀ sig, parseMethodDescriptor y.desc = some sig → argsL.length = sig.parameters.length)
    (hst : g.stack = argsL.reverse ++ .ref a :: rest) (has : (.ref a :: argsL).toArray = as) (hW : 2 * g.monitorRoom + (rest.map fun v => v.category).sum ≤ W) (hd : decode c.code g.pc = .ok (.invokespecial index, 3)) (eT : T.heap = h)
    (hc : cells + kc ≤ R.cells) (hs : slots + ks ≤ R.slots) :
    ∃ v T' L, Stand p l e R s m args below meth c T' (locs ++ L) (cells + kc) (slots + ks) ∧ Q v T'.heap L ∧ ∀ t, Steps p.tables e below (T'.setTop { g with pc := g.pc + 3, stack := v.toList ++ rest }) t → Steps p.tables e below (T.setTop g) t := by
  obtain ⟨v, vm1, ⟨T1, L1, k1, n1⟩, -, X1, ⟨Lc, hQ, l1, y1, z1⟩, st⟩ := X.specialBack hx (y := y) hy1 hown (mvT hZ w1) (mvT hZ w2) (mvT hZ w4) hy hK hg hsize (Steps.refl _) (a := a) (argsL := argsL) (rest := rest) hlen hst hW hd (fun _ _ => ⟨has, eT, hc, hs⟩)
  dsimp only [Pt.U, Pt.locs, Pt.cells, Pt.slots] at X1 l1 y1 z1 st hQ
  subst l1 y1 z1
  exact ⟨v, T1, Lc, X1, hQ, fun _ k => st.trans k⟩
theorem own_callI (X : Stand p l e R s m args below meth c T locs cells slots) (hx : p.tables.exec = Jvm.exec) (hZ : Z.Warmed39 s.vm) {own : String} (hown : s.vm.findClass own = some m.cls) {index : Nat} {y : MethodName} {bytes : ByteArray} {maxL : Nat} 
    (hy1 : y.name = "<init>") (w1 : (Jvm.Cond.methodLink own index y).before a0 Z = true) (w2 : (Jvm.Cond.instanceMethod y).before a0 Z = true) (w4 : (Jvm.Cond.code y bytes maxL none).before a0 Z = true) (w3 : (Jvm.Cond.initialized y.cls).before a0 Z = true) (hy : y.cls ≠ "java/lang/invoke/MethodHandle" ∧ y.cls ≠ "java/lang/invoke/VarHandle")
    {rm : Room} {as : Array Value} {Q : Option Value → Heap → List Loc → Prop} (hM : own_C l Z y bytes maxL none [] rm as h Q) {W : Nat}
    {g : JFrame} (hg : g.method = m) (hsize : g.locals.size = c.maxLocals) {a : Addr} {argsL rest : List Value} (hlen : ∀ sig, parseMethodDescriptor y.desc = some sig → argsL.length = sig.parameters.length)
    (hst : g.stack = argsL.reverse ++ .ref a :: rest) (has : (.ref a :: argsL).toArray = as) (hW : 2 * g.monitorRoom + (rest.map fun v => v.category).sum ≤ W) (hd : decode c.code g.pc = .ok (.invokespecial index, 3)) (eT : T.heap = h)
    (hf : rm.frames + 1 ≤ R.frames) (hl : W + (maxL + 11) + rm.locals ≤ R.locals) (hc : cells + rm.cells ≤ R.cells) (hs : slots + rm.slots ≤ R.slots) :
    ∃ v T' L, Stand p l e R s m args below meth c T' (locs ++ L) (cells + rm.cells) (slots + rm.slots) ∧ Q v T'.heap L ∧ ∀ t, Steps p.tables e below (T'.setTop { g with pc := g.pc + 3, stack := v.toList ++ rest }) t → Steps p.tables e below (T.setTop g) t :=
  own_backI X hx hZ hown hy1 w1 w2 w4 w3 hy (backOf (W := W) hM hZ w4 w3 hf hl) hg hsize hlen hst has hW hd eT hc hs
theorem own_backV (X : Stand p l e R s m args below meth c T locs cells slots) (hx : p.tables.exec = Jvm.exec) (hZ : Z.Warmed39 s.vm) {own C : String} (hown : s.vm.findClass own = some m.cls) {index : Nat} {y : MethodName} {bytes : ByteArray} {maxL : Nat} {ret : Option FieldType}
    (w1 : (Jvm.Cond.methodLink own index y).before a0 Z = true) (w2 : (Jvm.Cond.declares y).before a0 Z = true) (w5 : (Jvm.Cond.selects C y y).before a0 Z = true) (w6 : (Jvm.Cond.instanceMethod y).before a0 Z = true) (w4 : (Jvm.Cond.code y bytes maxL ret).before a0 Z = true) (w3 : (Jvm.Cond.initialized y.cls).before a0 Z = true) (hy : y.cls ≠ "java/lang/invoke/MethodHandle" ∧ y.cls ≠ "java/lang/invoke/VarHandle")
    {W kc ks : Nat} {as : Array Value} {Q : Option Value → Heap → List Loc → Prop} (hK : own_B l R p e below s args y W as h kc ks Q) {b : Addr} (hE : Exa Z h b C) 
    {g : JFrame} (hg : g.method = m) (hsize : g.locals.size = c.maxLocals) {argsL rest : List Value} (hlen : ∀ sig, parseMethodDescriptor y.desc = some sig → argsL.length = sig.parameters.length)
    (hst : g.stack = argsL.reverse ++ .ref b :: rest) (has : (.ref b :: argsL).toArray = as) (hW : 2 * g.monitorRoom + (rest.map fun v => v.category).sum ≤ W) (hd : decode c.code g.pc = .ok (.invokevirtual index, 3)) (eT : T.heap = h)
    (hc : cells + kc ≤ R.cells) (hs : slots + ks ≤ R.slots) :
    ∃ v T' L, Stand p l e R s m args below meth c T' (locs ++ L) (cells + kc) (slots + ks) ∧ Q v T'.heap L ∧ ∀ t, Steps p.tables e below (T'.setTop { g with pc := g.pc + 3, stack := v.toList ++ rest }) t → Steps p.tables e below (T.setTop g) t := by
  obtain ⟨cq, kq, qa, qb, qc⟩ := isOf hZ eT hE
  obtain ⟨v, vm1, ⟨T1, L1, k1, n1⟩, -, X1, ⟨Lc, hQ, l1, y1, z1⟩, st⟩ := X.virtualBack hx (y := y) (z := y) hown (mvT hZ w1) (mvT hZ w2) (notFace_of_selects (args := #[]) (mvT hZ w5)) (mvT hZ w5) (mvT hZ w6) hy hK qa qc hg hsize (Steps.refl _) (argsL := argsL) (rest := rest) hlen hst hW hd (fun _ _ => ⟨has, eT, hc, hs⟩)
  dsimp only [Pt.U, Pt.locs, Pt.cells, Pt.slots] at X1 l1 y1 z1 st hQ
  subst l1 y1 z1
  exact ⟨v, T1, Lc, X1, hQ, fun _ k => st.trans k⟩
theorem own_callV (X : Stand p l e R s m args below meth c T locs cells slots) (hx : p.tables.exec = Jvm.exec) (hZ : Z.Warmed39 s.vm) {own C : String} (hown : s.vm.findClass own = some m.cls) {index : Nat} {y : MethodName} {bytes : ByteArray} {maxL : Nat} {ret : Option FieldType}
    (w1 : (Jvm.Cond.methodLink own index y).before a0 Z = true) (w2 : (Jvm.Cond.declares y).before a0 Z = true) (w5 : (Jvm.Cond.selects C y y).before a0 Z = true) (w6 : (Jvm.Cond.instanceMethod y).before a0 Z = true) (w4 : (Jvm.Cond.code y bytes maxL ret).before a0 Z = true) (w3 : (Jvm.Cond.initialized y.cls).before a0 Z = true) (hy : y.cls ≠ "java/lang/invoke/MethodHandle" ∧ y.cls ≠ "java/lang/invoke/VarHandle")
    {rm : Room} {as : Array Value} {Q : Option Value → Heap → List Loc → Prop} (hM : own_C l Z y bytes maxL ret [] rm as h Q) {b : Addr} (hE : Exa Z h b C) {W : Nat}
    {g : JFrame} (hg : g.method = m) (hsize : g.locals.size = c.maxLocals) {argsL rest : List Value} (hlen : ∀ sig, parseMethodDescriptor y.desc = some sig → argsL.length = sig.parameters.length)
    (hst : g.stack = argsL.reverse ++ .ref b :: rest) (has : (.ref b :: argsL).toArray = as) (hW : 2 * g.monitorRoom + (rest.map fun v => v.category).sum ≤ W) (hd : decode c.code g.pc = .ok (.invokevirtual index, 3)) (eT : T.heap = h)
    (hf : rm.frames + 1 ≤ R.frames) (hl : W + (maxL + 11) + rm.locals ≤ R.locals) (hc : cells + rm.cells ≤ R.cells) (hs : slots + rm.slots ≤ R.slots) :
    ∃ v T' L, Stand p l e R s m args below meth c T' (locs ++ L) (cells + rm.cells) (slots + rm.slots) ∧ Q v T'.heap L ∧ ∀ t, Steps p.tables e below (T'.setTop { g with pc := g.pc + 3, stack := v.toList ++ rest }) t → Steps p.tables e below (T.setTop g) t :=
  own_backV X hx hZ hown w1 w2 w5 w6 w4 w3 hy (backOf (W := W) hM hZ w4 w3 hf hl) hE hg hsize hlen hst has hW hd eT hc hs
end OwnKit

section OwnFP
open Jvm.FP.Core
/-- a double's value in units of 2^-1074 -/
def own_z (x : UInt64) : Int := zval b64 (val64 x)
theorem own_zfin {x V : UInt64} (hx : val64 x ≠ .nan) (hV : DFin V) (h : own_z x = own_z V) : DFin x := by
  have h1 := hV.zval_lt
  unfold own_z zval at h
  have hm : zmag b64 (val64 x) = zmag b64 (val64 V) := by
    have := congrArg Int.natAbs h
    rwa [natAbs_signed, natAbs_signed] at this
  unfold DFin
  cases hv : val64 x with
  | nan => exact absurd hv hx
  | inf s =>
    rw [hv] at hm
    have : zmag b64 (.inf s) = b64.tails * 2 ^ (b64.exps - 2) := rfl
    rw [this] at hm
    omega
  | fin s c q => exact ⟨s, c, q, rfl⟩
theorem own_zadd {x y V : UInt64} (hx : DFin x) (hy : DFin y) (hV : DFin V) (h : own_z x + own_z y = own_z V) : DFin (dadd x y) ∧ own_z (dadd x y) = own_z V := by
  have e : own_z (dadd x y) = own_z V := by
    unfold own_z at *
    rw [val64_dadd]
    have a := sum_le good_b64 hx hy (val64_fits x) (val64_fits y) (val64_fits V) hV.ne_nan (Int.le_of_eq h)
    have b := sum_ge good_b64 hx hy (val64_fits x) (val64_fits y) (val64_fits V) hV.ne_nan (Int.le_of_eq h.symm)
    omega
  exact ⟨own_zfin ((notNaN_iff _).mp (dadd_out hx.notNaN hy)) hV e, e⟩
theorem own_zsub {x y V : UInt64} (hx : DFin x) (hy : DFin y) (hV : DFin V) (h : own_z x - own_z y = own_z V) : DFin (dsub x y) ∧ own_z (dsub x y) = own_z V := by
  have e : own_z (dsub x y) = own_z V := by
    unfold own_z at *
    rw [val64_dsub]
    obtain ⟨s, c, q, hq⟩ := hy
    have hn : ∃ s c q, negate (val64 y) = .fin s c q := ⟨!s, c, q, by rw [hq]; rfl⟩
    have a := sum_le good_b64 hx hn (val64_fits x) (negate_fits (val64_fits y)) (val64_fits V) hV.ne_nan (by rw [zval_negate]; omega)
    have b := sum_ge good_b64 hx hn (val64_fits x) (negate_fits (val64_fits y)) (val64_fits V) hV.ne_nan (by rw [zval_negate]; omega)
    omega
  exact ⟨own_zfin ((notNaN_iff _).mp (dsub_out hx.notNaN hy)) hV e, e⟩
theorem own_zmul {x y V : UInt64} (hx : DFin x) (hy : DFin y) (hV : DFin V) (h : own_z x * own_z y = own_z V * (one64 : Int)) : DFin (dmul x y) ∧ own_z (dmul x y) = own_z V := by
  have e : own_z (dmul x y) = own_z V := by
    unfold own_z at *
    rw [val64_dmul]
    have fx := val64_fits x
    have fy := val64_fits y
    obtain ⟨s, c, q, h1⟩ := hx
    obtain ⟨t, d, r, h2⟩ := hy
    rw [h1] at h fx ⊢
    rw [h2] at h fy ⊢
    obtain ⟨p1, p2, p3⟩ := product_units fx fy
    have hq : b64.qmin < 0 := qmin_neg good_b64
    have hs : signed (s != t) (inUnits (c * d) (q + r) (2 * b64.qmin)) = zval b64 (val64 V) * ((2 ^ (b64.qmin - 2 * b64.qmin).toNat : Nat) : Int) := by
      rw [p3, signed_xor, show (b64.qmin - 2 * b64.qmin).toNat = (-b64.qmin).toNat by omega, pow_qmin64]
      exact h
    rw [p1]
    have a := zval_round_le good_b64 (s := (s != t)) (c := c * d) (q := q + r) (e0 := 2 * b64.qmin) (val64_fits V) hV.ne_nan (by omega) p2 (Int.le_of_eq hs)
    have b := zval_round_ge good_b64 (s := (s != t)) (c := c * d) (q := q + r) (e0 := 2 * b64.qmin) (val64_fits V) hV.ne_nan (by omega) p2 (Int.le_of_eq hs.symm)
    omega
  exact ⟨own_zfin ((notNaN_iff _).mp (dmul_out hx hy)) hV e, e⟩
theorem own_zcmp {x y : UInt64} (hx : DFin x) (hy : DFin y) : dcmp x y = some (compare (own_z x) (own_z y)) := dcmp_zval hx.ne_nan hy.ne_nan
/-- n / 2^k is a double, for |n| up to 2^53 and k up to 1000 -/
theorem own_frac (n : Int) (k : Nat) (hk : k ≤ 1000) (hn : n.natAbs ≤ 2 ^ 53) : ∃ V : UInt64, DFin V ∧ ((2 ^ k : Nat) : Int) * own_z V = n * (one64 : Int) := by
  by_cases h0 : n = 0
  · refine ⟨0, ⟨_, _, _, val64_zero⟩, ?_⟩
    unfold own_z
    rw [zval64_zero, h0, Int.mul_zero, Int.zero_mul]
  obtain ⟨c, q, hfit, hv⟩ := natFit good_b64 wide_b64 (decide (n < 0)) (n := n.natAbs) hn
  have hp : b64.p = 53 := rfl
  have hqm : b64.qmin = -1074 := qmin_b64
  have hqM : b64.qmax = 971 := by decide
  have hT : b64.tails = 2 ^ 52 := tails_b64
  obtain ⟨c1, c2, c3, c4⟩ := hfit
  rw [hp] at c1
  have hq : -52 ≤ q := by
    refine Int.le_of_not_gt fun hlt => ?_
    rw [show (q - 0).toNat = 0 by omega, Nat.pow_zero, Nat.mul_one, Nat.mul_one] at hv
    have h1 : 2 ^ 53 ≤ 2 ^ (0 - q).toNat := Nat.pow_le_pow_right (by decide) (by omega)
    have h2 : 1 * 2 ^ (0 - q).toNat ≤ n.natAbs * 2 ^ (0 - q).toNat := Nat.mul_le_mul_right _ (by omega)
    omega
  have fit : FP.Core.fits b64 (.fin (decide (n < 0)) c (q - k)) := ⟨by rw [hp]; exact c1, by omega, by omega, Or.inr (by rcases c4 with c4 | c4 <;> omega)⟩
  refine ⟨of64 (.fin (decide (n < 0)) c (q - k)), ⟨_, _, _, val64_of64 fit⟩, ?_⟩
  unfold own_z
  rw [val64_of64 fit]
  show ((2 ^ k : Nat) : Int) * signed (decide (n < 0)) (inUnits c (q - k) b64.qmin) = _
  have e : 2 ^ k * inUnits c (q - k) b64.qmin = n.natAbs * one64 := by
    unfold inUnits
    rw [hqm, ← pow_qmin64, hqm]
    rw [show (- (-1074 : Int)).toNat = 1074 by decide]
    have h3 : n.natAbs * 2 ^ 1074 * 2 ^ (0 - q).toNat = 2 ^ k * (c * 2 ^ (q - k - -1074).toNat) * 2 ^ (0 - q).toNat := by
      generalize hE : (1074 : Nat) = E1
      have hE' : (E1 : Int) = 1074 := by omega
      calc n.natAbs * 2 ^ E1 * 2 ^ (0 - q).toNat = (n.natAbs * 2 ^ (0 - q).toNat) * 2 ^ E1 := by ac_rfl
        _ = (c * 1 * 2 ^ (q - 0).toNat) * 2 ^ E1 := by rw [hv]
        _ = c * (2 ^ ((q - 0).toNat + E1)) := by rw [Nat.mul_one, Nat.mul_assoc, ← Nat.pow_add]
        _ = c * (2 ^ (k + (q - k - -1074).toNat + (0 - q).toNat)) := by rw [show (q - 0).toNat + E1 = k + (q - k - -1074).toNat + (0 - q).toNat by omega]
        _ = 2 ^ k * (c * 2 ^ (q - k - -1074).toNat) * 2 ^ (0 - q).toNat := by rw [Nat.pow_add, Nat.pow_add]; ac_rfl
    exact (Nat.eq_of_mul_eq_mul_right (Nat.two_pow_pos _) h3).symm
  have e' : ((2 ^ k : Nat) : Int) * ((inUnits c (q - k) b64.qmin : Nat) : Int) = (n.natAbs : Int) * (one64 : Int) := by
    rw [← Int.natCast_mul, e, Int.natCast_mul]
  unfold signed
  by_cases hneg : n < 0
  · simp only [hneg, decide_true, if_true]
    have : (n.natAbs : Int) = -n := by omega
    rw [this, Int.neg_mul] at e'
    rw [Int.mul_neg]
    omega
  · simp only [hneg, decide_false, Bool.false_eq_true, if_false]
    have : (n.natAbs : Int) = n := by omega
    rw [this] at e'
    exact e'
theorem own_half (n : Int) (hn : n.natAbs ≤ 2 ^ 53) : ∃ V : UInt64, DFin V ∧ 2 * own_z V = n * (one64 : Int) := own_frac n 1 (by decide) hn
theorem own_conv {c d mV i b a j u : Nat} (h : i + b = a + j + u) : (c * 2 ^ i ≤ mV * 2 ^ j * d) ↔ (c * 2 ^ a * 2 ^ u ≤ mV * (d * 2 ^ b)) := by
  have h1 : c * 2 ^ i * 2 ^ b = c * 2 ^ a * 2 ^ u * 2 ^ j := by
    rw [Nat.mul_assoc, ← Nat.pow_add, h, Nat.pow_add, Nat.pow_add]; ac_rfl
  have h2 : mV * 2 ^ j * d * 2 ^ b = mV * (d * 2 ^ b) * 2 ^ j := by ac_rfl
  constructor
  · intro q
    have := Nat.mul_le_mul_right (2 ^ b) q
    rw [h1, h2] at this
    exact Nat.le_of_mul_le_mul_right this (Nat.two_pow_pos _)
  · intro q
    have := Nat.mul_le_mul_right (2 ^ j) q
    rw [← h1, ← h2] at this
    exact Nat.le_of_mul_le_mul_right this (Nat.two_pow_pos _)
theorem own_conv' {c d mV i b a j u : Nat} (h : i + b = a + j + u) : (mV * 2 ^ j * d ≤ c * 2 ^ i) ↔ (mV * (d * 2 ^ b) ≤ c * 2 ^ a * 2 ^ u) := by
  have h1 : c * 2 ^ i * 2 ^ b = c * 2 ^ a * 2 ^ u * 2 ^ j := by
    rw [Nat.mul_assoc, ← Nat.pow_add, h, Nat.pow_add, Nat.pow_add]; ac_rfl
  have h2 : mV * 2 ^ j * d * 2 ^ b = mV * (d * 2 ^ b) * 2 ^ j := by ac_rfl
  constructor
  · intro q
    have := Nat.mul_le_mul_right (2 ^ b) q
    rw [h1, h2] at this
    exact Nat.le_of_mul_le_mul_right this (Nat.two_pow_pos _)
  · intro q
    have := Nat.mul_le_mul_right (2 ^ j) q
    rw [← h1, ← h2] at this
    exact Nat.le_of_mul_le_mul_right this (Nat.two_pow_pos _)
/-- the quotient by a positive double: its shape, and its magnitude against any double's -/
theorem own_quot {x y : UInt64} (hx : DFin x) (hy : DFin y) (hp : 0 < own_z y) :
    sgn (val64 (ddiv x y)) = sgn (val64 x) ∧ val64 (ddiv x y) ≠ .nan ∧
    (∀ V : UInt64, val64 V ≠ .nan → zmag b64 (val64 x) * one64 ≤ zmag b64 (val64 V) * zmag b64 (val64 y) → zmag b64 (val64 (ddiv x y)) ≤ zmag b64 (val64 V)) ∧
    (∀ V : UInt64, zmag b64 (val64 V) * zmag b64 (val64 y) ≤ zmag b64 (val64 x) * one64 → zmag b64 (val64 V) ≤ zmag b64 (val64 (ddiv x y))) := by
  rw [val64_ddiv]
  have fx := val64_fits x
  have fy := val64_fits y
  unfold own_z zval at hp
  obtain ⟨s, c, q, h1⟩ := hx
  obtain ⟨t, d, r, h2⟩ := hy
  rw [h1] at fx ⊢
  rw [h2] at fy hp ⊢
  have hq0 : b64.qmin < 0 := qmin_neg good_b64
  have hz : zmag b64 (.fin t d r) = d * 2 ^ (r - b64.qmin).toNat := rfl
  have ht : t = false := by
    cases t with
    | false => rfl
    | true => simp only [signed, FP.Core.sgn, if_true] at hp; omega
  subst ht
  have hd : d ≠ 0 := by
    intro h0; subst h0
    rw [hz, Nat.zero_mul] at hp
    simp [signed, FP.Core.sgn] at hp
  have hd0 : 0 < d := Nat.pos_of_ne_zero hd
  have e : quotient b64 (.fin s c q) (.fin false d r) = roundRatio b64 (s != false) c d (q - r) := by
    show (if d = 0 then _ else _) = _
    rw [if_neg hd]
  rw [e, sgn_roundRatio]
  refine ⟨by cases s <;> rfl, roundRatio_ne_nan _ _ _ _ _, ?_, ?_⟩
  · intro V hV hle
    refine zmag_roundRatio_le good_b64 (e0 := min b64.qmin (q - r)) hd0 (val64_fits V) hV (by omega) (by omega) ?_
    refine (own_conv (a := (q - b64.qmin).toNat) (b := (r - b64.qmin).toNat) (u := (-b64.qmin).toNat) ?_).mpr ?_
    · have := fx.2.1; have := fy.2.1; omega
    · rw [pow_qmin64]; exact hle
  · intro V hle
    refine zmag_roundRatio_ge good_b64 (e0 := min b64.qmin (q - r)) hd0 (val64_fits V) (by omega) (by omega) ?_
    refine (own_conv' (a := (q - b64.qmin).toNat) (b := (r - b64.qmin).toNat) (u := (-b64.qmin).toNat) ?_).mpr ?_
    · have := fx.2.1; have := fy.2.1; omega
    · rw [pow_qmin64]; exact hle
theorem own_zpos {y : UInt64} (hp : 0 < own_z y) : own_z y = (zmag b64 (val64 y) : Int) := by
  unfold own_z zval signed at *
  by_cases h : sgn (val64 y) = true
  · rw [if_pos h] at hp; omega
  · rw [if_neg h]
theorem own_zdiv_le {x y V : UInt64} (hx : DFin x) (hy : DFin y) (hp : 0 < own_z y) (hV : val64 V ≠ .nan) (h : own_z x * (one64 : Int) ≤ own_z V * own_z y) : own_z (ddiv x y) ≤ own_z V := by
  obtain ⟨q1, q2, q3, q4⟩ := own_quot hx hy hp
  have q3 := q3 V hV
  have q4 := q4 V
  rw [own_zpos hp] at h
  have hB : 0 < zmag b64 (val64 y) := by have := own_zpos hp; omega
  unfold own_z zval at h ⊢
  rw [q1]
  generalize zmag b64 (val64 x) = A at *
  generalize zmag b64 (val64 y) = B at *
  generalize zmag b64 (val64 V) = M at *
  generalize zmag b64 (val64 (ddiv x y)) = D at *
  have c1 : ((A * one64 : Nat) : Int) = (A : Int) * (one64 : Int) := Int.natCast_mul _ _
  have c2 : ((M * B : Nat) : Int) = (M : Int) * (B : Int) := Int.natCast_mul _ _
  generalize sgn (val64 x) = sx at h ⊢
  generalize sgn (val64 V) = sV at h ⊢
  cases sx <;> cases sV <;> simp only [signed, if_true, Bool.false_eq_true, if_false, Int.neg_mul] at h ⊢
  · have := q3 (by omega); omega
  · have h3 : A * one64 = 0 ∧ M * B = 0 := by omega
    have h4 : M = 0 := by rcases Nat.mul_eq_zero.mp h3.2 with h | h <;> omega
    have := q3 (by omega); omega
  · omega
  · have := q4 (by omega); omega
theorem own_zdiv_ge {x y V : UInt64} (hx : DFin x) (hy : DFin y) (hp : 0 < own_z y) (hV : val64 V ≠ .nan) (h : own_z V * own_z y ≤ own_z x * (one64 : Int)) : own_z V ≤ own_z (ddiv x y) := by
  obtain ⟨q1, q2, q3, q4⟩ := own_quot hx hy hp
  have q3 := q3 V hV
  have q4 := q4 V
  rw [own_zpos hp] at h
  have hB : 0 < zmag b64 (val64 y) := by have := own_zpos hp; omega
  unfold own_z zval at h ⊢
  rw [q1]
  generalize zmag b64 (val64 x) = A at *
  generalize zmag b64 (val64 y) = B at *
  generalize zmag b64 (val64 V) = M at *
  generalize zmag b64 (val64 (ddiv x y)) = D at *
  have c1 : ((A * one64 : Nat) : Int) = (A : Int) * (one64 : Int) := Int.natCast_mul _ _
  have c2 : ((M * B : Nat) : Int) = (M : Int) * (B : Int) := Int.natCast_mul _ _
  generalize sgn (val64 x) = sx at h ⊢
  generalize sgn (val64 V) = sV at h ⊢
  cases sx <;> cases sV <;> simp only [signed, if_true, Bool.false_eq_true, if_false, Int.neg_mul] at h ⊢
  · have := q4 (by omega); omega
  · omega
  · have h3 : A * one64 = 0 ∧ M * B = 0 := by omega
    have h4 : M = 0 := by rcases Nat.mul_eq_zero.mp h3.2 with h | h <;> omega
    have := q3 (by omega); omega
  · have := q3 (by omega); omega
theorem own_zdiv {x y V : UInt64} (hx : DFin x) (hy : DFin y) (hp : 0 < own_z y) (hV : DFin V) (h : own_z x * (one64 : Int) = own_z V * own_z y) : DFin (ddiv x y) ∧ own_z (ddiv x y) = own_z V := by
  have a := own_zdiv_le hx hy hp hV.ne_nan (Int.le_of_eq h)
  have b := own_zdiv_ge hx hy hp hV.ne_nan (Int.le_of_eq h.symm)
  have e : own_z (ddiv x y) = own_z V := by omega
  exact ⟨own_zfin (own_quot hx hy hp).2.1 hV e, e⟩
/-- x is the number n / 2 -/
def own_DH (n : Int) (x : UInt64) : Prop := DFin x ∧ 2 * own_z x = n * (one64 : Int)
theorem own_DH.fin {n : Int} {x : UInt64} (h : own_DH n x) : DFin x := h.1
theorem own_DH.nn {n : Int} {x : UInt64} (h : own_DH n x) : Jvm.Free.Fl.NoNaN64 x := Jvm.Free.Fl.noNaN64_no.mpr h.1.notNaN
theorem own_DH.of_z {n : Int} {x V : UInt64} (hx : DFin x) (hV : 2 * own_z V = n * (one64 : Int)) (h : own_z x = own_z V) : own_DH n x := ⟨hx, by rw [h]; exact hV⟩
theorem own_dh_int {i : Int} {x : UInt64} (h : DInt i x) : own_DH (2 * i) x := by
  refine ⟨?_, by unfold own_z; rw [DInt_zval h, Int.mul_assoc]⟩
  unfold DInt at h
  unfold DFin
  cases hv : val64 x with
  | nan => rw [hv] at h; exact h.elim
  | inf s => rw [hv] at h; exact h.elim
  | fin s c q => exact ⟨s, c, q, rfl⟩
theorem own_dh_i2d (a : Int32) : own_DH (2 * a.toInt) (FP.i2d a) := own_dh_int (i2d_int a)
theorem own_dh_l2d (a : Int64) (h : a.toInt.natAbs ≤ 2 ^ 53) : own_DH (2 * a.toInt) (FP.l2d a) := own_dh_int (l2d_int h)
theorem own_dh_add {m n : Int} {x y : UInt64} (hx : own_DH m x) (hy : own_DH n y) (h : (m + n).natAbs ≤ 2 ^ 53) : own_DH (m + n) (FP.dadd x y) := by
  obtain ⟨V, hV, eV⟩ := own_half _ h
  have e : own_z x + own_z y = own_z V := by
    have h1 := hx.2; have h2 := hy.2
    rw [Int.add_mul] at eV
    omega
  obtain ⟨q1, q2⟩ := own_zadd hx.1 hy.1 hV e
  exact own_DH.of_z q1 eV q2
theorem own_dh_sub {m n : Int} {x y : UInt64} (hx : own_DH m x) (hy : own_DH n y) (h : (m - n).natAbs ≤ 2 ^ 53) : own_DH (m - n) (FP.dsub x y) := by
  obtain ⟨V, hV, eV⟩ := own_half _ h
  have e : own_z x - own_z y = own_z V := by
    have h1 := hx.2; have h2 := hy.2
    rw [Int.sub_mul] at eV
    omega
  obtain ⟨q1, q2⟩ := own_zsub hx.1 hy.1 hV e
  exact own_DH.of_z q1 eV q2
/-- a product of which the double of the value is a whole number k: 2 * (m/2) * (n/2) = k -/
theorem own_dh_mul {m n k : Int} {x y : UInt64} (hx : own_DH m x) (hy : own_DH n y) (hk : m * n = 2 * k) (h : k.natAbs ≤ 2 ^ 53) : own_DH k (FP.dmul x y) := by
  obtain ⟨V, hV, eV⟩ := own_half _ h
  have e : own_z x * own_z y = own_z V * (one64 : Int) := by
    have h1 := hx.2; have h2 := hy.2
    generalize (one64 : Int) = U at *
    have h3 : (2 * own_z x) * (2 * own_z y) = (m * U) * (n * U) := by rw [h1, h2]
    have h4 : (m * U) * (n * U) = (m * n) * (U * U) := by ac_rfl
    have h5 : (2 * own_z x) * (2 * own_z y) = 4 * (own_z x * own_z y) := by
      rw [show (4 : Int) = 2 * 2 by rfl]; ac_rfl
    have h6 : (m * n) * (U * U) = 4 * (own_z V * U) := by
      rw [hk, show (2 * k) * (U * U) = 2 * ((k * U) * U) by ac_rfl, ← eV]
      rw [show (4 : Int) = 2 * 2 by rfl]; ac_rfl
    have h7 : 4 * (own_z x * own_z y) = 4 * (own_z V * U) := by rw [← h5, h3, h4, h6]
    omega
  obtain ⟨q1, q2⟩ := own_zmul hx.1 hy.1 hV e
  exact own_DH.of_z q1 eV q2
theorem own_dh_cmp {m n : Int} {x y : UInt64} (hx : own_DH m x) (hy : own_DH n y) : FP.dcmp x y = some (compare m n) := by
  rw [show FP.dcmp x y = _ from own_zcmp hx.1 hy.1]
  have h1 := hx.2; have h2 := hy.2
  have hU : (0 : Int) < (one64 : Int) := by have := one64_pos; omega
  congr 1
  refine compare_congr ⟨fun q => ?_, fun q => ?_⟩ ⟨fun q => ?_, fun q => ?_⟩
  · have : m * (one64 : Int) < n * (one64 : Int) := by omega
    exact Int.lt_of_mul_lt_mul_right this (Int.le_of_lt hU)
  · have := Int.mul_lt_mul_of_pos_right q hU
    omega
  · have : m * (one64 : Int) = n * (one64 : Int) := by omega
    exact Int.eq_of_mul_eq_mul_right (Int.ne_of_gt hU) this
  · subst q; omega
theorem own_dh_div {m n k : Int} {x y : UInt64} (hx : own_DH m x) (hy : own_DH n y) (hn : 0 < n) (hk : 2 * m = k * n) (h : k.natAbs ≤ 2 ^ 53) : own_DH k (FP.ddiv x y) := by
  obtain ⟨V, hV, eV⟩ := own_half _ h
  have h1 := hx.2; have h2 := hy.2
  have hU : (0 : Int) < (one64 : Int) := by have := one64_pos; omega
  have hp : 0 < own_z y := by have := Int.mul_pos hn hU; omega
  have e : own_z x * (one64 : Int) = own_z V * own_z y := by
    generalize (one64 : Int) = U at *
    have h3 : (2 * own_z V) * (2 * own_z y) = (k * U) * (n * U) := by rw [eV, h2]
    have h4 : (k * U) * (n * U) = (k * n) * (U * U) := by ac_rfl
    have h5 : (2 * own_z V) * (2 * own_z y) = 4 * (own_z V * own_z y) := by rw [show (4 : Int) = 2 * 2 by rfl]; ac_rfl
    have h6 : (k * n) * (U * U) = 4 * (own_z x * U) := by
      rw [← hk, show (2 * m) * (U * U) = 2 * ((m * U) * U) by ac_rfl, ← h1, show (4 : Int) = 2 * 2 by rfl]; ac_rfl
    have h7 : 4 * (own_z x * U) = 4 * (own_z V * own_z y) := by rw [← h6, ← h4, ← h3, h5]
    omega
  obtain ⟨q1, q2⟩ := own_zdiv hx.1 hy.1 hp hV e
  exact own_DH.of_z q1 eV q2
end OwnFP

theorem d1_0 : decode prog_34_method_1_code 0 = .ok (.aload_n 0, 1) := by decide +kernel
theorem d1_1 : decode prog_34_method_1_code 1 = .ok (.invokespecial 1, 3) := by decide +kernel
theorem d1_4 : decode prog_34_method_1_code 4 = .ok (.aload_n 0, 1) := by decide +kernel
theorem d1_5 : decode prog_34_method_1_code 5 = .ok (.dload_n 1, 1) := by decide +kernel
theorem d1_6 : decode prog_34_method_1_code 6 = .ok (.putfield 7, 3) := by decide +kernel
theorem d1_9 : decode prog_34_method_1_code 9 = .ok (.aload_n 0, 1) := by decide +kernel
theorem d1_10 : decode prog_34_method_1_code 10 = .ok (.dload_n 3, 1) := by decide +kernel
theorem d1_11 : decode prog_34_method_1_code 11 = .ok (.putfield 13, 3) := by decide +kernel
theorem d1_14 : decode prog_34_method_1_code 14 = .ok (.aload_n 0, 1) := by decide +kernel
theorem d1_15 : decode prog_34_method_1_code 15 = .ok (.dload 5, 2) := by decide +kernel
theorem d1_17 : decode prog_34_method_1_code 17 = .ok (.putfield 16, 3) := by decide +kernel
theorem d1_20 : decode prog_34_method_1_code 20 = .ok (.aload_n 0, 1) := by decide +kernel
theorem d1_21 : decode prog_34_method_1_code 21 = .ok (.dload 7, 2) := by decide +kernel
theorem d1_23 : decode prog_34_method_1_code 23 = .ok (.putfield 19, 3) := by decide +kernel
theorem d1_26 : decode prog_34_method_1_code 26 = .ok (.return_, 1) := by decide +kernel

theorem d2_0 : decode jdk_30_method_1_code 0 = .ok (.aload_n 0, 1) := by decide +kernel
theorem d2_1 : decode jdk_30_method_1_code 1 = .ok (.invokespecial 1, 3) := by decide +kernel
theorem d2_4 : decode jdk_30_method_1_code 4 = .ok (.return_, 1) := by decide +kernel

theorem d4_0 : decode prog_34_method_2_code 0 = .ok (.dload_n 1, 1) := by decide +kernel
theorem d4_1 : decode prog_34_method_2_code 1 = .ok (.aload_n 0, 1) := by decide +kernel
theorem d4_2 : decode prog_34_method_2_code 2 = .ok (.getfield 7, 3) := by decide +kernel
theorem d4_5 : decode prog_34_method_2_code 5 = .ok (.dsub, 1) := by decide +kernel
theorem d4_6 : decode prog_34_method_2_code 6 = .ok (.dstore_n 3, 1) := by decide +kernel
theorem d4_7 : decode prog_34_method_2_code 7 = .ok (.aload_n 0, 1) := by decide +kernel
theorem d4_8 : decode prog_34_method_2_code 8 = .ok (.getfield 13, 3) := by decide +kernel
theorem d4_11 : decode prog_34_method_2_code 11 = .ok (.aload_n 0, 1) := by decide +kernel
theorem d4_12 : decode prog_34_method_2_code 12 = .ok (.getfield 16, 3) := by decide +kernel
theorem d4_15 : decode prog_34_method_2_code 15 = .ok (.dload_n 3, 1) := by decide +kernel
theorem d4_16 : decode prog_34_method_2_code 16 = .ok (.dmul, 1) := by decide +kernel
theorem d4_17 : decode prog_34_method_2_code 17 = .ok (.dadd, 1) := by decide +kernel
theorem d4_18 : decode prog_34_method_2_code 18 = .ok (.aload_n 0, 1) := by decide +kernel
theorem d4_19 : decode prog_34_method_2_code 19 = .ok (.getfield 19, 3) := by decide +kernel
theorem d4_22 : decode prog_34_method_2_code 22 = .ok (.dload_n 3, 1) := by decide +kernel
theorem d4_23 : decode prog_34_method_2_code 23 = .ok (.dmul, 1) := by decide +kernel
theorem d4_24 : decode prog_34_method_2_code 24 = .ok (.dload_n 3, 1) := by decide +kernel
theorem d4_25 : decode prog_34_method_2_code 25 = .ok (.dmul, 1) := by decide +kernel
theorem d4_26 : decode prog_34_method_2_code 26 = .ok (.ldc2_w 22, 3) := by decide +kernel
theorem d4_29 : decode prog_34_method_2_code 29 = .ok (.ddiv, 1) := by decide +kernel
theorem d4_30 : decode prog_34_method_2_code 30 = .ok (.dadd, 1) := by decide +kernel
theorem d4_31 : decode prog_34_method_2_code 31 = .ok (.dreturn, 1) := by decide +kernel

theorem pn_0 : plainFor x = true := by first | exact plainFor_of_name (by first | (simp [plainName, overriddenIn]; done) | decide +kernel) | decide +kernel

theorem pn_1 : plainFor (⟨"com/example/zellwerk/zellwerk/model/Phase", "<init>", "(DDDD)V"⟩ : MethodName) = true := by first | exact plainFor_of_name (by first | (simp [plainName, overriddenIn]; done) | decide +kernel) | decide +kernel

theorem pn_2 : plainFor (⟨"java/lang/Record", "<init>", "()V"⟩ : MethodName) = true := by first | exact plainFor_of_name (by first | (simp [plainName, overriddenIn]; done) | decide +kernel) | decide +kernel

theorem pn_4 : plainFor (⟨"com/example/zellwerk/zellwerk/model/Phase", "coveredAt", "(D)D"⟩ : MethodName) = true := by first | exact plainFor_of_name (by first | (simp [plainName, overriddenIn]; done) | decide +kernel) | decide +kernel

theorem pd__DDDD_V : parseMethodDescriptor "(DDDD)V" = some ⟨[.double, .double, .double, .double], none⟩ := by decide +kernel
theorem pd___V : parseMethodDescriptor "()V" = some ⟨[], none⟩ := by decide +kernel
theorem pd__D_D : parseMethodDescriptor "(D)D" = some ⟨[.double], some .double⟩ := by decide +kernel

def own_Qr (r : Option Value) (h0 : Heap) (n0 : Nat) (v : Option Value) (h : Heap) (L : List Loc) : Prop := v = r ∧ Fr n0 L ∧ h = h0
set_option maxRecDepth 65536 in
set_option maxHeartbeats 4000000 in
theorem rmRec (l : Launch) (Z : State) (a0 : Array Value) (hw : ∀ d ∈ tables_1, d.before a0 Z = true) (ws : List Jvm.Cond) (h0 : Heap) (n0 : Nat) (a : Addr) :
    own_C l Z (⟨"java/lang/Record", "<init>", "()V"⟩ : MethodName) jdk_30_method_1_code 1 none ws ({ frames := 1, cells := 0, slots := 0, locals := 12 } : Room) #[(.ref a)] h0 (own_Qr none h0 n0) := by
  refine own_body (ls := #[.val (.ref a)]) pn_2 (fun m => by first | (simp [entryFrame, mkF, argsToLocals, Value.category]; done) | rfl) ?_
  intro p e s m below meth c T0 hZ hx hby hml hown hnm hret hlk X0 e0
  replace hml : c.maxLocals = 1 := hml
  have N0 := Fr.nil n0
  refine own_go (fun _ => XS.aloadN X0.here hx rfl (hb hby d2_0) rfl rfl) ?_
  show own_R p.tables e below _ T0 (mkF m 1 #[.val (.ref a)] [(.ref a)])
  obtain ⟨T1, X1, e1, st1⟩ := initO X0 hx hZ hown (hw _ (List.mem_of_getElem? (i := 13) rfl)) (hw _ (List.mem_of_getElem? (i := 14) rfl)) (hw _ (List.mem_of_getElem? (i := 15) rfl)) e0 (g := (mkF m 1 #[.val (.ref a)] [(.ref a)])) rfl (by rw [hml]; rfl) rfl (hb hby d2_1) (by decide) (W := 0) (by show 2 * 0 + _ ≤ _; exact Nat.le_of_eq rfl) (by decide)
  refine own_go st1 ?_
  show own_R p.tables e below _ T1 (mkF m 4 #[.val (.ref a)] [])
  exact own_end X1 none (fun _ => rfl) hlk (fun fs hr => X1.returnOut hx hret (hb hby d2_4) hr) ⟨rfl, N0, e1⟩ (by decide) (by decide)
def own_Qi (Z : State) (a : Addr) (vs vc vv va : UInt64) (h0 : Heap) (n0 : Nat) (v : Option Value) (h : Heap) (L : List Loc) : Prop := v = none ∧ Fr n0 L ∧ Keep h0 h [a] ∧ Exa Z h a "com/example/zellwerk/zellwerk/model/Phase" ∧ Fld Z h a "com/example/zellwerk/zellwerk/model/Phase" "start" "D" (.double vs) ∧ Fld Z h a "com/example/zellwerk/zellwerk/model/Phase" "covered" "D" (.double vc) ∧ Fld Z h a "com/example/zellwerk/zellwerk/model/Phase" "speed" "D" (.double vv) ∧ Fld Z h a "com/example/zellwerk/zellwerk/model/Phase" "acceleration" "D" (.double va)
set_option maxRecDepth 65536 in
set_option maxHeartbeats 4000000 in
theorem rmInit (l : Launch) (Z : State) (a0 : Array Value) (hw : ∀ d ∈ tables_1, d.before a0 Z = true) (ws : List Jvm.Cond) (h0 : Heap) (n0 : Nat) (a : Addr) (vs vc vv va : UInt64) (g9 : n0 ≤ a) (E : Exa Z h0 a "com/example/zellwerk/zellwerk/model/Phase") (Fstart : Fld Z h0 a "com/example/zellwerk/zellwerk/model/Phase" "start" "D" (.double 0)) (Fcovered : Fld Z h0 a "com/example/zellwerk/zellwerk/model/Phase" "covered" "D" (.double 0)) (Fspeed : Fld Z h0 a "com/example/zellwerk/zellwerk/model/Phase" "speed" "D" (.double 0)) (Facceleration : Fld Z h0 a "com/example/zellwerk/zellwerk/model/Phase" "acceleration" "D" (.double 0)) :
    own_C l Z (⟨"com/example/zellwerk/zellwerk/model/Phase", "<init>", "(DDDD)V"⟩ : MethodName) prog_34_method_1_code 9 none ws ({ frames := 2, cells := 0, slots := 0, locals := 24 } : Room) #[(.ref a), (.double vs), (.double vc), (.double vv), (.double va)] h0 (own_Qi Z a vs vc vv va h0 n0) := by
  refine own_body (ls := #[.val (.ref a), .val (.double vs), .second, .val (.double vc), .second, .val (.double vv), .second, .val (.double va), .second]) pn_1 (fun m => by first | (simp [entryFrame, mkF, argsToLocals, Value.category]; done) | rfl) ?_
  intro p e s m below meth c T0 hZ hx hby hml hown hnm hret hlk X0 e0
  replace hml : c.maxLocals = 9 := hml
  have N0 := Fr.nil n0
  refine own_go (fun _ => XS.aloadN X0.here hx rfl (hb hby d1_0) rfl rfl) ?_
  show own_R p.tables e below _ T0 (mkF m 1 #[.val (.ref a), .val (.double vs), .second, .val (.double vc), .second, .val (.double vv), .second, .val (.double va), .second] [(.ref a)])
  obtain ⟨v1, T1, L1, X1, Q1, st1⟩ := own_callI X0 hx hZ hown (y := (⟨"java/lang/Record", "<init>", "()V"⟩ : MethodName)) rfl (hw _ (List.mem_of_getElem? (i := 8) rfl)) (hw _ (List.mem_of_getElem? (i := 9) rfl)) (hw _ (List.mem_of_getElem? (i := 12) rfl)) (hw _ (List.mem_of_getElem? (i := 11) rfl)) (by decide) (rmRec l Z a0 hw [] h0 n0 a) (W := 0) (g := (mkF m 1 #[.val (.ref a), .val (.double vs), .second, .val (.double vc), .second, .val (.double vv), .second, .val (.double va), .second] [(.ref a)])) rfl (by rw [hml]; rfl) (a := a) (argsL := []) (rest := []) (lenOf pd___V rfl) rfl rfl (by show 2 * 0 + _ ≤ _; exact Nat.le_of_eq rfl) (hb hby d1_1) e0 (by decide) (by decide) (by decide) (by decide)
  obtain ⟨rfl, N1q, e1⟩ := Q1
  have N1 := Fr.app N0 N1q
  refine own_go st1 ?_
  show own_R p.tables e below _ T1 (mkF m 4 #[.val (.ref a), .val (.double vs), .second, .val (.double vc), .second, .val (.double vv), .second, .val (.double va), .second] [])
  refine own_go (fun _ => XS.aloadN X1.here hx rfl (hb hby d1_4) rfl rfl) ?_
  show own_R p.tables e below _ T1 (mkF m 5 #[.val (.ref a), .val (.double vs), .second, .val (.double vc), .second, .val (.double vv), .second, .val (.double va), .second] [(.ref a)])
  refine own_go (fun _ => XS.dloadN X1.here hx rfl (hb hby d1_5) rfl ) ?_
  show own_R p.tables e below _ T1 (mkF m 6 #[.val (.ref a), .val (.double vs), .second, .val (.double vc), .second, .val (.double vv), .second, .val (.double va), .second] [(.double vs), (.ref a)])
  obtain ⟨T2, h2, X2, e2, W2, st2⟩ := putF X1 hx hZ hown (host := "") (Or.inl (hw _ (List.mem_of_getElem? (i := 16) rfl))) Via.refl e1 Fstart E (Or.inr ⟨(hw _ (List.mem_of_getElem? (i := 17) rfl)), rfl, hnm⟩) (hw _ (List.mem_of_getElem? (i := 3) rfl)) (ty := .double) (by decide) rfl rfl (g := (mkF m 6 #[.val (.ref a), .val (.double vs), .second, .val (.double vc), .second, .val (.double vv), .second, .val (.double va), .second] [(.double vs), (.ref a)])) rfl rfl (hb hby d1_6)
  refine own_go st2 ?_
  show own_R p.tables e below _ T2 (mkF m 9 #[.val (.ref a), .val (.double vs), .second, .val (.double vc), .second, .val (.double vv), .second, .val (.double va), .second] [])
  have N2 := Fr.snoc X2 N1 g9
  have K2 : Keep h0 h2 [a] := (Keep.refl h0 [a]).wr W2 (Or.inl (List.mem_singleton.mpr rfl))
  have E2 : Exa Z h2 a "com/example/zellwerk/zellwerk/model/Phase" := E.wr W2
  have Fstart2 := Fstart.same W2
  have Fcovered2 := Fcovered.other W2 (Or.inr (slot_ne (Or.inr (hw _ (List.mem_of_getElem? (i := 19) rfl))) (Or.inr (hw _ (List.mem_of_getElem? (i := 17) rfl))) (by decide) (t := .double) (t' := .double) (by decide) (by decide)))
  have Fspeed2 := Fspeed.other W2 (Or.inr (slot_ne (Or.inr (hw _ (List.mem_of_getElem? (i := 21) rfl))) (Or.inr (hw _ (List.mem_of_getElem? (i := 17) rfl))) (by decide) (t := .double) (t' := .double) (by decide) (by decide)))
  have Facceleration2 := Facceleration.other W2 (Or.inr (slot_ne (Or.inr (hw _ (List.mem_of_getElem? (i := 23) rfl))) (Or.inr (hw _ (List.mem_of_getElem? (i := 17) rfl))) (by decide) (t := .double) (t' := .double) (by decide) (by decide)))
  refine own_go (fun _ => XS.aloadN X2.here hx rfl (hb hby d1_9) rfl rfl) ?_
  show own_R p.tables e below _ T2 (mkF m 10 #[.val (.ref a), .val (.double vs), .second, .val (.double vc), .second, .val (.double vv), .second, .val (.double va), .second] [(.ref a)])
  refine own_go (fun _ => XS.dloadN X2.here hx rfl (hb hby d1_10) rfl ) ?_
  show own_R p.tables e below _ T2 (mkF m 11 #[.val (.ref a), .val (.double vs), .second, .val (.double vc), .second, .val (.double vv), .second, .val (.double va), .second] [(.double vc), (.ref a)])
  obtain ⟨T3, h3, X3, e3, W3, st3⟩ := putF X2 hx hZ hown (host := "") (Or.inl (hw _ (List.mem_of_getElem? (i := 18) rfl))) Via.refl e2 Fcovered2 E2 (Or.inr ⟨(hw _ (List.mem_of_getElem? (i := 19) rfl)), rfl, hnm⟩) (hw _ (List.mem_of_getElem? (i := 3) rfl)) (ty := .double) (by decide) rfl rfl (g := (mkF m 11 #[.val (.ref a), .val (.double vs), .second, .val (.double vc), .second, .val (.double vv), .second, .val (.double va), .second] [(.double vc), (.ref a)])) rfl rfl (hb hby d1_11)
  refine own_go st3 ?_
  show own_R p.tables e below _ T3 (mkF m 14 #[.val (.ref a), .val (.double vs), .second, .val (.double vc), .second, .val (.double vv), .second, .val (.double va), .second] [])
  have N3 := Fr.snoc X3 N2 g9
  have K3 : Keep h0 h3 [a] := K2.wr W3 (Or.inl (List.mem_singleton.mpr rfl))
  have E3 : Exa Z h3 a "com/example/zellwerk/zellwerk/model/Phase" := E2.wr W3
  have Fstart3 := Fstart2.other W3 (Or.inr (slot_ne (Or.inr (hw _ (List.mem_of_getElem? (i := 17) rfl))) (Or.inr (hw _ (List.mem_of_getElem? (i := 19) rfl))) (by decide) (t := .double) (t' := .double) (by decide) (by decide)))
  have Fcovered3 := Fcovered2.same W3
  have Fspeed3 := Fspeed2.other W3 (Or.inr (slot_ne (Or.inr (hw _ (List.mem_of_getElem? (i := 21) rfl))) (Or.inr (hw _ (List.mem_of_getElem? (i := 19) rfl))) (by decide) (t := .double) (t' := .double) (by decide) (by decide)))
  have Facceleration3 := Facceleration2.other W3 (Or.inr (slot_ne (Or.inr (hw _ (List.mem_of_getElem? (i := 23) rfl))) (Or.inr (hw _ (List.mem_of_getElem? (i := 19) rfl))) (by decide) (t := .double) (t' := .double) (by decide) (by decide)))
  refine own_go (fun _ => XS.aloadN X3.here hx rfl (hb hby d1_14) rfl rfl) ?_
  show own_R p.tables e below _ T3 (mkF m 15 #[.val (.ref a), .val (.double vs), .second, .val (.double vc), .second, .val (.double vv), .second, .val (.double va), .second] [(.ref a)])
  refine own_go (fun _ => XS.dload X3.here hx rfl (hb hby d1_15) rfl ) ?_
  show own_R p.tables e below _ T3 (mkF m 17 #[.val (.ref a), .val (.double vs), .second, .val (.double vc), .second, .val (.double vv), .second, .val (.double va), .second] [(.double vv), (.ref a)])
  obtain ⟨T4, h4, X4, e4, W4, st4⟩ := putF X3 hx hZ hown (host := "") (Or.inl (hw _ (List.mem_of_getElem? (i := 20) rfl))) Via.refl e3 Fspeed3 E3 (Or.inr ⟨(hw _ (List.mem_of_getElem? (i := 21) rfl)), rfl, hnm⟩) (hw _ (List.mem_of_getElem? (i := 3) rfl)) (ty := .double) (by decide) rfl rfl (g := (mkF m 17 #[.val (.ref a), .val (.double vs), .second, .val (.double vc), .second, .val (.double vv), .second, .val (.double va), .second] [(.double vv), (.ref a)])) rfl rfl (hb hby d1_17)
  refine own_go st4 ?_
  show own_R p.tables e below _ T4 (mkF m 20 #[.val (.ref a), .val (.double vs), .second, .val (.double vc), .second, .val (.double vv), .second, .val (.double va), .second] [])
  have N4 := Fr.snoc X4 N3 g9
  have K4 : Keep h0 h4 [a] := K3.wr W4 (Or.inl (List.mem_singleton.mpr rfl))
  have E4 : Exa Z h4 a "com/example/zellwerk/zellwerk/model/Phase" := E3.wr W4
  have Fstart4 := Fstart3.other W4 (Or.inr (slot_ne (Or.inr (hw _ (List.mem_of_getElem? (i := 17) rfl))) (Or.inr (hw _ (List.mem_of_getElem? (i := 21) rfl))) (by decide) (t := .double) (t' := .double) (by decide) (by decide)))
  have Fcovered4 := Fcovered3.other W4 (Or.inr (slot_ne (Or.inr (hw _ (List.mem_of_getElem? (i := 19) rfl))) (Or.inr (hw _ (List.mem_of_getElem? (i := 21) rfl))) (by decide) (t := .double) (t' := .double) (by decide) (by decide)))
  have Fspeed4 := Fspeed3.same W4
  have Facceleration4 := Facceleration3.other W4 (Or.inr (slot_ne (Or.inr (hw _ (List.mem_of_getElem? (i := 23) rfl))) (Or.inr (hw _ (List.mem_of_getElem? (i := 21) rfl))) (by decide) (t := .double) (t' := .double) (by decide) (by decide)))
  refine own_go (fun _ => XS.aloadN X4.here hx rfl (hb hby d1_20) rfl rfl) ?_
  show own_R p.tables e below _ T4 (mkF m 21 #[.val (.ref a), .val (.double vs), .second, .val (.double vc), .second, .val (.double vv), .second, .val (.double va), .second] [(.ref a)])
  refine own_go (fun _ => XS.dload X4.here hx rfl (hb hby d1_21) rfl ) ?_
  show own_R p.tables e below _ T4 (mkF m 23 #[.val (.ref a), .val (.double vs), .second, .val (.double vc), .second, .val (.double vv), .second, .val (.double va), .second] [(.double va), (.ref a)])
  obtain ⟨T5, h5, X5, e5, W5, st5⟩ := putF X4 hx hZ hown (host := "") (Or.inl (hw _ (List.mem_of_getElem? (i := 22) rfl))) Via.refl e4 Facceleration4 E4 (Or.inr ⟨(hw _ (List.mem_of_getElem? (i := 23) rfl)), rfl, hnm⟩) (hw _ (List.mem_of_getElem? (i := 3) rfl)) (ty := .double) (by decide) rfl rfl (g := (mkF m 23 #[.val (.ref a), .val (.double vs), .second, .val (.double vc), .second, .val (.double vv), .second, .val (.double va), .second] [(.double va), (.ref a)])) rfl rfl (hb hby d1_23)
  refine own_go st5 ?_
  show own_R p.tables e below _ T5 (mkF m 26 #[.val (.ref a), .val (.double vs), .second, .val (.double vc), .second, .val (.double vv), .second, .val (.double va), .second] [])
  have N5 := Fr.snoc X5 N4 g9
  have K5 : Keep h0 h5 [a] := K4.wr W5 (Or.inl (List.mem_singleton.mpr rfl))
  have E5 : Exa Z h5 a "com/example/zellwerk/zellwerk/model/Phase" := E4.wr W5
  have Fstart5 := Fstart4.other W5 (Or.inr (slot_ne (Or.inr (hw _ (List.mem_of_getElem? (i := 17) rfl))) (Or.inr (hw _ (List.mem_of_getElem? (i := 23) rfl))) (by decide) (t := .double) (t' := .double) (by decide) (by decide)))
  have Fcovered5 := Fcovered4.other W5 (Or.inr (slot_ne (Or.inr (hw _ (List.mem_of_getElem? (i := 19) rfl))) (Or.inr (hw _ (List.mem_of_getElem? (i := 23) rfl))) (by decide) (t := .double) (t' := .double) (by decide) (by decide)))
  have Fspeed5 := Fspeed4.other W5 (Or.inr (slot_ne (Or.inr (hw _ (List.mem_of_getElem? (i := 21) rfl))) (Or.inr (hw _ (List.mem_of_getElem? (i := 23) rfl))) (by decide) (t := .double) (t' := .double) (by decide) (by decide)))
  have Facceleration5 := Facceleration4.same W5
  exact own_end X5 none (fun _ => rfl) hlk (fun fs hr => X5.returnOut hx hret (hb hby d1_26) hr) (by show own_Qi Z a vs vc vv va h0 n0 _ T5.heap _; rw [e5]; exact ⟨rfl, N5, K5, E5, Fstart5, Fcovered5, Fspeed5, Facceleration5⟩) (by decide) (by decide)
abbrev own_into (t vs : UInt64) : UInt64 := FP.dsub t vs
def own_cov (vs vc vv va t : UInt64) : UInt64 := FP.dadd (FP.dadd vc (FP.dmul vv (FP.dsub t vs))) (FP.ddiv (FP.dmul (FP.dmul va (FP.dsub t vs)) (FP.dsub t vs)) 4611686018427387904)
def own_cnn (vs vc vv va t : UInt64) : Prop := Jvm.Free.Fl.NoNaN64 (FP.dsub t vs) ∧ Jvm.Free.Fl.NoNaN64 (FP.dmul vv (FP.dsub t vs)) ∧ Jvm.Free.Fl.NoNaN64 (FP.dadd vc (FP.dmul vv (FP.dsub t vs))) ∧ Jvm.Free.Fl.NoNaN64 (FP.dmul va (FP.dsub t vs)) ∧ Jvm.Free.Fl.NoNaN64 (FP.dmul (FP.dmul va (FP.dsub t vs)) (FP.dsub t vs)) ∧
  Jvm.Free.Fl.NoNaN64 (FP.ddiv (FP.dmul (FP.dmul va (FP.dsub t vs)) (FP.dsub t vs)) 4611686018427387904) ∧ Jvm.Free.Fl.NoNaN64 (own_cov vs vc vv va t)
set_option maxRecDepth 65536 in
set_option maxHeartbeats 4000000 in
theorem rmCov (l : Launch) (Z : State) (a0 : Array Value) (hw : ∀ d ∈ tables_1, d.before a0 Z = true) (ws : List Jvm.Cond) (h0 : Heap) (n0 : Nat) (a : Addr) (vs vc vv va t : UInt64) (hn : own_cnn vs vc vv va t) (Fstart : Fld Z h0 a "com/example/zellwerk/zellwerk/model/Phase" "start" "D" (.double vs)) (Fcovered : Fld Z h0 a "com/example/zellwerk/zellwerk/model/Phase" "covered" "D" (.double vc)) (Fspeed : Fld Z h0 a "com/example/zellwerk/zellwerk/model/Phase" "speed" "D" (.double vv)) (Facceleration : Fld Z h0 a "com/example/zellwerk/zellwerk/model/Phase" "acceleration" "D" (.double va)) :
    own_C l Z (⟨"com/example/zellwerk/zellwerk/model/Phase", "coveredAt", "(D)D"⟩ : MethodName) prog_34_method_2_code 5 (some .double) ws ({ frames := 0, cells := 0, slots := 0, locals := 0 } : Room) #[(.ref a), (.double t)] h0 (own_Qr (some (.double (own_cov vs vc vv va t))) h0 n0) := by
  refine own_body (ls := #[.val (.ref a), .val (.double t), .second, .unset, .unset]) pn_4 (fun m => by first | (simp [entryFrame, mkF, argsToLocals, Value.category]; done) | rfl) ?_
  intro p e s m below meth c T0 hZ hx hby hml hown hnm hret hlk X0 e0
  replace hml : c.maxLocals = 5 := hml
  have N0 := Fr.nil n0
  obtain ⟨n1, n2, n3, n4, n5, n6, n7⟩ := hn
  refine own_go (fun _ => XS.dloadN X0.here hx rfl (hb hby d4_0) rfl ) ?_
  show own_R p.tables e below _ T0 (mkF m 1 #[.val (.ref a), .val (.double t), .second, .unset, .unset] [(.double t)])
  refine own_go (fun _ => XS.aloadN X0.here hx rfl (hb hby d4_1) rfl rfl) ?_
  show own_R p.tables e below _ T0 (mkF m 2 #[.val (.ref a), .val (.double t), .second, .unset, .unset] [(.ref a), (.double t)])
  obtain ⟨T1, X1, e1, st1⟩ := getF X0 hx hZ hown (host := "") (Or.inl (hw _ (List.mem_of_getElem? (i := 16) rfl))) Via.refl e0 Fstart (g := (mkF m 2 #[.val (.ref a), .val (.double t), .second, .unset, .unset] [(.ref a), (.double t)])) rfl rfl (hb hby d4_2)
  refine own_go st1 ?_
  show own_R p.tables e below _ T1 (mkF m 5 #[.val (.ref a), .val (.double t), .second, .unset, .unset] [(.double vs), (.double t)])
  refine own_go (fun _ => XS.dsubS X1.here hx rfl (hb hby d4_5) rfl n1 rfl) ?_
  show own_R p.tables e below _ T1 (mkF m 6 #[.val (.ref a), .val (.double t), .second, .unset, .unset] [(.double (FP.dsub t vs))])
  refine own_go (fun _ => XS.dstoreN X1.here hx rfl (hb hby d4_6) rfl (l' := #[.val (.ref a), .val (.double t), .second, .val (.double (FP.dsub t vs)), .second]) rfl) ?_
  show own_R p.tables e below _ T1 (mkF m 7 #[.val (.ref a), .val (.double t), .second, .val (.double (FP.dsub t vs)), .second] [])
  refine own_go (fun _ => XS.aloadN X1.here hx rfl (hb hby d4_7) rfl rfl) ?_
  show own_R p.tables e below _ T1 (mkF m 8 #[.val (.ref a), .val (.double t), .second, .val (.double (FP.dsub t vs)), .second] [(.ref a)])
  obtain ⟨T2, X2, e2, st2⟩ := getF X1 hx hZ hown (host := "") (Or.inl (hw _ (List.mem_of_getElem? (i := 18) rfl))) Via.refl e1 Fcovered (g := (mkF m 8 #[.val (.ref a), .val (.double t), .second, .val (.double (FP.dsub t vs)), .second] [(.ref a)])) rfl rfl (hb hby d4_8)
  refine own_go st2 ?_
  show own_R p.tables e below _ T2 (mkF m 11 #[.val (.ref a), .val (.double t), .second, .val (.double (FP.dsub t vs)), .second] [(.double vc)])
  refine own_go (fun _ => XS.aloadN X2.here hx rfl (hb hby d4_11) rfl rfl) ?_
  show own_R p.tables e below _ T2 (mkF m 12 #[.val (.ref a), .val (.double t), .second, .val (.double (FP.dsub t vs)), .second] [(.ref a), (.double vc)])
  obtain ⟨T3, X3, e3, st3⟩ := getF X2 hx hZ hown (host := "") (Or.inl (hw _ (List.mem_of_getElem? (i := 20) rfl))) Via.refl e2 Fspeed (g := (mkF m 12 #[.val (.ref a), .val (.double t), .second, .val (.double (FP.dsub t vs)), .second] [(.ref a), (.double vc)])) rfl rfl (hb hby d4_12)
  refine own_go st3 ?_
  show own_R p.tables e below _ T3 (mkF m 15 #[.val (.ref a), .val (.double t), .second, .val (.double (FP.dsub t vs)), .second] [(.double vv), (.double vc)])
  refine own_go (fun _ => XS.dloadN X3.here hx rfl (hb hby d4_15) rfl ) ?_
  show own_R p.tables e below _ T3 (mkF m 16 #[.val (.ref a), .val (.double t), .second, .val (.double (FP.dsub t vs)), .second] [(.double (FP.dsub t vs)), (.double vv), (.double vc)])
  refine own_go (fun _ => XS.dmulS X3.here hx rfl (hb hby d4_16) rfl n2 rfl) ?_
  show own_R p.tables e below _ T3 (mkF m 17 #[.val (.ref a), .val (.double t), .second, .val (.double (FP.dsub t vs)), .second] [(.double (FP.dmul vv (FP.dsub t vs))), (.double vc)])
  refine own_go (fun _ => XS.daddS X3.here hx rfl (hb hby d4_17) rfl n3 rfl) ?_
  show own_R p.tables e below _ T3 (mkF m 18 #[.val (.ref a), .val (.double t), .second, .val (.double (FP.dsub t vs)), .second] [(.double (FP.dadd vc (FP.dmul vv (FP.dsub t vs))))])
  refine own_go (fun _ => XS.aloadN X3.here hx rfl (hb hby d4_18) rfl rfl) ?_
  show own_R p.tables e below _ T3 (mkF m 19 #[.val (.ref a), .val (.double t), .second, .val (.double (FP.dsub t vs)), .second] [(.ref a), (.double (FP.dadd vc (FP.dmul vv (FP.dsub t vs))))])
  obtain ⟨T4, X4, e4, st4⟩ := getF X3 hx hZ hown (host := "") (Or.inl (hw _ (List.mem_of_getElem? (i := 22) rfl))) Via.refl e3 Facceleration (g := (mkF m 19 #[.val (.ref a), .val (.double t), .second, .val (.double (FP.dsub t vs)), .second] [(.ref a), (.double (FP.dadd vc (FP.dmul vv (FP.dsub t vs))))])) rfl rfl (hb hby d4_19)
  refine own_go st4 ?_
  show own_R p.tables e below _ T4 (mkF m 22 #[.val (.ref a), .val (.double t), .second, .val (.double (FP.dsub t vs)), .second] [(.double va), (.double (FP.dadd vc (FP.dmul vv (FP.dsub t vs))))])
  refine own_go (fun _ => XS.dloadN X4.here hx rfl (hb hby d4_22) rfl ) ?_
  show own_R p.tables e below _ T4 (mkF m 23 #[.val (.ref a), .val (.double t), .second, .val (.double (FP.dsub t vs)), .second] [(.double (FP.dsub t vs)), (.double va), (.double (FP.dadd vc (FP.dmul vv (FP.dsub t vs))))])
  refine own_go (fun _ => XS.dmulS X4.here hx rfl (hb hby d4_23) rfl n4 rfl) ?_
  show own_R p.tables e below _ T4 (mkF m 24 #[.val (.ref a), .val (.double t), .second, .val (.double (FP.dsub t vs)), .second] [(.double (FP.dmul va (FP.dsub t vs))), (.double (FP.dadd vc (FP.dmul vv (FP.dsub t vs))))])
  refine own_go (fun _ => XS.dloadN X4.here hx rfl (hb hby d4_24) rfl ) ?_
  show own_R p.tables e below _ T4 (mkF m 25 #[.val (.ref a), .val (.double t), .second, .val (.double (FP.dsub t vs)), .second] [(.double (FP.dsub t vs)), (.double (FP.dmul va (FP.dsub t vs))), (.double (FP.dadd vc (FP.dmul vv (FP.dsub t vs))))])
  refine own_go (fun _ => XS.dmulS X4.here hx rfl (hb hby d4_25) rfl n5 rfl) ?_
  show own_R p.tables e below _ T4 (mkF m 26 #[.val (.ref a), .val (.double t), .second, .val (.double (FP.dsub t vs)), .second] [(.double (FP.dmul (FP.dmul va (FP.dsub t vs)) (FP.dsub t vs))), (.double (FP.dadd vc (FP.dmul vv (FP.dsub t vs))))])
  refine own_go (X4.ldc2DoubleC hx hown (mvT hZ (hw _ (List.mem_of_getElem? (i := 30) rfl))) (g := (mkF m 26 #[.val (.ref a), .val (.double t), .second, .val (.double (FP.dsub t vs)), .second] [(.double (FP.dmul (FP.dmul va (FP.dsub t vs)) (FP.dsub t vs))), (.double (FP.dadd vc (FP.dmul vv (FP.dsub t vs))))])) rfl (hb hby d4_26)) ?_
  show own_R p.tables e below _ T4 (mkF m 29 #[.val (.ref a), .val (.double t), .second, .val (.double (FP.dsub t vs)), .second] [(.double (4611686018427387904 : UInt64)), (.double (FP.dmul (FP.dmul va (FP.dsub t vs)) (FP.dsub t vs))), (.double (FP.dadd vc (FP.dmul vv (FP.dsub t vs))))])
  refine own_go (fun _ => XS.ddivS X4.here hx rfl (hb hby d4_29) rfl n6 rfl) ?_
  show own_R p.tables e below _ T4 (mkF m 30 #[.val (.ref a), .val (.double t), .second, .val (.double (FP.dsub t vs)), .second] [(.double (FP.ddiv (FP.dmul (FP.dmul va (FP.dsub t vs)) (FP.dsub t vs)) (4611686018427387904 : UInt64))), (.double (FP.dadd vc (FP.dmul vv (FP.dsub t vs))))])
  refine own_go (fun _ => XS.daddS X4.here hx rfl (hb hby d4_30) rfl n7 rfl) ?_
  show own_R p.tables e below _ T4 (mkF m 31 #[.val (.ref a), .val (.double t), .second, .val (.double (FP.dsub t vs)), .second] [(.double (FP.dadd (FP.dadd vc (FP.dmul vv (FP.dsub t vs))) (FP.ddiv (FP.dmul (FP.dmul va (FP.dsub t vs)) (FP.dsub t vs)) (4611686018427387904 : UInt64))))])
  exact own_end X4 (some (.double (FP.dadd (FP.dadd vc (FP.dmul vv (FP.dsub t vs))) (FP.ddiv (FP.dmul (FP.dmul va (FP.dsub t vs)) (FP.dsub t vs)) (4611686018427387904 : UInt64))))) (fun h => by rw [hret] at h; cases h) hlk (fun fs hr => own_retD X4 hx hret (hb hby d4_31) hr) ⟨rfl, N0, e4⟩ (by decide) (by decide)
theorem own_two : own_DH 4 4611686018427387904 := by
  refine ⟨⟨false, 2 ^ 52, -51, by decide +kernel⟩, ?_⟩
  unfold own_z
  decide +kernel
theorem own_three : own_DH 6 4613937818241073152 := by
  refine ⟨⟨false, 3 * 2 ^ 51, -51, by decide +kernel⟩, ?_⟩
  unfold own_z
  decide +kernel
theorem own_four : own_DH 8 4616189618054758400 := by
  refine ⟨⟨false, 2 ^ 52, -50, by decide +kernel⟩, ?_⟩
  unfold own_z
  decide +kernel
theorem own_mulb {x y : Int} {A B : Nat} (hx : x.natAbs ≤ A) (hy : y.natAbs ≤ B) : (x * y).natAbs ≤ A * B := by
  rw [Int.natAbs_mul]; exact Nat.mul_le_mul hx hy
theorem own_cov_dh {vs vc vv va t : UInt64} {S C V A T D : Int} (h1 : own_DH (2 * S) vs) (h2 : own_DH (2 * C) vc) (h3 : own_DH (2 * V) vv) (h4 : own_DH (2 * A) va) (h5 : own_DH (2 * T) t) (hD : T - S = D) (bD : D.natAbs ≤ 2048) (bC : C.natAbs ≤ 2 ^ 31) (bV : V.natAbs ≤ 2 ^ 31) (bA : A.natAbs ≤ 2 ^ 20) :
    own_cnn vs vc vv va t ∧ own_DH (2 * C + 2 * (V * D) + A * D * D) (own_cov vs vc vv va t) := by
  have bVD := own_mulb bV bD
  have bAD := own_mulb bA bD
  have bADD := own_mulb bAD bD
  have e1 : own_DH (2 * D) (FP.dsub t vs) := by
    have := own_dh_sub h5 h1 (by omega)
    rwa [show 2 * T - 2 * S = 2 * D by omega] at this
  have e2 : own_DH (2 * (V * D)) (FP.dmul vv (FP.dsub t vs)) := own_dh_mul h3 e1 (by rw [show (2 * V) * (2 * D) = 2 * (2 * (V * D)) by ac_rfl]) (by omega)
  have e3 : own_DH (2 * C + 2 * (V * D)) (FP.dadd vc (FP.dmul vv (FP.dsub t vs))) := own_dh_add h2 e2 (by omega)
  have e4 : own_DH (2 * (A * D)) (FP.dmul va (FP.dsub t vs)) := own_dh_mul h4 e1 (by rw [show (2 * A) * (2 * D) = 2 * (2 * (A * D)) by ac_rfl]) (by omega)
  have e5 : own_DH (2 * (A * D * D)) (FP.dmul (FP.dmul va (FP.dsub t vs)) (FP.dsub t vs)) := own_dh_mul e4 e1 (by rw [show (2 * (A * D)) * (2 * D) = 2 * (2 * (A * D * D)) by ac_rfl]) (by omega)
  have e6 : own_DH (A * D * D) (FP.ddiv (FP.dmul (FP.dmul va (FP.dsub t vs)) (FP.dsub t vs)) 4611686018427387904) := own_dh_div e5 own_two (by decide) (by omega) (by omega)
  have e7 : own_DH (2 * C + 2 * (V * D) + A * D * D) (own_cov vs vc vv va t) := own_dh_add e3 e6 (by omega)
  exact ⟨⟨e1.nn, e2.nn, e3.nn, e4.nn, e5.nn, e6.nn, e7.nn⟩, e7⟩
theorem own_cmp0 {m n : Int} {x y : UInt64} (hx : own_DH m x) (hy : own_DH n y) (h : m = n) (o : CmpOp) : cmpValue (FP.dcmp x y) o = 0 := by
  rw [own_dh_cmp hx hy, (FP.Core.compare_eq_iff m n).mpr h]
  cases o <;> rfl
theorem own_rem (x y : Int32) (hx : 0 ≤ x.toInt) (hy : y.toInt = 1025) : 0 ≤ (x % y).toInt ∧ (x % y).toInt ≤ 1024 := by
  have := (c_irem x y 1025 hy).1 hx
  omega
theorem own_remA (x y : Int32) (hy : y.toInt = 1048577) : (x % y).toInt.natAbs ≤ 2 ^ 20 := by
  have h := c_irem x y 1048577 hy
  rcases Int.lt_or_le x.toInt 0 with q | q
  · have := h.2 q; omega
  · have := h.1 q; omega

def own_F (st cv sp aI : Int32) (t : UInt64) : UInt64 := own_cov (FP.i2d st) (FP.i2d cv) (FP.i2d sp) (FP.i2d aI) t
def own_nb (x : UInt64) : Prop := Jvm.Free.Fl.NoNaN64 x
theorem own_plain2 {G0 G1 G2 ci R1 R2 : UInt64} {C VD ADD : Int} (D0 : own_DH (2 * C) G0) (D1 : own_DH (2 * C + 2 * VD + ADD) G1) (D2 : own_DH (2 * C + 2 * (2 * VD) + 4 * ADD) G2) (hcv : own_DH (2 * C) ci) (r1 : own_DH (2 * ADD) R1) (r2 : own_DH (2 * (2 * VD)) R2) (bC : C.natAbs ≤ 2 ^ 31) (bVD : VD.natAbs ≤ 2 ^ 31 * 1024) (bADD : ADD.natAbs ≤ 2 ^ 20 * 1024 * 1024) :
    cmpValue (FP.dcmp G0 ci) .l = 0 ∧
    (own_nb (FP.dmul 4611686018427387904 G1) ∧ own_nb (FP.dsub G2 (FP.dmul 4611686018427387904 G1)) ∧ own_nb (FP.dadd (FP.dsub G2 (FP.dmul 4611686018427387904 G1)) G0) ∧ cmpValue (FP.dcmp (FP.dadd (FP.dsub G2 (FP.dmul 4611686018427387904 G1)) G0) R1) .l = 0) ∧
    own_nb (FP.dmul 4616189618054758400 G1) ∧ own_nb (FP.dsub (FP.dmul 4616189618054758400 G1) G2) ∧ own_nb (FP.dmul 4613937818241073152 G0) ∧ own_nb (FP.dsub (FP.dsub (FP.dmul 4616189618054758400 G1) G2) (FP.dmul 4613937818241073152 G0)) ∧
    cmpValue (FP.dcmp (FP.dsub (FP.dsub (FP.dmul 4616189618054758400 G1) G2) (FP.dmul 4613937818241073152 G0)) R2) .l = 0 := by
  have c1 : own_DH _ (FP.dmul 4611686018427387904 G1) := own_dh_mul own_two D1 (k := 2 * (2 * C + 2 * VD + ADD)) (by omega) (by omega)
  have c2 := own_dh_sub D2 c1 (by omega)
  have c3 := own_dh_add c2 D0 (by omega)
  have s1 : own_DH _ (FP.dmul 4616189618054758400 G1) := own_dh_mul own_four D1 (k := 4 * (2 * C + 2 * VD + ADD)) (by omega) (by omega)
  have s2 := own_dh_sub s1 D2 (by omega)
  have s3 : own_DH _ (FP.dmul 4613937818241073152 G0) := own_dh_mul own_three D0 (k := 3 * (2 * C)) (by omega) (by omega)
  have s4 := own_dh_sub s2 s3 (by omega)
  exact ⟨own_cmp0 D0 hcv (by omega) _, ⟨c1.nn, c2.nn, c3.nn, own_cmp0 c3 r1 (by omega) _⟩, s1.nn, s2.nn, s3.nn, s4.nn, own_cmp0 s4 r2 (by omega) _⟩
theorem own_plain (st cv sp aI dI : Int32) (hd0 : 0 ≤ dI.toInt ∧ dI.toInt ≤ 1024) (ha0 : aI.toInt.natAbs ≤ 2 ^ 20) :
    own_cnn (FP.i2d st) (FP.i2d cv) (FP.i2d sp) (FP.i2d aI) (FP.i2d st) ∧ own_cnn (FP.i2d st) (FP.i2d cv) (FP.i2d sp) (FP.i2d aI) (FP.l2d (st.toInt64 + dI.toInt64)) ∧ own_cnn (FP.i2d st) (FP.i2d cv) (FP.i2d sp) (FP.i2d aI) (FP.l2d (st.toInt64 + (2 : Int64) * dI.toInt64)) ∧
    cmpValue (FP.dcmp (own_F st cv sp aI (FP.i2d st)) (FP.i2d cv)) .l = 0 ∧
    (own_nb (FP.dmul 4611686018427387904 (own_F st cv sp aI (FP.l2d (st.toInt64 + dI.toInt64)))) ∧ own_nb (FP.dsub (own_F st cv sp aI (FP.l2d (st.toInt64 + (2 : Int64) * dI.toInt64))) (FP.dmul 4611686018427387904 (own_F st cv sp aI (FP.l2d (st.toInt64 + dI.toInt64))))) ∧ own_nb (FP.dadd (FP.dsub (own_F st cv sp aI (FP.l2d (st.toInt64 + (2 : Int64) * dI.toInt64))) (FP.dmul 4611686018427387904 (own_F st cv sp aI (FP.l2d (st.toInt64 + dI.toInt64))))) (own_F st cv sp aI (FP.i2d st))) ∧ cmpValue (FP.dcmp (FP.dadd (FP.dsub (own_F st cv sp aI (FP.l2d (st.toInt64 + (2 : Int64) * dI.toInt64))) (FP.dmul 4611686018427387904 (own_F st cv sp aI (FP.l2d (st.toInt64 + dI.toInt64))))) (own_F st cv sp aI (FP.i2d st))) (FP.l2d (aI.toInt64 * dI.toInt64 * dI.toInt64))) .l = 0) ∧
    own_nb (FP.dmul 4616189618054758400 (own_F st cv sp aI (FP.l2d (st.toInt64 + dI.toInt64)))) ∧ own_nb (FP.dsub (FP.dmul 4616189618054758400 (own_F st cv sp aI (FP.l2d (st.toInt64 + dI.toInt64)))) (own_F st cv sp aI (FP.l2d (st.toInt64 + (2 : Int64) * dI.toInt64)))) ∧ own_nb (FP.dmul 4613937818241073152 (own_F st cv sp aI (FP.i2d st))) ∧ own_nb (FP.dsub (FP.dsub (FP.dmul 4616189618054758400 (own_F st cv sp aI (FP.l2d (st.toInt64 + dI.toInt64)))) (own_F st cv sp aI (FP.l2d (st.toInt64 + (2 : Int64) * dI.toInt64)))) (FP.dmul 4613937818241073152 (own_F st cv sp aI (FP.i2d st)))) ∧
    cmpValue (FP.dcmp (FP.dsub (FP.dsub (FP.dmul 4616189618054758400 (own_F st cv sp aI (FP.l2d (st.toInt64 + dI.toInt64)))) (own_F st cv sp aI (FP.l2d (st.toInt64 + (2 : Int64) * dI.toInt64)))) (FP.dmul 4613937818241073152 (own_F st cv sp aI (FP.i2d st)))) (FP.l2d ((2 : Int64) * sp.toInt64 * dI.toInt64))) .l = 0 := by
  have rs := rng32 st
  have rc := rng32 cv
  have rv := rng32 sp
  have dL : dI.toInt64.toInt = dI.toInt := Int32.toInt_toInt64 dI
  have sL : st.toInt64.toInt = st.toInt := Int32.toInt_toInt64 st
  have aL : aI.toInt64.toInt = aI.toInt := Int32.toInt_toInt64 aI
  have vL : sp.toInt64.toInt = sp.toInt := Int32.toInt_toInt64 sp
  have twoL : (2 : Int64).toInt = 2 := by decide
  have t1L : (st.toInt64 + dI.toInt64).toInt = st.toInt + dI.toInt := by rw [FP.Core.int64_add (by omega) (by omega)]; omega
  have d2L : ((2 : Int64) * dI.toInt64).toInt = 2 * dI.toInt := by rw [FP.Core.int64_mul (by rw [twoL]; omega) (by rw [twoL]; omega), twoL, dL]
  have t2L : (st.toInt64 + (2 : Int64) * dI.toInt64).toInt = st.toInt + 2 * dI.toInt := by rw [FP.Core.int64_add (by omega) (by omega)]; omega
  have hst := own_dh_i2d st
  have hcv := own_dh_i2d cv
  have hsp := own_dh_i2d sp
  have hai := own_dh_i2d aI
  have ht1 := own_dh_l2d (st.toInt64 + dI.toInt64) (by omega)
  rw [t1L] at ht1
  have ht2 := own_dh_l2d (st.toInt64 + (2 : Int64) * dI.toInt64) (by omega)
  rw [t2L] at ht2
  obtain ⟨nn0, D0⟩ := own_cov_dh hst hcv hsp hai hst (D := 0) (by omega) (by decide) (by omega) (by omega) ha0
  obtain ⟨nn1, D1⟩ := own_cov_dh hst hcv hsp hai ht1 (D := dI.toInt) (by omega) (by omega) (by omega) (by omega) ha0
  obtain ⟨nn2, D2⟩ := own_cov_dh hst hcv hsp hai ht2 (D := 2 * dI.toInt) (by omega) (by omega) (by omega) (by omega) ha0
  have q1 : sp.toInt * (2 * dI.toInt) = 2 * (sp.toInt * dI.toInt) := by ac_rfl
  have q2 : aI.toInt * (2 * dI.toInt) * (2 * dI.toInt) = 4 * (aI.toInt * dI.toInt * dI.toInt) := by rw [show (4 : Int) = 2 * 2 by rfl]; ac_rfl
  rw [show (2 * cv.toInt + 2 * (sp.toInt * 0) + aI.toInt * 0 * 0 : Int) = 2 * cv.toInt by simp] at D0
  rw [q1, q2] at D2
  have bVD := own_mulb (x := sp.toInt) (y := dI.toInt) (A := 2 ^ 31) (B := 1024) (by omega) (by omega)
  have bAD := own_mulb (x := aI.toInt) (y := dI.toInt) (A := 2 ^ 20) (B := 1024) ha0 (by omega)
  have bADD := own_mulb (x := aI.toInt * dI.toInt) (y := dI.toInt) bAD (B := 1024) (by omega)
  have adL : (aI.toInt64 * dI.toInt64).toInt = aI.toInt * dI.toInt := by rw [FP.Core.int64_mul (by rw [aL, dL]; omega) (by rw [aL, dL]; omega), aL, dL]
  have addL : (aI.toInt64 * dI.toInt64 * dI.toInt64).toInt = aI.toInt * dI.toInt * dI.toInt := by rw [FP.Core.int64_mul (by rw [adL, dL]; omega) (by rw [adL, dL]; omega), adL, dL]
  have tvL : ((2 : Int64) * sp.toInt64).toInt = 2 * sp.toInt := by rw [FP.Core.int64_mul (by rw [twoL]; omega) (by rw [twoL]; omega), twoL, vL]
  have tvdL : ((2 : Int64) * sp.toInt64 * dI.toInt64).toInt = 2 * (sp.toInt * dI.toInt) := by rw [FP.Core.int64_mul (by rw [tvL, dL, Int.mul_assoc]; omega) (by rw [tvL, dL, Int.mul_assoc]; omega), tvL, dL, Int.mul_assoc]
  have r1 := own_dh_l2d (aI.toInt64 * dI.toInt64 * dI.toInt64) (by omega)
  rw [addL] at r1
  have r2 := own_dh_l2d ((2 : Int64) * sp.toInt64 * dI.toInt64) (by omega)
  rw [tvdL] at r2
  exact ⟨nn0, nn1, nn2, own_plain2 D0 D1 D2 hcv r1 r2 (by omega) bVD bADD⟩

def own_Q0 (n0 : Nat) (v : Option Value) (h : Heap) (L : List Loc) : Prop := v = some (.int (1 : Int32)) ∧ Fr n0 L
set_option maxRecDepth 65536 in
set_option maxHeartbeats 40000000 in
theorem rm0 (l : Launch) (Z : State) (a0 : Array Value) (hw : ∀ d ∈ tables_1, d.before a0 Z = true) (ws : List Jvm.Cond) (h0 : Heap) (n0 : Nat) (st cv sp ac sz : Int32) (Z0 : n0 ≤ h0.size) :
    own_C l Z x code maxLocals ret ws room_1 #[(.int st), (.int cv), (.int sp), (.int ac), (.int sz)] h0 (own_Q0 n0) := by
  refine own_body (ls := #[.val (.int st), .val (.int cv), .val (.int sp), .val (.int ac), .val (.int sz), .unset, .unset, .unset, .unset, .unset, .unset, .unset, .unset, .unset, .unset, .unset, .unset, .unset, .unset, .unset, .unset, .unset, .unset, .unset]) pn_0 (fun m => by first | (simp [entryFrame, mkF, argsToLocals, Value.category, maxLocals]; done) | rfl) ?_
  intro p e s m below meth c T0 hZ hx hby hml hown hnm hret hlk X0 e0
  replace hml : c.maxLocals = 24 := hml
  have N0 := Fr.nil n0
  refine own_go (fun _ => XS.iload X0.here hx rfl (hb hby at_0) rfl ) ?_
  refine own_go (X0.ldcInt hx hown (mvT hZ (hw _ (List.mem_of_getElem? (i := 0) rfl))) (g := (mkF m 2 #[.val (.int st), .val (.int cv), .val (.int sp), .val (.int ac), .val (.int sz), .unset, .unset, .unset, .unset, .unset, .unset, .unset, .unset, .unset, .unset, .unset, .unset, .unset, .unset, .unset, .unset, .unset, .unset, .unset] [(.int sz)])) rfl (hb hby at_2)) ?_
  refine own_go (fun _ => XS.iand X0.here hx rfl (hb hby at_4) rfl) ?_
  show own_R p.tables e below _ T0 (mkF m 5 #[.val (.int st), .val (.int cv), .val (.int sp), .val (.int ac), .val (.int sz), .unset, .unset, .unset, .unset, .unset, .unset, .unset, .unset, .unset, .unset, .unset, .unset, .unset, .unset, .unset, .unset, .unset, .unset, .unset] [(.int (sz &&& (2147483647 : Int32)))])
  refine own_go (fun _ => XS.sipush X0.here hx rfl (hb hby at_5)) ?_
  refine own_go (fun _ => iremM (g := (mkF m 8 #[.val (.int st), .val (.int cv), .val (.int sp), .val (.int ac), .val (.int sz), .unset, .unset, .unset, .unset, .unset, .unset, .unset, .unset, .unset, .unset, .unset, .unset, .unset, .unset, .unset, .unset, .unset, .unset, .unset] [(.int (1025 : Int32)), (.int (sz &&& (2147483647 : Int32)))])) X0 hx rfl (hb hby at_8) rfl (by decide)) ?_
  refine own_go (fun _ => XS.i2l X0.here hx rfl (hb hby at_9) rfl) ?_
  show own_R p.tables e below _ T0 (mkF m 10 #[.val (.int st), .val (.int cv), .val (.int sp), .val (.int ac), .val (.int sz), .unset, .unset, .unset, .unset, .unset, .unset, .unset, .unset, .unset, .unset, .unset, .unset, .unset, .unset, .unset, .unset, .unset, .unset, .unset] [(.long (((sz &&& (2147483647 : Int32)) % (1025 : Int32)).toInt64))])
  refine own_go (fun _ => XS.lstore X0.here hx rfl (hb hby at_10) rfl (l' := #[.val (.int st), .val (.int cv), .val (.int sp), .val (.int ac), .val (.int sz), .val (.long (((sz &&& (2147483647 : Int32)) % (1025 : Int32)).toInt64)), .second, .unset, .unset, .unset, .unset, .unset, .unset, .unset, .unset, .unset, .unset, .unset, .unset, .unset, .unset, .unset, .unset, .unset]) rfl) ?_
  show own_R p.tables e below _ T0 (mkF m 12 #[.val (.int st), .val (.int cv), .val (.int sp), .val (.int ac), .val (.int sz), .val (.long (((sz &&& (2147483647 : Int32)) % (1025 : Int32)).toInt64)), .second, .unset, .unset, .unset, .unset, .unset, .unset, .unset, .unset, .unset, .unset, .unset, .unset, .unset, .unset, .unset, .unset, .unset] [])
  have hd0 := own_rem (sz &&& (2147483647 : Int32)) (1025 : Int32) (c_and sz 2147483647 (by decide)).1 (by decide)
  generalize (sz &&& (2147483647 : Int32)) % (1025 : Int32) = dI at hd0 ⊢
  show own_R p.tables e below _ T0 (mkF m 12 #[.val (.int st), .val (.int cv), .val (.int sp), .val (.int ac), .val (.int sz), .val (.long (dI.toInt64)), .second, .unset, .unset, .unset, .unset, .unset, .unset, .unset, .unset, .unset, .unset, .unset, .unset, .unset, .unset, .unset, .unset, .unset] [])
  refine own_go (fun _ => XS.iloadN X0.here hx rfl (hb hby at_12) rfl ) ?_
  refine own_go (X0.ldcInt hx hown (mvT hZ (hw _ (List.mem_of_getElem? (i := 1) rfl))) (g := (mkF m 13 #[.val (.int st), .val (.int cv), .val (.int sp), .val (.int ac), .val (.int sz), .val (.long (dI.toInt64)), .second, .unset, .unset, .unset, .unset, .unset, .unset, .unset, .unset, .unset, .unset, .unset, .unset, .unset, .unset, .unset, .unset, .unset] [(.int ac)])) rfl (hb hby at_13)) ?_
  refine own_go (fun _ => iremM (g := (mkF m 15 #[.val (.int st), .val (.int cv), .val (.int sp), .val (.int ac), .val (.int sz), .val (.long (dI.toInt64)), .second, .unset, .unset, .unset, .unset, .unset, .unset, .unset, .unset, .unset, .unset, .unset, .unset, .unset, .unset, .unset, .unset, .unset] [(.int (1048577 : Int32)), (.int ac)])) X0 hx rfl (hb hby at_15) rfl (by decide)) ?_
  show own_R p.tables e below _ T0 (mkF m 16 #[.val (.int st), .val (.int cv), .val (.int sp), .val (.int ac), .val (.int sz), .val (.long (dI.toInt64)), .second, .unset, .unset, .unset, .unset, .unset, .unset, .unset, .unset, .unset, .unset, .unset, .unset, .unset, .unset, .unset, .unset, .unset] [(.int (ac % (1048577 : Int32)))])
  refine own_go (fun _ => XS.istore X0.here hx rfl (hb hby at_16) rfl (l' := #[.val (.int st), .val (.int cv), .val (.int sp), .val (.int ac), .val (.int sz), .val (.long (dI.toInt64)), .second, .val (.int (ac % (1048577 : Int32))), .unset, .unset, .unset, .unset, .unset, .unset, .unset, .unset, .unset, .unset, .unset, .unset, .unset, .unset, .unset, .unset]) rfl) ?_
  show own_R p.tables e below _ T0 (mkF m 18 #[.val (.int st), .val (.int cv), .val (.int sp), .val (.int ac), .val (.int sz), .val (.long (dI.toInt64)), .second, .val (.int (ac % (1048577 : Int32))), .unset, .unset, .unset, .unset, .unset, .unset, .unset, .unset, .unset, .unset, .unset, .unset, .unset, .unset, .unset, .unset] [])
  have ha0 := own_remA ac (1048577 : Int32) (by decide)
  generalize ac % (1048577 : Int32) = aI at ha0 ⊢
  show own_R p.tables e below _ T0 (mkF m 18 #[.val (.int st), .val (.int cv), .val (.int sp), .val (.int ac), .val (.int sz), .val (.long (dI.toInt64)), .second, .val (.int aI), .unset, .unset, .unset, .unset, .unset, .unset, .unset, .unset, .unset, .unset, .unset, .unset, .unset, .unset, .unset, .unset] [])
  obtain ⟨nn0, nn1, nn2, k0, ⟨c1, c2, c3, k1⟩, s1, s2, s3, s4, k2⟩ := own_plain st cv sp aI dI hd0 ha0
  obtain ⟨T3, h3, X3, e3, E3, A3, D3, -, st3⟩ := newO X0 hx hZ hown (hw _ (List.mem_of_getElem? (i := 2) rfl)) (hw _ (List.mem_of_getElem? (i := 3) rfl)) (hw _ (List.mem_of_getElem? (i := 4) rfl)) e0 (g := (mkF m 18 #[.val (.int st), .val (.int cv), .val (.int sp), .val (.int ac), .val (.int sz), .val (.long (dI.toInt64)), .second, .val (.int aI), .unset, .unset, .unset, .unset, .unset, .unset, .unset, .unset, .unset, .unset, .unset, .unset, .unset, .unset, .unset, .unset] [])) rfl (hb hby at_18) (by decide) (by decide)
  obtain ⟨a3, g3⟩ : ∃ z, z = h0.size := ⟨_, rfl⟩
  rw [← g3] at A3 D3 st3
  refine own_go st3 ?_
  show own_R p.tables e below _ T3 (mkF m 21 #[.val (.int st), .val (.int cv), .val (.int sp), .val (.int ac), .val (.int sz), .val (.long (dI.toInt64)), .second, .val (.int aI), .unset, .unset, .unset, .unset, .unset, .unset, .unset, .unset, .unset, .unset, .unset, .unset, .unset, .unset, .unset, .unset] [(.ref a3)])
  refine own_go (fun _ => XS.dup X3.here hx rfl (hb hby at_21) rfl rfl) ?_
  refine own_go (fun _ => XS.iloadN X3.here hx rfl (hb hby at_22) rfl ) ?_
  refine own_go (fun _ => XS.i2dS X3.here hx rfl (hb hby at_23) rfl rfl) ?_
  show own_R p.tables e below _ T3 (mkF m 24 #[.val (.int st), .val (.int cv), .val (.int sp), .val (.int ac), .val (.int sz), .val (.long (dI.toInt64)), .second, .val (.int aI), .unset, .unset, .unset, .unset, .unset, .unset, .unset, .unset, .unset, .unset, .unset, .unset, .unset, .unset, .unset, .unset] [(.double (FP.i2d st)), (.ref a3), (.ref a3)])
  refine own_go (fun _ => XS.iloadN X3.here hx rfl (hb hby at_24) rfl ) ?_
  refine own_go (fun _ => XS.i2dS X3.here hx rfl (hb hby at_25) rfl rfl) ?_
  refine own_go (fun _ => XS.iloadN X3.here hx rfl (hb hby at_26) rfl ) ?_
  show own_R p.tables e below _ T3 (mkF m 27 #[.val (.int st), .val (.int cv), .val (.int sp), .val (.int ac), .val (.int sz), .val (.long (dI.toInt64)), .second, .val (.int aI), .unset, .unset, .unset, .unset, .unset, .unset, .unset, .unset, .unset, .unset, .unset, .unset, .unset, .unset, .unset, .unset] [(.int sp), (.double (FP.i2d cv)), (.double (FP.i2d st)), (.ref a3), (.ref a3)])
  refine own_go (fun _ => XS.i2dS X3.here hx rfl (hb hby at_27) rfl rfl) ?_
  refine own_go (fun _ => XS.iload X3.here hx rfl (hb hby at_28) rfl ) ?_
  refine own_go (fun _ => XS.i2dS X3.here hx rfl (hb hby at_30) rfl rfl) ?_
  show own_R p.tables e below _ T3 (mkF m 31 #[.val (.int st), .val (.int cv), .val (.int sp), .val (.int ac), .val (.int sz), .val (.long (dI.toInt64)), .second, .val (.int aI), .unset, .unset, .unset, .unset, .unset, .unset, .unset, .unset, .unset, .unset, .unset, .unset, .unset, .unset, .unset, .unset] [(.double (FP.i2d aI)), (.double (FP.i2d sp)), (.double (FP.i2d cv)), (.double (FP.i2d st)), (.ref a3), (.ref a3)])
  have g3a : n0 ≤ a3 := Nat.le_trans Z0 (Nat.le_of_eq g3.symm)
  obtain ⟨v4, T4, L4, X4, Q4, st4⟩ := own_callI X3 hx hZ hown (y := (⟨"com/example/zellwerk/zellwerk/model/Phase", "<init>", "(DDDD)V"⟩ : MethodName)) rfl (hw _ (List.mem_of_getElem? (i := 5) rfl)) (hw _ (List.mem_of_getElem? (i := 6) rfl)) (hw _ (List.mem_of_getElem? (i := 7) rfl)) (hw _ (List.mem_of_getElem? (i := 4) rfl)) (by decide) (rmInit l Z a0 hw [] h3 n0 a3 (FP.i2d st) (FP.i2d cv) (FP.i2d sp) (FP.i2d aI) g3a A3 (D3 (Or.inr (hw _ (List.mem_of_getElem? (i := 17) rfl))) (ty := .double) (by decide)) (D3 (Or.inr (hw _ (List.mem_of_getElem? (i := 19) rfl))) (ty := .double) (by decide)) (D3 (Or.inr (hw _ (List.mem_of_getElem? (i := 21) rfl))) (ty := .double) (by decide)) (D3 (Or.inr (hw _ (List.mem_of_getElem? (i := 23) rfl))) (ty := .double) (by decide))) (W := 1) (g := (mkF m 31 #[.val (.int st), .val (.int cv), .val (.int sp), .val (.int ac), .val (.int sz), .val (.long (dI.toInt64)), .second, .val (.int aI), .unset, .unset, .unset, .unset, .unset, .unset, .unset, .unset, .unset, .unset, .unset, .unset, .unset, .unset, .unset, .unset] [(.double (FP.i2d aI)), (.double (FP.i2d sp)), (.double (FP.i2d cv)), (.double (FP.i2d st)), (.ref a3), (.ref a3)])) rfl (by rw [hml]; rfl) (a := a3) (argsL := [(.double (FP.i2d st)), (.double (FP.i2d cv)), (.double (FP.i2d sp)), (.double (FP.i2d aI))]) (rest := [(.ref a3)]) (lenOf pd__DDDD_V rfl) rfl rfl (by show 2 * 0 + _ ≤ _; exact Nat.le_of_eq rfl) (hb hby at_31) e3 (by decide) (by decide) (by decide) (by decide)
  obtain ⟨rfl, N4q, K4, E4, F4a, F4b, F4c, F4d⟩ := Q4
  have N4 := Fr.app N0 N4q
  refine own_go st4 ?_
  show own_R p.tables e below _ T4 (mkF m 34 #[.val (.int st), .val (.int cv), .val (.int sp), .val (.int ac), .val (.int sz), .val (.long (dI.toInt64)), .second, .val (.int aI), .unset, .unset, .unset, .unset, .unset, .unset, .unset, .unset, .unset, .unset, .unset, .unset, .unset, .unset, .unset, .unset] [(.ref a3)])
  refine own_go (fun _ => XS.astore X4.here hx rfl (hb hby at_34) rfl rfl (l' := #[.val (.int st), .val (.int cv), .val (.int sp), .val (.int ac), .val (.int sz), .val (.long (dI.toInt64)), .second, .val (.int aI), .val (.ref a3), .unset, .unset, .unset, .unset, .unset, .unset, .unset, .unset, .unset, .unset, .unset, .unset, .unset, .unset, .unset]) rfl) ?_
  refine own_go (fun _ => XS.iloadN X4.here hx rfl (hb hby at_36) rfl ) ?_
  refine own_go (fun _ => XS.i2dS X4.here hx rfl (hb hby at_37) rfl rfl) ?_
  show own_R p.tables e below _ T4 (mkF m 38 #[.val (.int st), .val (.int cv), .val (.int sp), .val (.int ac), .val (.int sz), .val (.long (dI.toInt64)), .second, .val (.int aI), .val (.ref a3), .unset, .unset, .unset, .unset, .unset, .unset, .unset, .unset, .unset, .unset, .unset, .unset, .unset, .unset, .unset] [(.double (FP.i2d st))])
  refine own_go (fun _ => XS.dstore X4.here hx rfl (hb hby at_38) rfl (l' := #[.val (.int st), .val (.int cv), .val (.int sp), .val (.int ac), .val (.int sz), .val (.long (dI.toInt64)), .second, .val (.int aI), .val (.ref a3), .val (.double (FP.i2d st)), .second, .unset, .unset, .unset, .unset, .unset, .unset, .unset, .unset, .unset, .unset, .unset, .unset, .unset]) rfl) ?_
  refine own_go (fun _ => XS.iloadN X4.here hx rfl (hb hby at_40) rfl ) ?_
  refine own_go (fun _ => XS.i2l X4.here hx rfl (hb hby at_41) rfl) ?_
  show own_R p.tables e below _ T4 (mkF m 42 #[.val (.int st), .val (.int cv), .val (.int sp), .val (.int ac), .val (.int sz), .val (.long (dI.toInt64)), .second, .val (.int aI), .val (.ref a3), .val (.double (FP.i2d st)), .second, .unset, .unset, .unset, .unset, .unset, .unset, .unset, .unset, .unset, .unset, .unset, .unset, .unset] [(.long (st.toInt64))])
  refine own_go (fun _ => XS.lload X4.here hx rfl (hb hby at_42) rfl ) ?_
  refine own_go (fun _ => XS.ladd X4.here hx rfl (hb hby at_44) rfl) ?_
  refine own_go (fun _ => XS.l2dS X4.here hx rfl (hb hby at_45) rfl rfl) ?_
  show own_R p.tables e below _ T4 (mkF m 46 #[.val (.int st), .val (.int cv), .val (.int sp), .val (.int ac), .val (.int sz), .val (.long (dI.toInt64)), .second, .val (.int aI), .val (.ref a3), .val (.double (FP.i2d st)), .second, .unset, .unset, .unset, .unset, .unset, .unset, .unset, .unset, .unset, .unset, .unset, .unset, .unset] [(.double (FP.l2d ((st.toInt64) + (dI.toInt64))))])
  refine own_go (fun _ => XS.dstore X4.here hx rfl (hb hby at_46) rfl (l' := #[.val (.int st), .val (.int cv), .val (.int sp), .val (.int ac), .val (.int sz), .val (.long (dI.toInt64)), .second, .val (.int aI), .val (.ref a3), .val (.double (FP.i2d st)), .second, .val (.double (FP.l2d ((st.toInt64) + (dI.toInt64)))), .second, .unset, .unset, .unset, .unset, .unset, .unset, .unset, .unset, .unset, .unset, .unset]) rfl) ?_
  refine own_go (fun _ => XS.iloadN X4.here hx rfl (hb hby at_48) rfl ) ?_
  refine own_go (fun _ => XS.i2l X4.here hx rfl (hb hby at_49) rfl) ?_
  show own_R p.tables e below _ T4 (mkF m 50 #[.val (.int st), .val (.int cv), .val (.int sp), .val (.int ac), .val (.int sz), .val (.long (dI.toInt64)), .second, .val (.int aI), .val (.ref a3), .val (.double (FP.i2d st)), .second, .val (.double (FP.l2d ((st.toInt64) + (dI.toInt64)))), .second, .unset, .unset, .unset, .unset, .unset, .unset, .unset, .unset, .unset, .unset, .unset] [(.long (st.toInt64))])
  refine own_go (X4.ldc2Long hx hown (mvT hZ (hw _ (List.mem_of_getElem? (i := 24) rfl))) (g := (mkF m 50 #[.val (.int st), .val (.int cv), .val (.int sp), .val (.int ac), .val (.int sz), .val (.long (dI.toInt64)), .second, .val (.int aI), .val (.ref a3), .val (.double (FP.i2d st)), .second, .val (.double (FP.l2d ((st.toInt64) + (dI.toInt64)))), .second, .unset, .unset, .unset, .unset, .unset, .unset, .unset, .unset, .unset, .unset, .unset] [(.long (st.toInt64))])) rfl (hb hby at_50)) ?_
  refine own_go (fun _ => XS.lload X4.here hx rfl (hb hby at_53) rfl ) ?_
  refine own_go (fun _ => XS.lmul X4.here hx rfl (hb hby at_55) rfl) ?_
  show own_R p.tables e below _ T4 (mkF m 56 #[.val (.int st), .val (.int cv), .val (.int sp), .val (.int ac), .val (.int sz), .val (.long (dI.toInt64)), .second, .val (.int aI), .val (.ref a3), .val (.double (FP.i2d st)), .second, .val (.double (FP.l2d ((st.toInt64) + (dI.toInt64)))), .second, .unset, .unset, .unset, .unset, .unset, .unset, .unset, .unset, .unset, .unset, .unset] [(.long ((2 : Int64) * (dI.toInt64))), (.long (st.toInt64))])
  refine own_go (fun _ => XS.ladd X4.here hx rfl (hb hby at_56) rfl) ?_
  refine own_go (fun _ => XS.l2dS X4.here hx rfl (hb hby at_57) rfl rfl) ?_
  refine own_go (fun _ => XS.dstore X4.here hx rfl (hb hby at_58) rfl (l' := #[.val (.int st), .val (.int cv), .val (.int sp), .val (.int ac), .val (.int sz), .val (.long (dI.toInt64)), .second, .val (.int aI), .val (.ref a3), .val (.double (FP.i2d st)), .second, .val (.double (FP.l2d ((st.toInt64) + (dI.toInt64)))), .second, .val (.double (FP.l2d ((st.toInt64) + ((2 : Int64) * (dI.toInt64))))), .second, .unset, .unset, .unset, .unset, .unset, .unset, .unset, .unset, .unset]) rfl) ?_
  show own_R p.tables e below _ T4 (mkF m 60 #[.val (.int st), .val (.int cv), .val (.int sp), .val (.int ac), .val (.int sz), .val (.long (dI.toInt64)), .second, .val (.int aI), .val (.ref a3), .val (.double (FP.i2d st)), .second, .val (.double (FP.l2d ((st.toInt64) + (dI.toInt64)))), .second, .val (.double (FP.l2d ((st.toInt64) + ((2 : Int64) * (dI.toInt64))))), .second, .unset, .unset, .unset, .unset, .unset, .unset, .unset, .unset, .unset] [])
  refine own_go (fun _ => XS.aload X4.here hx rfl (hb hby at_60) rfl rfl) ?_
  refine own_go (fun _ => XS.dload X4.here hx rfl (hb hby at_62) rfl ) ?_
  show own_R p.tables e below _ T4 (mkF m 64 #[.val (.int st), .val (.int cv), .val (.int sp), .val (.int ac), .val (.int sz), .val (.long (dI.toInt64)), .second, .val (.int aI), .val (.ref a3), .val (.double (FP.i2d st)), .second, .val (.double (FP.l2d ((st.toInt64) + (dI.toInt64)))), .second, .val (.double (FP.l2d ((st.toInt64) + ((2 : Int64) * (dI.toInt64))))), .second, .unset, .unset, .unset, .unset, .unset, .unset, .unset, .unset, .unset] [(.double (FP.i2d st)), (.ref a3)])
  obtain ⟨v5, T5, L5, X5, Q5, st5⟩ := own_callV X4 hx hZ hown (y := (⟨"com/example/zellwerk/zellwerk/model/Phase", "coveredAt", "(D)D"⟩ : MethodName)) (hw _ (List.mem_of_getElem? (i := 25) rfl)) (hw _ (List.mem_of_getElem? (i := 26) rfl)) (hw _ (List.mem_of_getElem? (i := 28) rfl)) (hw _ (List.mem_of_getElem? (i := 27) rfl)) (hw _ (List.mem_of_getElem? (i := 29) rfl)) (hw _ (List.mem_of_getElem? (i := 4) rfl)) (by decide) (rmCov l Z a0 hw [] T4.heap n0 a3 (FP.i2d st) (FP.i2d cv) (FP.i2d sp) (FP.i2d aI) (FP.i2d st) nn0 F4a F4b F4c F4d) E4 (W := 0) (g := (mkF m 64 #[.val (.int st), .val (.int cv), .val (.int sp), .val (.int ac), .val (.int sz), .val (.long (dI.toInt64)), .second, .val (.int aI), .val (.ref a3), .val (.double (FP.i2d st)), .second, .val (.double (FP.l2d ((st.toInt64) + (dI.toInt64)))), .second, .val (.double (FP.l2d ((st.toInt64) + ((2 : Int64) * (dI.toInt64))))), .second, .unset, .unset, .unset, .unset, .unset, .unset, .unset, .unset, .unset] [(.double (FP.i2d st)), (.ref a3)])) rfl (by rw [hml]; rfl) (b := a3) (argsL := [(.double (FP.i2d st))]) (rest := []) (lenOf pd__D_D rfl) rfl rfl (by show 2 * 0 + _ ≤ _; exact Nat.le_of_eq rfl) (hb hby at_64) rfl (by decide) (by decide) (by decide) (by decide)
  obtain ⟨rfl, N5q, e5⟩ := Q5
  have N5 := Fr.app N4 N5q
  refine own_go st5 ?_
  show own_R p.tables e below _ T5 (mkF m 67 #[.val (.int st), .val (.int cv), .val (.int sp), .val (.int ac), .val (.int sz), .val (.long (dI.toInt64)), .second, .val (.int aI), .val (.ref a3), .val (.double (FP.i2d st)), .second, .val (.double (FP.l2d ((st.toInt64) + (dI.toInt64)))), .second, .val (.double (FP.l2d ((st.toInt64) + ((2 : Int64) * (dI.toInt64))))), .second, .unset, .unset, .unset, .unset, .unset, .unset, .unset, .unset, .unset] [(.double (own_F st cv sp aI (FP.i2d st)))])
  generalize own_F st cv sp aI (FP.i2d st) = f0 at k0 c3 s3 s4 k1 k2 ⊢
  show own_R p.tables e below _ T5 (mkF m 67 #[.val (.int st), .val (.int cv), .val (.int sp), .val (.int ac), .val (.int sz), .val (.long (dI.toInt64)), .second, .val (.int aI), .val (.ref a3), .val (.double (FP.i2d st)), .second, .val (.double (FP.l2d ((st.toInt64) + (dI.toInt64)))), .second, .val (.double (FP.l2d ((st.toInt64) + ((2 : Int64) * (dI.toInt64))))), .second, .unset, .unset, .unset, .unset, .unset, .unset, .unset, .unset, .unset] [(.double f0)])
  refine own_go (fun _ => XS.dstore X5.here hx rfl (hb hby at_67) rfl (l' := #[.val (.int st), .val (.int cv), .val (.int sp), .val (.int ac), .val (.int sz), .val (.long (dI.toInt64)), .second, .val (.int aI), .val (.ref a3), .val (.double (FP.i2d st)), .second, .val (.double (FP.l2d ((st.toInt64) + (dI.toInt64)))), .second, .val (.double (FP.l2d ((st.toInt64) + ((2 : Int64) * (dI.toInt64))))), .second, .val (.double f0), .second, .unset, .unset, .unset, .unset, .unset, .unset, .unset]) rfl) ?_
  refine own_go (fun _ => XS.aload X5.here hx rfl (hb hby at_69) rfl rfl) ?_
  refine own_go (fun _ => XS.dload X5.here hx rfl (hb hby at_71) rfl ) ?_
  show own_R p.tables e below _ T5 (mkF m 73 #[.val (.int st), .val (.int cv), .val (.int sp), .val (.int ac), .val (.int sz), .val (.long (dI.toInt64)), .second, .val (.int aI), .val (.ref a3), .val (.double (FP.i2d st)), .second, .val (.double (FP.l2d ((st.toInt64) + (dI.toInt64)))), .second, .val (.double (FP.l2d ((st.toInt64) + ((2 : Int64) * (dI.toInt64))))), .second, .val (.double f0), .second, .unset, .unset, .unset, .unset, .unset, .unset, .unset] [(.double (FP.l2d ((st.toInt64) + (dI.toInt64)))), (.ref a3)])
  obtain ⟨v6, T6, L6, X6, Q6, st6⟩ := own_callV X5 hx hZ hown (y := (⟨"com/example/zellwerk/zellwerk/model/Phase", "coveredAt", "(D)D"⟩ : MethodName)) (hw _ (List.mem_of_getElem? (i := 25) rfl)) (hw _ (List.mem_of_getElem? (i := 26) rfl)) (hw _ (List.mem_of_getElem? (i := 28) rfl)) (hw _ (List.mem_of_getElem? (i := 27) rfl)) (hw _ (List.mem_of_getElem? (i := 29) rfl)) (hw _ (List.mem_of_getElem? (i := 4) rfl)) (by decide) (rmCov l Z a0 hw [] T4.heap n0 a3 (FP.i2d st) (FP.i2d cv) (FP.i2d sp) (FP.i2d aI) (FP.l2d ((st.toInt64) + (dI.toInt64))) nn1 F4a F4b F4c F4d) E4 (W := 0) (g := (mkF m 73 #[.val (.int st), .val (.int cv), .val (.int sp), .val (.int ac), .val (.int sz), .val (.long (dI.toInt64)), .second, .val (.int aI), .val (.ref a3), .val (.double (FP.i2d st)), .second, .val (.double (FP.l2d ((st.toInt64) + (dI.toInt64)))), .second, .val (.double (FP.l2d ((st.toInt64) + ((2 : Int64) * (dI.toInt64))))), .second, .val (.double f0), .second, .unset, .unset, .unset, .unset, .unset, .unset, .unset] [(.double (FP.l2d ((st.toInt64) + (dI.toInt64)))), (.ref a3)])) rfl (by rw [hml]; rfl) (b := a3) (argsL := [(.double (FP.l2d ((st.toInt64) + (dI.toInt64))))]) (rest := []) (lenOf pd__D_D rfl) rfl rfl (by show 2 * 0 + _ ≤ _; exact Nat.le_of_eq rfl) (hb hby at_73) e5 (by decide) (by decide) (by decide) (by decide)
  obtain ⟨rfl, N6q, e6⟩ := Q6
  have N6 := Fr.app N5 N6q
  refine own_go st6 ?_
  show own_R p.tables e below _ T6 (mkF m 76 #[.val (.int st), .val (.int cv), .val (.int sp), .val (.int ac), .val (.int sz), .val (.long (dI.toInt64)), .second, .val (.int aI), .val (.ref a3), .val (.double (FP.i2d st)), .second, .val (.double (FP.l2d ((st.toInt64) + (dI.toInt64)))), .second, .val (.double (FP.l2d ((st.toInt64) + ((2 : Int64) * (dI.toInt64))))), .second, .val (.double f0), .second, .unset, .unset, .unset, .unset, .unset, .unset, .unset] [(.double (own_F st cv sp aI (FP.l2d ((st.toInt64) + (dI.toInt64)))))])
  generalize own_F st cv sp aI (FP.l2d ((st.toInt64) + (dI.toInt64))) = f1 at c1 c2 c3 s1 s2 s4 k1 k2 ⊢
  show own_R p.tables e below _ T6 (mkF m 76 #[.val (.int st), .val (.int cv), .val (.int sp), .val (.int ac), .val (.int sz), .val (.long (dI.toInt64)), .second, .val (.int aI), .val (.ref a3), .val (.double (FP.i2d st)), .second, .val (.double (FP.l2d ((st.toInt64) + (dI.toInt64)))), .second, .val (.double (FP.l2d ((st.toInt64) + ((2 : Int64) * (dI.toInt64))))), .second, .val (.double f0), .second, .unset, .unset, .unset, .unset, .unset, .unset, .unset] [(.double f1)])
  refine own_go (fun _ => XS.dstore X6.here hx rfl (hb hby at_76) rfl (l' := #[.val (.int st), .val (.int cv), .val (.int sp), .val (.int ac), .val (.int sz), .val (.long (dI.toInt64)), .second, .val (.int aI), .val (.ref a3), .val (.double (FP.i2d st)), .second, .val (.double (FP.l2d ((st.toInt64) + (dI.toInt64)))), .second, .val (.double (FP.l2d ((st.toInt64) + ((2 : Int64) * (dI.toInt64))))), .second, .val (.double f0), .second, .val (.double f1), .second, .unset, .unset, .unset, .unset, .unset]) rfl) ?_
  refine own_go (fun _ => XS.aload X6.here hx rfl (hb hby at_78) rfl rfl) ?_
  refine own_go (fun _ => XS.dload X6.here hx rfl (hb hby at_80) rfl ) ?_
  show own_R p.tables e below _ T6 (mkF m 82 #[.val (.int st), .val (.int cv), .val (.int sp), .val (.int ac), .val (.int sz), .val (.long (dI.toInt64)), .second, .val (.int aI), .val (.ref a3), .val (.double (FP.i2d st)), .second, .val (.double (FP.l2d ((st.toInt64) + (dI.toInt64)))), .second, .val (.double (FP.l2d ((st.toInt64) + ((2 : Int64) * (dI.toInt64))))), .second, .val (.double f0), .second, .val (.double f1), .second, .unset, .unset, .unset, .unset, .unset] [(.double (FP.l2d ((st.toInt64) + ((2 : Int64) * (dI.toInt64))))), (.ref a3)])
  obtain ⟨v7, T7, L7, X7, Q7, st7⟩ := own_callV X6 hx hZ hown (y := (⟨"com/example/zellwerk/zellwerk/model/Phase", "coveredAt", "(D)D"⟩ : MethodName)) (hw _ (List.mem_of_getElem? (i := 25) rfl)) (hw _ (List.mem_of_getElem? (i := 26) rfl)) (hw _ (List.mem_of_getElem? (i := 28) rfl)) (hw _ (List.mem_of_getElem? (i := 27) rfl)) (hw _ (List.mem_of_getElem? (i := 29) rfl)) (hw _ (List.mem_of_getElem? (i := 4) rfl)) (by decide) (rmCov l Z a0 hw [] T4.heap n0 a3 (FP.i2d st) (FP.i2d cv) (FP.i2d sp) (FP.i2d aI) (FP.l2d ((st.toInt64) + ((2 : Int64) * (dI.toInt64)))) nn2 F4a F4b F4c F4d) E4 (W := 0) (g := (mkF m 82 #[.val (.int st), .val (.int cv), .val (.int sp), .val (.int ac), .val (.int sz), .val (.long (dI.toInt64)), .second, .val (.int aI), .val (.ref a3), .val (.double (FP.i2d st)), .second, .val (.double (FP.l2d ((st.toInt64) + (dI.toInt64)))), .second, .val (.double (FP.l2d ((st.toInt64) + ((2 : Int64) * (dI.toInt64))))), .second, .val (.double f0), .second, .val (.double f1), .second, .unset, .unset, .unset, .unset, .unset] [(.double (FP.l2d ((st.toInt64) + ((2 : Int64) * (dI.toInt64))))), (.ref a3)])) rfl (by rw [hml]; rfl) (b := a3) (argsL := [(.double (FP.l2d ((st.toInt64) + ((2 : Int64) * (dI.toInt64)))))]) (rest := []) (lenOf pd__D_D rfl) rfl rfl (by show 2 * 0 + _ ≤ _; exact Nat.le_of_eq rfl) (hb hby at_82) e6 (by decide) (by decide) (by decide) (by decide)
  obtain ⟨rfl, N7q, e7⟩ := Q7
  have N7 := Fr.app N6 N7q
  refine own_go st7 ?_
  show own_R p.tables e below _ T7 (mkF m 85 #[.val (.int st), .val (.int cv), .val (.int sp), .val (.int ac), .val (.int sz), .val (.long (dI.toInt64)), .second, .val (.int aI), .val (.ref a3), .val (.double (FP.i2d st)), .second, .val (.double (FP.l2d ((st.toInt64) + (dI.toInt64)))), .second, .val (.double (FP.l2d ((st.toInt64) + ((2 : Int64) * (dI.toInt64))))), .second, .val (.double f0), .second, .val (.double f1), .second, .unset, .unset, .unset, .unset, .unset] [(.double (own_F st cv sp aI (FP.l2d ((st.toInt64) + ((2 : Int64) * (dI.toInt64))))))])
  generalize own_F st cv sp aI (FP.l2d ((st.toInt64) + ((2 : Int64) * (dI.toInt64)))) = f2 at c2 c3 s2 s4 k1 k2 ⊢
  show own_R p.tables e below _ T7 (mkF m 85 #[.val (.int st), .val (.int cv), .val (.int sp), .val (.int ac), .val (.int sz), .val (.long (dI.toInt64)), .second, .val (.int aI), .val (.ref a3), .val (.double (FP.i2d st)), .second, .val (.double (FP.l2d ((st.toInt64) + (dI.toInt64)))), .second, .val (.double (FP.l2d ((st.toInt64) + ((2 : Int64) * (dI.toInt64))))), .second, .val (.double f0), .second, .val (.double f1), .second, .unset, .unset, .unset, .unset, .unset] [(.double f2)])
  refine own_go (fun _ => XS.dstore X7.here hx rfl (hb hby at_85) rfl (l' := #[.val (.int st), .val (.int cv), .val (.int sp), .val (.int ac), .val (.int sz), .val (.long (dI.toInt64)), .second, .val (.int aI), .val (.ref a3), .val (.double (FP.i2d st)), .second, .val (.double (FP.l2d ((st.toInt64) + (dI.toInt64)))), .second, .val (.double (FP.l2d ((st.toInt64) + ((2 : Int64) * (dI.toInt64))))), .second, .val (.double f0), .second, .val (.double f1), .second, .val (.double f2), .second, .unset, .unset, .unset]) rfl) ?_
  refine own_go (fun _ => XS.dload X7.here hx rfl (hb hby at_87) rfl ) ?_
  refine own_go (fun _ => XS.iloadN X7.here hx rfl (hb hby at_89) rfl ) ?_
  show own_R p.tables e below _ T7 (mkF m 90 #[.val (.int st), .val (.int cv), .val (.int sp), .val (.int ac), .val (.int sz), .val (.long (dI.toInt64)), .second, .val (.int aI), .val (.ref a3), .val (.double (FP.i2d st)), .second, .val (.double (FP.l2d ((st.toInt64) + (dI.toInt64)))), .second, .val (.double (FP.l2d ((st.toInt64) + ((2 : Int64) * (dI.toInt64))))), .second, .val (.double f0), .second, .val (.double f1), .second, .val (.double f2), .second, .unset, .unset, .unset] [(.int cv), (.double f0)])
  refine own_go (fun _ => XS.i2dS X7.here hx rfl (hb hby at_90) rfl rfl) ?_
  refine own_go (fun _ => XS.dcmpS X7.here hx rfl (hb hby at_91) rfl rfl) ?_
  show own_R p.tables e below _ T7 (mkF m 92 #[.val (.int st), .val (.int cv), .val (.int sp), .val (.int ac), .val (.int sz), .val (.long (dI.toInt64)), .second, .val (.int aI), .val (.ref a3), .val (.double (FP.i2d st)), .second, .val (.double (FP.l2d ((st.toInt64) + (dI.toInt64)))), .second, .val (.double (FP.l2d ((st.toInt64) + ((2 : Int64) * (dI.toInt64))))), .second, .val (.double f0), .second, .val (.double f1), .second, .val (.double f2), .second, .unset, .unset, .unset] [(.int (cmpValue (FP.dcmp f0 (FP.i2d cv)) .l))])
  refine own_go (fun _ => XS.ifNo X7.here hx rfl (hb hby at_92) rfl ((if0 _ _).trans (teq k0).2)) ?_
  show own_R p.tables e below _ T7 (mkF m 95 #[.val (.int st), .val (.int cv), .val (.int sp), .val (.int ac), .val (.int sz), .val (.long (dI.toInt64)), .second, .val (.int aI), .val (.ref a3), .val (.double (FP.i2d st)), .second, .val (.double (FP.l2d ((st.toInt64) + (dI.toInt64)))), .second, .val (.double (FP.l2d ((st.toInt64) + ((2 : Int64) * (dI.toInt64))))), .second, .val (.double f0), .second, .val (.double f1), .second, .val (.double f2), .second, .unset, .unset, .unset] [])
  refine own_go (fun _ => XS.iconst X7.here hx rfl (hb hby at_95)) ?_
  refine own_go (fun _ => XS.goto X7.here hx rfl (pc0 := 96) (pc' := 100) rfl (hb hby at_96) (by decide) (by decide)) ?_
  refine own_go (fun _ => XS.istore X7.here hx rfl (hb hby at_100) rfl (l' := #[.val (.int st), .val (.int cv), .val (.int sp), .val (.int ac), .val (.int sz), .val (.long (dI.toInt64)), .second, .val (.int aI), .val (.ref a3), .val (.double (FP.i2d st)), .second, .val (.double (FP.l2d ((st.toInt64) + (dI.toInt64)))), .second, .val (.double (FP.l2d ((st.toInt64) + ((2 : Int64) * (dI.toInt64))))), .second, .val (.double f0), .second, .val (.double f1), .second, .val (.double f2), .second, .val (.int (1 : Int32)), .unset, .unset]) rfl) ?_
  show own_R p.tables e below _ T7 (mkF m 102 #[.val (.int st), .val (.int cv), .val (.int sp), .val (.int ac), .val (.int sz), .val (.long (dI.toInt64)), .second, .val (.int aI), .val (.ref a3), .val (.double (FP.i2d st)), .second, .val (.double (FP.l2d ((st.toInt64) + (dI.toInt64)))), .second, .val (.double (FP.l2d ((st.toInt64) + ((2 : Int64) * (dI.toInt64))))), .second, .val (.double f0), .second, .val (.double f1), .second, .val (.double f2), .second, .val (.int (1 : Int32)), .unset, .unset] [])
  refine own_go (fun _ => XS.dload X7.here hx rfl (hb hby at_102) rfl ) ?_
  refine own_go (X7.ldc2DoubleC hx hown (mvT hZ (hw _ (List.mem_of_getElem? (i := 31) rfl))) (g := (mkF m 104 #[.val (.int st), .val (.int cv), .val (.int sp), .val (.int ac), .val (.int sz), .val (.long (dI.toInt64)), .second, .val (.int aI), .val (.ref a3), .val (.double (FP.i2d st)), .second, .val (.double (FP.l2d ((st.toInt64) + (dI.toInt64)))), .second, .val (.double (FP.l2d ((st.toInt64) + ((2 : Int64) * (dI.toInt64))))), .second, .val (.double f0), .second, .val (.double f1), .second, .val (.double f2), .second, .val (.int (1 : Int32)), .unset, .unset] [(.double f2)])) rfl (hb hby at_104)) ?_
  refine own_go (fun _ => XS.dload X7.here hx rfl (hb hby at_107) rfl ) ?_
  show own_R p.tables e below _ T7 (mkF m 109 #[.val (.int st), .val (.int cv), .val (.int sp), .val (.int ac), .val (.int sz), .val (.long (dI.toInt64)), .second, .val (.int aI), .val (.ref a3), .val (.double (FP.i2d st)), .second, .val (.double (FP.l2d ((st.toInt64) + (dI.toInt64)))), .second, .val (.double (FP.l2d ((st.toInt64) + ((2 : Int64) * (dI.toInt64))))), .second, .val (.double f0), .second, .val (.double f1), .second, .val (.double f2), .second, .val (.int (1 : Int32)), .unset, .unset] [(.double f1), (.double (4611686018427387904 : UInt64)), (.double f2)])
  refine own_go (fun _ => XS.dmulS X7.here hx rfl (hb hby at_109) rfl c1 rfl) ?_
  refine own_go (fun _ => XS.dsubS X7.here hx rfl (hb hby at_110) rfl c2 rfl) ?_
  refine own_go (fun _ => XS.dload X7.here hx rfl (hb hby at_111) rfl ) ?_
  show own_R p.tables e below _ T7 (mkF m 113 #[.val (.int st), .val (.int cv), .val (.int sp), .val (.int ac), .val (.int sz), .val (.long (dI.toInt64)), .second, .val (.int aI), .val (.ref a3), .val (.double (FP.i2d st)), .second, .val (.double (FP.l2d ((st.toInt64) + (dI.toInt64)))), .second, .val (.double (FP.l2d ((st.toInt64) + ((2 : Int64) * (dI.toInt64))))), .second, .val (.double f0), .second, .val (.double f1), .second, .val (.double f2), .second, .val (.int (1 : Int32)), .unset, .unset] [(.double f0), (.double (FP.dsub f2 (FP.dmul (4611686018427387904 : UInt64) f1)))])
  refine own_go (fun _ => XS.daddS X7.here hx rfl (hb hby at_113) rfl c3 rfl) ?_
  refine own_go (fun _ => XS.iload X7.here hx rfl (hb hby at_114) rfl ) ?_
  refine own_go (fun _ => XS.i2l X7.here hx rfl (hb hby at_116) rfl) ?_
  show own_R p.tables e below _ T7 (mkF m 117 #[.val (.int st), .val (.int cv), .val (.int sp), .val (.int ac), .val (.int sz), .val (.long (dI.toInt64)), .second, .val (.int aI), .val (.ref a3), .val (.double (FP.i2d st)), .second, .val (.double (FP.l2d ((st.toInt64) + (dI.toInt64)))), .second, .val (.double (FP.l2d ((st.toInt64) + ((2 : Int64) * (dI.toInt64))))), .second, .val (.double f0), .second, .val (.double f1), .second, .val (.double f2), .second, .val (.int (1 : Int32)), .unset, .unset] [(.long (aI.toInt64)), (.double (FP.dadd (FP.dsub f2 (FP.dmul (4611686018427387904 : UInt64) f1)) f0))])
  refine own_go (fun _ => XS.lload X7.here hx rfl (hb hby at_117) rfl ) ?_
  refine own_go (fun _ => XS.lmul X7.here hx rfl (hb hby at_119) rfl) ?_
  refine own_go (fun _ => XS.lload X7.here hx rfl (hb hby at_120) rfl ) ?_
  show own_R p.tables e below _ T7 (mkF m 122 #[.val (.int st), .val (.int cv), .val (.int sp), .val (.int ac), .val (.int sz), .val (.long (dI.toInt64)), .second, .val (.int aI), .val (.ref a3), .val (.double (FP.i2d st)), .second, .val (.double (FP.l2d ((st.toInt64) + (dI.toInt64)))), .second, .val (.double (FP.l2d ((st.toInt64) + ((2 : Int64) * (dI.toInt64))))), .second, .val (.double f0), .second, .val (.double f1), .second, .val (.double f2), .second, .val (.int (1 : Int32)), .unset, .unset] [(.long (dI.toInt64)), (.long ((aI.toInt64) * (dI.toInt64))), (.double (FP.dadd (FP.dsub f2 (FP.dmul (4611686018427387904 : UInt64) f1)) f0))])
  refine own_go (fun _ => XS.lmul X7.here hx rfl (hb hby at_122) rfl) ?_
  refine own_go (fun _ => XS.l2dS X7.here hx rfl (hb hby at_123) rfl rfl) ?_
  refine own_go (fun _ => XS.dcmpS X7.here hx rfl (hb hby at_124) rfl rfl) ?_
  show own_R p.tables e below _ T7 (mkF m 125 #[.val (.int st), .val (.int cv), .val (.int sp), .val (.int ac), .val (.int sz), .val (.long (dI.toInt64)), .second, .val (.int aI), .val (.ref a3), .val (.double (FP.i2d st)), .second, .val (.double (FP.l2d ((st.toInt64) + (dI.toInt64)))), .second, .val (.double (FP.l2d ((st.toInt64) + ((2 : Int64) * (dI.toInt64))))), .second, .val (.double f0), .second, .val (.double f1), .second, .val (.double f2), .second, .val (.int (1 : Int32)), .unset, .unset] [(.int (cmpValue (FP.dcmp (FP.dadd (FP.dsub f2 (FP.dmul (4611686018427387904 : UInt64) f1)) f0) (FP.l2d (((aI.toInt64) * (dI.toInt64)) * (dI.toInt64)))) .l))])
  refine own_go (fun _ => XS.ifNo X7.here hx rfl (hb hby at_125) rfl ((if0 _ _).trans (teq k1).2)) ?_
  show own_R p.tables e below _ T7 (mkF m 128 #[.val (.int st), .val (.int cv), .val (.int sp), .val (.int ac), .val (.int sz), .val (.long (dI.toInt64)), .second, .val (.int aI), .val (.ref a3), .val (.double (FP.i2d st)), .second, .val (.double (FP.l2d ((st.toInt64) + (dI.toInt64)))), .second, .val (.double (FP.l2d ((st.toInt64) + ((2 : Int64) * (dI.toInt64))))), .second, .val (.double f0), .second, .val (.double f1), .second, .val (.double f2), .second, .val (.int (1 : Int32)), .unset, .unset] [])
  refine own_go (fun _ => XS.iconst X7.here hx rfl (hb hby at_128)) ?_
  refine own_go (fun _ => XS.goto X7.here hx rfl (pc0 := 129) (pc' := 133) rfl (hb hby at_129) (by decide) (by decide)) ?_
  refine own_go (fun _ => XS.istore X7.here hx rfl (hb hby at_133) rfl (l' := #[.val (.int st), .val (.int cv), .val (.int sp), .val (.int ac), .val (.int sz), .val (.long (dI.toInt64)), .second, .val (.int aI), .val (.ref a3), .val (.double (FP.i2d st)), .second, .val (.double (FP.l2d ((st.toInt64) + (dI.toInt64)))), .second, .val (.double (FP.l2d ((st.toInt64) + ((2 : Int64) * (dI.toInt64))))), .second, .val (.double f0), .second, .val (.double f1), .second, .val (.double f2), .second, .val (.int (1 : Int32)), .val (.int (1 : Int32)), .unset]) rfl) ?_
  show own_R p.tables e below _ T7 (mkF m 135 #[.val (.int st), .val (.int cv), .val (.int sp), .val (.int ac), .val (.int sz), .val (.long (dI.toInt64)), .second, .val (.int aI), .val (.ref a3), .val (.double (FP.i2d st)), .second, .val (.double (FP.l2d ((st.toInt64) + (dI.toInt64)))), .second, .val (.double (FP.l2d ((st.toInt64) + ((2 : Int64) * (dI.toInt64))))), .second, .val (.double f0), .second, .val (.double f1), .second, .val (.double f2), .second, .val (.int (1 : Int32)), .val (.int (1 : Int32)), .unset] [])
  refine own_go (X7.ldc2DoubleC hx hown (mvT hZ (hw _ (List.mem_of_getElem? (i := 32) rfl))) (g := (mkF m 135 #[.val (.int st), .val (.int cv), .val (.int sp), .val (.int ac), .val (.int sz), .val (.long (dI.toInt64)), .second, .val (.int aI), .val (.ref a3), .val (.double (FP.i2d st)), .second, .val (.double (FP.l2d ((st.toInt64) + (dI.toInt64)))), .second, .val (.double (FP.l2d ((st.toInt64) + ((2 : Int64) * (dI.toInt64))))), .second, .val (.double f0), .second, .val (.double f1), .second, .val (.double f2), .second, .val (.int (1 : Int32)), .val (.int (1 : Int32)), .unset] [])) rfl (hb hby at_135)) ?_
  refine own_go (fun _ => XS.dload X7.here hx rfl (hb hby at_138) rfl ) ?_
  refine own_go (fun _ => XS.dmulS X7.here hx rfl (hb hby at_140) rfl s1 rfl) ?_
  show own_R p.tables e below _ T7 (mkF m 141 #[.val (.int st), .val (.int cv), .val (.int sp), .val (.int ac), .val (.int sz), .val (.long (dI.toInt64)), .second, .val (.int aI), .val (.ref a3), .val (.double (FP.i2d st)), .second, .val (.double (FP.l2d ((st.toInt64) + (dI.toInt64)))), .second, .val (.double (FP.l2d ((st.toInt64) + ((2 : Int64) * (dI.toInt64))))), .second, .val (.double f0), .second, .val (.double f1), .second, .val (.double f2), .second, .val (.int (1 : Int32)), .val (.int (1 : Int32)), .unset] [(.double (FP.dmul (4616189618054758400 : UInt64) f1))])
  refine own_go (fun _ => XS.dload X7.here hx rfl (hb hby at_141) rfl ) ?_
  refine own_go (fun _ => XS.dsubS X7.here hx rfl (hb hby at_143) rfl s2 rfl) ?_
  refine own_go (X7.ldc2DoubleC hx hown (mvT hZ (hw _ (List.mem_of_getElem? (i := 33) rfl))) (g := (mkF m 144 #[.val (.int st), .val (.int cv), .val (.int sp), .val (.int ac), .val (.int sz), .val (.long (dI.toInt64)), .second, .val (.int aI), .val (.ref a3), .val (.double (FP.i2d st)), .second, .val (.double (FP.l2d ((st.toInt64) + (dI.toInt64)))), .second, .val (.double (FP.l2d ((st.toInt64) + ((2 : Int64) * (dI.toInt64))))), .second, .val (.double f0), .second, .val (.double f1), .second, .val (.double f2), .second, .val (.int (1 : Int32)), .val (.int (1 : Int32)), .unset] [(.double (FP.dsub (FP.dmul (4616189618054758400 : UInt64) f1) f2))])) rfl (hb hby at_144)) ?_
  show own_R p.tables e below _ T7 (mkF m 147 #[.val (.int st), .val (.int cv), .val (.int sp), .val (.int ac), .val (.int sz), .val (.long (dI.toInt64)), .second, .val (.int aI), .val (.ref a3), .val (.double (FP.i2d st)), .second, .val (.double (FP.l2d ((st.toInt64) + (dI.toInt64)))), .second, .val (.double (FP.l2d ((st.toInt64) + ((2 : Int64) * (dI.toInt64))))), .second, .val (.double f0), .second, .val (.double f1), .second, .val (.double f2), .second, .val (.int (1 : Int32)), .val (.int (1 : Int32)), .unset] [(.double (4613937818241073152 : UInt64)), (.double (FP.dsub (FP.dmul (4616189618054758400 : UInt64) f1) f2))])
  refine own_go (fun _ => XS.dload X7.here hx rfl (hb hby at_147) rfl ) ?_
  refine own_go (fun _ => XS.dmulS X7.here hx rfl (hb hby at_149) rfl s3 rfl) ?_
  refine own_go (fun _ => XS.dsubS X7.here hx rfl (hb hby at_150) rfl s4 rfl) ?_
  show own_R p.tables e below _ T7 (mkF m 151 #[.val (.int st), .val (.int cv), .val (.int sp), .val (.int ac), .val (.int sz), .val (.long (dI.toInt64)), .second, .val (.int aI), .val (.ref a3), .val (.double (FP.i2d st)), .second, .val (.double (FP.l2d ((st.toInt64) + (dI.toInt64)))), .second, .val (.double (FP.l2d ((st.toInt64) + ((2 : Int64) * (dI.toInt64))))), .second, .val (.double f0), .second, .val (.double f1), .second, .val (.double f2), .second, .val (.int (1 : Int32)), .val (.int (1 : Int32)), .unset] [(.double (FP.dsub (FP.dsub (FP.dmul (4616189618054758400 : UInt64) f1) f2) (FP.dmul (4613937818241073152 : UInt64) f0)))])
  refine own_go (X7.ldc2Long hx hown (mvT hZ (hw _ (List.mem_of_getElem? (i := 24) rfl))) (g := (mkF m 151 #[.val (.int st), .val (.int cv), .val (.int sp), .val (.int ac), .val (.int sz), .val (.long (dI.toInt64)), .second, .val (.int aI), .val (.ref a3), .val (.double (FP.i2d st)), .second, .val (.double (FP.l2d ((st.toInt64) + (dI.toInt64)))), .second, .val (.double (FP.l2d ((st.toInt64) + ((2 : Int64) * (dI.toInt64))))), .second, .val (.double f0), .second, .val (.double f1), .second, .val (.double f2), .second, .val (.int (1 : Int32)), .val (.int (1 : Int32)), .unset] [(.double (FP.dsub (FP.dsub (FP.dmul (4616189618054758400 : UInt64) f1) f2) (FP.dmul (4613937818241073152 : UInt64) f0)))])) rfl (hb hby at_151)) ?_
  refine own_go (fun _ => XS.iloadN X7.here hx rfl (hb hby at_154) rfl ) ?_
  refine own_go (fun _ => XS.i2l X7.here hx rfl (hb hby at_155) rfl) ?_
  show own_R p.tables e below _ T7 (mkF m 156 #[.val (.int st), .val (.int cv), .val (.int sp), .val (.int ac), .val (.int sz), .val (.long (dI.toInt64)), .second, .val (.int aI), .val (.ref a3), .val (.double (FP.i2d st)), .second, .val (.double (FP.l2d ((st.toInt64) + (dI.toInt64)))), .second, .val (.double (FP.l2d ((st.toInt64) + ((2 : Int64) * (dI.toInt64))))), .second, .val (.double f0), .second, .val (.double f1), .second, .val (.double f2), .second, .val (.int (1 : Int32)), .val (.int (1 : Int32)), .unset] [(.long (sp.toInt64)), (.long (2 : Int64)), (.double (FP.dsub (FP.dsub (FP.dmul (4616189618054758400 : UInt64) f1) f2) (FP.dmul (4613937818241073152 : UInt64) f0)))])
  refine own_go (fun _ => XS.lmul X7.here hx rfl (hb hby at_156) rfl) ?_
  refine own_go (fun _ => XS.lload X7.here hx rfl (hb hby at_157) rfl ) ?_
  refine own_go (fun _ => XS.lmul X7.here hx rfl (hb hby at_159) rfl) ?_
  show own_R p.tables e below _ T7 (mkF m 160 #[.val (.int st), .val (.int cv), .val (.int sp), .val (.int ac), .val (.int sz), .val (.long (dI.toInt64)), .second, .val (.int aI), .val (.ref a3), .val (.double (FP.i2d st)), .second, .val (.double (FP.l2d ((st.toInt64) + (dI.toInt64)))), .second, .val (.double (FP.l2d ((st.toInt64) + ((2 : Int64) * (dI.toInt64))))), .second, .val (.double f0), .second, .val (.double f1), .second, .val (.double f2), .second, .val (.int (1 : Int32)), .val (.int (1 : Int32)), .unset] [(.long (((2 : Int64) * (sp.toInt64)) * (dI.toInt64))), (.double (FP.dsub (FP.dsub (FP.dmul (4616189618054758400 : UInt64) f1) f2) (FP.dmul (4613937818241073152 : UInt64) f0)))])
  refine own_go (fun _ => XS.l2dS X7.here hx rfl (hb hby at_160) rfl rfl) ?_
  refine own_go (fun _ => XS.dcmpS X7.here hx rfl (hb hby at_161) rfl rfl) ?_
  show own_R p.tables e below _ T7 (mkF m 162 #[.val (.int st), .val (.int cv), .val (.int sp), .val (.int ac), .val (.int sz), .val (.long (dI.toInt64)), .second, .val (.int aI), .val (.ref a3), .val (.double (FP.i2d st)), .second, .val (.double (FP.l2d ((st.toInt64) + (dI.toInt64)))), .second, .val (.double (FP.l2d ((st.toInt64) + ((2 : Int64) * (dI.toInt64))))), .second, .val (.double f0), .second, .val (.double f1), .second, .val (.double f2), .second, .val (.int (1 : Int32)), .val (.int (1 : Int32)), .unset] [(.int (cmpValue (FP.dcmp (FP.dsub (FP.dsub (FP.dmul (4616189618054758400 : UInt64) f1) f2) (FP.dmul (4613937818241073152 : UInt64) f0)) (FP.l2d (((2 : Int64) * (sp.toInt64)) * (dI.toInt64)))) .l))])
  refine own_go (fun _ => XS.ifNo X7.here hx rfl (hb hby at_162) rfl ((if0 _ _).trans (teq k2).2)) ?_
  show own_R p.tables e below _ T7 (mkF m 165 #[.val (.int st), .val (.int cv), .val (.int sp), .val (.int ac), .val (.int sz), .val (.long (dI.toInt64)), .second, .val (.int aI), .val (.ref a3), .val (.double (FP.i2d st)), .second, .val (.double (FP.l2d ((st.toInt64) + (dI.toInt64)))), .second, .val (.double (FP.l2d ((st.toInt64) + ((2 : Int64) * (dI.toInt64))))), .second, .val (.double f0), .second, .val (.double f1), .second, .val (.double f2), .second, .val (.int (1 : Int32)), .val (.int (1 : Int32)), .unset] [])
  refine own_go (fun _ => XS.iconst X7.here hx rfl (hb hby at_165)) ?_
  refine own_go (fun _ => XS.goto X7.here hx rfl (pc0 := 166) (pc' := 170) rfl (hb hby at_166) (by decide) (by decide)) ?_
  refine own_go (fun _ => XS.istore X7.here hx rfl (hb hby at_170) rfl (l' := #[.val (.int st), .val (.int cv), .val (.int sp), .val (.int ac), .val (.int sz), .val (.long (dI.toInt64)), .second, .val (.int aI), .val (.ref a3), .val (.double (FP.i2d st)), .second, .val (.double (FP.l2d ((st.toInt64) + (dI.toInt64)))), .second, .val (.double (FP.l2d ((st.toInt64) + ((2 : Int64) * (dI.toInt64))))), .second, .val (.double f0), .second, .val (.double f1), .second, .val (.double f2), .second, .val (.int (1 : Int32)), .val (.int (1 : Int32)), .val (.int (1 : Int32))]) rfl) ?_
  show own_R p.tables e below _ T7 (mkF m 172 #[.val (.int st), .val (.int cv), .val (.int sp), .val (.int ac), .val (.int sz), .val (.long (dI.toInt64)), .second, .val (.int aI), .val (.ref a3), .val (.double (FP.i2d st)), .second, .val (.double (FP.l2d ((st.toInt64) + (dI.toInt64)))), .second, .val (.double (FP.l2d ((st.toInt64) + ((2 : Int64) * (dI.toInt64))))), .second, .val (.double f0), .second, .val (.double f1), .second, .val (.double f2), .second, .val (.int (1 : Int32)), .val (.int (1 : Int32)), .val (.int (1 : Int32))] [])
  refine own_go (fun _ => XS.iload X7.here hx rfl (hb hby at_172) rfl ) ?_
  show own_R p.tables e below _ T7 (mkF m 174 #[.val (.int st), .val (.int cv), .val (.int sp), .val (.int ac), .val (.int sz), .val (.long (dI.toInt64)), .second, .val (.int aI), .val (.ref a3), .val (.double (FP.i2d st)), .second, .val (.double (FP.l2d ((st.toInt64) + (dI.toInt64)))), .second, .val (.double (FP.l2d ((st.toInt64) + ((2 : Int64) * (dI.toInt64))))), .second, .val (.double f0), .second, .val (.double f1), .second, .val (.double f2), .second, .val (.int (1 : Int32)), .val (.int (1 : Int32)), .val (.int (1 : Int32))] [(.int (1 : Int32))])
  refine own_go (fun _ => XS.ifNo X7.here hx rfl (hb hby at_174) rfl ((if0 _ _).trans (feq (by decide)).1)) ?_
  show own_R p.tables e below _ T7 (mkF m 177 #[.val (.int st), .val (.int cv), .val (.int sp), .val (.int ac), .val (.int sz), .val (.long (dI.toInt64)), .second, .val (.int aI), .val (.ref a3), .val (.double (FP.i2d st)), .second, .val (.double (FP.l2d ((st.toInt64) + (dI.toInt64)))), .second, .val (.double (FP.l2d ((st.toInt64) + ((2 : Int64) * (dI.toInt64))))), .second, .val (.double f0), .second, .val (.double f1), .second, .val (.double f2), .second, .val (.int (1 : Int32)), .val (.int (1 : Int32)), .val (.int (1 : Int32))] [])
  refine own_go (fun _ => XS.iload X7.here hx rfl (hb hby at_177) rfl ) ?_
  show own_R p.tables e below _ T7 (mkF m 179 #[.val (.int st), .val (.int cv), .val (.int sp), .val (.int ac), .val (.int sz), .val (.long (dI.toInt64)), .second, .val (.int aI), .val (.ref a3), .val (.double (FP.i2d st)), .second, .val (.double (FP.l2d ((st.toInt64) + (dI.toInt64)))), .second, .val (.double (FP.l2d ((st.toInt64) + ((2 : Int64) * (dI.toInt64))))), .second, .val (.double f0), .second, .val (.double f1), .second, .val (.double f2), .second, .val (.int (1 : Int32)), .val (.int (1 : Int32)), .val (.int (1 : Int32))] [(.int (1 : Int32))])
  refine own_go (fun _ => XS.ifNo X7.here hx rfl (hb hby at_179) rfl ((if0 _ _).trans (feq (by decide)).1)) ?_
  show own_R p.tables e below _ T7 (mkF m 182 #[.val (.int st), .val (.int cv), .val (.int sp), .val (.int ac), .val (.int sz), .val (.long (dI.toInt64)), .second, .val (.int aI), .val (.ref a3), .val (.double (FP.i2d st)), .second, .val (.double (FP.l2d ((st.toInt64) + (dI.toInt64)))), .second, .val (.double (FP.l2d ((st.toInt64) + ((2 : Int64) * (dI.toInt64))))), .second, .val (.double f0), .second, .val (.double f1), .second, .val (.double f2), .second, .val (.int (1 : Int32)), .val (.int (1 : Int32)), .val (.int (1 : Int32))] [])
  refine own_go (fun _ => XS.iload X7.here hx rfl (hb hby at_182) rfl ) ?_
  show own_R p.tables e below _ T7 (mkF m 184 #[.val (.int st), .val (.int cv), .val (.int sp), .val (.int ac), .val (.int sz), .val (.long (dI.toInt64)), .second, .val (.int aI), .val (.ref a3), .val (.double (FP.i2d st)), .second, .val (.double (FP.l2d ((st.toInt64) + (dI.toInt64)))), .second, .val (.double (FP.l2d ((st.toInt64) + ((2 : Int64) * (dI.toInt64))))), .second, .val (.double f0), .second, .val (.double f1), .second, .val (.double f2), .second, .val (.int (1 : Int32)), .val (.int (1 : Int32)), .val (.int (1 : Int32))] [(.int (1 : Int32))])
  refine own_go (fun _ => XS.ifNo X7.here hx rfl (hb hby at_184) rfl ((if0 _ _).trans (feq (by decide)).1)) ?_
  show own_R p.tables e below _ T7 (mkF m 187 #[.val (.int st), .val (.int cv), .val (.int sp), .val (.int ac), .val (.int sz), .val (.long (dI.toInt64)), .second, .val (.int aI), .val (.ref a3), .val (.double (FP.i2d st)), .second, .val (.double (FP.l2d ((st.toInt64) + (dI.toInt64)))), .second, .val (.double (FP.l2d ((st.toInt64) + ((2 : Int64) * (dI.toInt64))))), .second, .val (.double f0), .second, .val (.double f1), .second, .val (.double f2), .second, .val (.int (1 : Int32)), .val (.int (1 : Int32)), .val (.int (1 : Int32))] [])
  refine own_go (fun _ => XS.iconst X7.here hx rfl (hb hby at_187)) ?_
  refine own_go (fun _ => XS.goto X7.here hx rfl (pc0 := 188) (pc' := 192) rfl (hb hby at_188) (by decide) (by decide)) ?_
  show own_R p.tables e below _ T7 (mkF m 192 #[.val (.int st), .val (.int cv), .val (.int sp), .val (.int ac), .val (.int sz), .val (.long (dI.toInt64)), .second, .val (.int aI), .val (.ref a3), .val (.double (FP.i2d st)), .second, .val (.double (FP.l2d ((st.toInt64) + (dI.toInt64)))), .second, .val (.double (FP.l2d ((st.toInt64) + ((2 : Int64) * (dI.toInt64))))), .second, .val (.double f0), .second, .val (.double f1), .second, .val (.double f2), .second, .val (.int (1 : Int32)), .val (.int (1 : Int32)), .val (.int (1 : Int32))] [(.int (1 : Int32))])
  exact own_end X7 (some (.int (1 : Int32))) (fun h => by rw [hret] at h; cases h) hlk (fun fs hr => retN X7 hx (t := .boolean) hret (by simp) (hb hby at_192) hr) ⟨rfl, N7⟩ (by decide) (by decide)
set_option maxRecDepth 65536 in
set_option maxHeartbeats 40000000 in
theorem comes_1 {Post : Tables → Env → Array Value → State → Outcome → State → Prop} (hpost : ∀ tb e args s v u, (limb_1_1.after args s (.returned v) u = true ∧ limb_1_2.after args s (.returned v) u = true ∧ True) → FrameEnd s (.returned v) u (Jvm.fieldLocs frame_1_writes args s ++ Jvm.arrayLocs frame_1_arrays args s ++ Jvm.staticLocs frame_1_statics s) 16 128 → Post tb e args s (.returned v) u) :
    ArmFor flags0 classFile x code maxLocals ret World_1 tables_1 room_1 Calls_1 rest_1 Pre_1 Post := by
  intro l hfl _ _ p e ha hc hk s m args below hf hA hF happ hP
  obtain ⟨hcalls, hrest, hpre⟩ := hP
  obtain ⟨-, -, -, hnamed, -, -, -, hat⟩ := (Spec.applies_iff hf).mp happ
  obtain ⟨hg, hn⟩ := and_e (Cond.before_iff.mp (show (Jvm.Cond.and given_1 narrow_1).before args s = true from hpre))
  obtain ⟨gc, q0⟩ := and_e hg
  obtain ⟨g0, q1⟩ := and_e q0
  obtain ⟨g1, q2⟩ := and_e q1
  obtain ⟨g2, q3⟩ := and_e q2
  obtain ⟨g3, q4⟩ := and_e q3
  have g4 := q4
  obtain ⟨w0, w1, w2, w3, w4, rfl⟩ : ∃ w0 w1 w2 w3 w4 : Value, args = #[w0, w1, w2, w3, w4] := by
    have hs : args.size = 5 := by simpa [Cond.value, given_1] using gc
    obtain ⟨L⟩ := args
    match L, hs with
    | [w0, w1, w2, w3, w4], _ => exact ⟨w0, w1, w2, w3, w4, rfl⟩
  have hw := fun d (hd : d ∈ tables_1) => atoms_spec (ws := Jvm.Cond.code x code maxLocals ret :: tables_1) hat d (List.mem_cons_of_mem _ hd)
  have hfit : Fit s := fun {y c} hc i hi => by
    obtain ⟨ha, rfl⟩ := Array.getElem?_eq_some_iff.mp hc
    have q := List.all_eq_true.mp ((Array.all_eq_true_iff_forall_mem.mp hF) _ (Array.getElem_mem ha)) i (List.mem_range.mpr hi)
    simpa [Array.getElem?_eq_getElem hi] using q
  obtain ⟨i0, ei0⟩ := is_v g0
  obtain rfl : w0 = (.int i0) := Option.some.inj ei0
  obtain ⟨i1, ei1⟩ := is_v g1
  obtain rfl : w1 = (.int i1) := Option.some.inj ei1
  obtain ⟨i2, ei2⟩ := is_v g2
  obtain rfl : w2 = (.int i2) := Option.some.inj ei2
  obtain ⟨i3, ei3⟩ := is_v g3
  obtain rfl : w3 = (.int i3) := Option.some.inj ei3
  obtain ⟨i4, ei4⟩ := is_v g4
  obtain rfl : w4 = (.int i4) := Option.some.inj ei4
  obtain ⟨n, o, h1, h2, h3, _, L, rfl, ⟨rfl, N⟩, hq⟩ := rm0 l s _ hw tables_1 s.heap s.heap.size i0 i1 i2 i3 i4 (Nat.le_refl _) p e ha hc hk s m _ below hf ((Spec.applies_iff_loose hf).mp happ).1 ⟨rfl, State.Warmed39.refl s, rfl⟩ trivial
  refine ⟨n, _, h1, h2, h3, hpost _ _ _ _ _ _ ⟨Cond.after_iff.mpr rfl, Cond.after_iff.mpr (eq_i res_at (Term.int_eval (1)) rfl), trivial⟩ ⟨hq.1, hq.2.1, (hq.2.2.sift fun y hy => Or.inr (N y hy)).mono (by decide) (by decide)⟩⟩
theorem main_1_1 : Claimed_1_1 := comes_1 fun _ _ _ _ _ _ h hF => ⟨h.1, hF⟩
theorem main_1_2 : Claimed_1_2 := comes_1 fun _ _ _ _ _ _ h hF => ⟨h.2.1, hF⟩

end Jvm.Pilot.@@N@@
namespace Jvm.Pilot.@@N@@
open Jvm Jvm.ClassFile Sem Op Lib Jvm.Free Jvm.Stand Jvm.Pilot.@@N@@.Jvm.D
/-! MADE BY PROGRAM (witnessworld.py) out of the Statement's table words and the real class files: 10 classes; the members and pool entries that the words name. The judged class is class 1, her method 1. -/
namespace start1
open Jvm.ClassFile
def u (s : String) : CpInfo := .utf8 (stringToUtf16 s)
/-- a pool by its gaps: so many unusable entries, then the entry; so many at the end -/
def gap : Nat → List CpInfo → List CpInfo
  | 0, r => r
  | n + 1, r => .unusable :: gap n r
def poolList (es : List (Nat × CpInfo)) (last : Nat) : List CpInfo := es.foldr (fun e r => gap e.1 (e.2 :: r)) (gap last [])
def pool (es : List (Nat × CpInfo)) (last : Nat) : Array CpInfo := ⟨poolList es last⟩
def fileOf (pool : Array CpInfo) (this : Nat) (attrs : Array Attribute := #[]) (ms : Array MethodInfo := #[]) (fl : Nat := 33) (sup : Nat := 0) (ifs : Array Nat := #[]) (fds : Array FieldInfo := #[]) : ClassFile where
  minorVersion := 0
  majorVersion := 65
  constantPool := pool
  accessFlags := fl
  thisClass := this
  superClass := sup
  interfaces := ifs
  fields := fds
  methods := ms
  attributes := attrs
def plain (name : String) (sup : Option ClassId) : Class where
  name := name
  kind := .ordinary
  loader := none
  accessFlags := 33
  super := sup
  interfaces := #[]
  cf := none
  fields := #[]
  methods := #[]
  instanceTypes := #[]
  staticTypes := #[]
  resolved := #[]
  callSites := []
  init := .initialized
  statics := none
  mirror := none

def pool0 : Array CpInfo := pool [(5, u "<init>"), (0, u "()V"), (1, .class_ 10), (1, u "java/lang/Object")] 113

def k0c0 : Code := { maxStack := 0, maxLocals := 1, code := object_method_1_code, exceptionTable := #[], attributes := #[] }
def k0m0 : Method := { name := "<init>", desc := "()V", sig := { parameters := [], returnType := none }, accessFlags := 1, code := some k0c0 }
/-- java/lang/Object -/
def k0 : Class := { plain "java/lang/Object" none with
  accessFlags := 33
  interfaces := #[]
  cf := some (fileOf pool0 8 #[] #[{ accessFlags := 1, nameIndex := 5, descriptorIndex := 6, attributes := #[] }] 33 0 #[] #[])
  fields := #[]
  methods := #[k0m0]
  instanceTypes := #[]
  staticTypes := #[]
  resolved := Array.replicate 124 none
  statics := none }

def pool1 : Array CpInfo := pool [(2, .class_ 4), (1, u "java/lang/Object"), (0, u "<init>"), (0, u "()V"), (0, .integer 2147483647), (0, .integer 1048577), (0, .class_ 10), (0, u "com/example/zellwerk/zellwerk/model/Phase"), (0, .methodref 9 12), (0, .nameAndType 5 13), (0, u "(DDDD)V"), (0, .long 2), (1, .methodref 9 17), (0, .nameAndType 18 19), (0, u "coveredAt"), (0, u "(D)D"), (0, .double 4611686018427387904), (1, .double 4616189618054758400), (1, .double 4613937818241073152), (1, .class_ 27), (0, u "com/example/zellwerk/zellwerk/model/PhaseCoveredAtPinLaw"), (2, u "law"), (0, u "(IIIII)Z")] 3

def k1m0 : Method := { name := "<init>", desc := "()V", sig := { parameters := [], returnType := none }, accessFlags := 1, code := none }
def k1c1 : Code := { maxStack := 10, maxLocals := 24, code := code, exceptionTable := #[], attributes := #[] }
def k1m1 : Method := { name := "law", desc := "(IIIII)Z", sig := { parameters := [.int, .int, .int, .int, .int], returnType := some .boolean }, accessFlags := 9, code := some k1c1 }
/-- com/example/zellwerk/zellwerk/model/PhaseCoveredAtPinLaw -/
def k1 : Class := { plain "com/example/zellwerk/zellwerk/model/PhaseCoveredAtPinLaw" (some 0) with
  accessFlags := 49
  interfaces := #[]
  cf := some (fileOf pool1 26 #[] #[{ accessFlags := 1, nameIndex := 5, descriptorIndex := 6, attributes := #[] }, { accessFlags := 9, nameIndex := 30, descriptorIndex := 31, attributes := #[] }] 49 2 #[] #[])
  fields := #[]
  methods := #[k1m0, k1m1]
  instanceTypes := #[]
  staticTypes := #[]
  resolved := Array.replicate 35 none
  statics := none }

def pool2 : Array CpInfo := pool [(1, .methodref 2 3), (0, .class_ 4), (0, .nameAndType 5 6), (0, u "java/lang/Object"), (0, u "<init>"), (0, u "()V"), (0, .class_ 8), (0, u "java/lang/Record")] 13

def k2c0 : Code := { maxStack := 1, maxLocals := 1, code := jdk_30_method_1_code, exceptionTable := #[], attributes := #[] }
def k2m0 : Method := { name := "<init>", desc := "()V", sig := { parameters := [], returnType := none }, accessFlags := 4, code := some k2c0 }
/-- java/lang/Record -/
def k2 : Class := { plain "java/lang/Record" (some 0) with
  accessFlags := 1057
  interfaces := #[]
  cf := some (fileOf pool2 7 #[] #[{ accessFlags := 4, nameIndex := 5, descriptorIndex := 6, attributes := #[] }] 1057 2 #[] #[])
  fields := #[]
  methods := #[k2m0]
  instanceTypes := #[]
  staticTypes := #[]
  resolved := Array.replicate 22 none
  statics := none }

def pool3 : Array CpInfo := pool [(1, .methodref 2 3), (0, .class_ 4), (0, .nameAndType 5 6), (0, u "java/lang/Record"), (0, u "<init>"), (0, u "()V"), (0, .fieldref 8 9), (0, .class_ 10), (0, .nameAndType 11 12), (0, u "com/example/zellwerk/zellwerk/model/Phase"), (0, u "start"), (0, u "D"), (0, .fieldref 8 14), (0, .nameAndType 15 12), (0, u "covered"), (0, .fieldref 8 17), (0, .nameAndType 18 12), (0, u "speed"), (0, .fieldref 8 20), (0, .nameAndType 21 12), (0, u "acceleration"), (0, .double 4611686018427387904), (13, u "(DDDD)V"), (3, u "coveredAt"), (0, u "(D)D")] 27

def k3c0 : Code := { maxStack := 3, maxLocals := 9, code := prog_34_method_1_code, exceptionTable := #[], attributes := #[] }
def k3m0 : Method := { name := "<init>", desc := "(DDDD)V", sig := { parameters := [.double, .double, .double, .double], returnType := none }, accessFlags := 1, code := some k3c0 }
def k3c1 : Code := { maxStack := 6, maxLocals := 5, code := prog_34_method_2_code, exceptionTable := #[], attributes := #[] }
def k3m1 : Method := { name := "coveredAt", desc := "(D)D", sig := { parameters := [.double], returnType := some .double }, accessFlags := 1, code := some k3c1 }
/-- com/example/zellwerk/zellwerk/model/Phase -/
def k3 : Class := { plain "com/example/zellwerk/zellwerk/model/Phase" (some 2) with
  accessFlags := 49
  interfaces := #[]
  cf := some (fileOf pool3 8 #[] #[{ accessFlags := 1, nameIndex := 5, descriptorIndex := 36, attributes := #[] }, { accessFlags := 1, nameIndex := 40, descriptorIndex := 41, attributes := #[] }] 49 2 #[] #[{ accessFlags := 18, nameIndex := 11, descriptorIndex := 12, attributes := #[] }, { accessFlags := 18, nameIndex := 15, descriptorIndex := 12, attributes := #[] }, { accessFlags := 18, nameIndex := 18, descriptorIndex := 12, attributes := #[] }, { accessFlags := 18, nameIndex := 21, descriptorIndex := 12, attributes := #[] }])
  fields := #[{ name := "start", type := .double, accessFlags := 18, slot := 0, constantValue := 0 }, { name := "covered", type := .double, accessFlags := 18, slot := 1, constantValue := 0 }, { name := "speed", type := .double, accessFlags := 18, slot := 2, constantValue := 0 }, { name := "acceleration", type := .double, accessFlags := 18, slot := 3, constantValue := 0 }]
  methods := #[k3m0, k3m1]
  instanceTypes := #[.double, .double, .double, .double]
  staticTypes := #[]
  resolved := Array.replicate 69 none
  statics := none }

def pool4 : Array CpInfo := pool [(1, u "java/lang/Cloneable"), (0, .class_ 1), (0, u "java/lang/Object"), (0, .class_ 3)] 3

/-- java/lang/Cloneable -/
def k4 : Class := { plain "java/lang/Cloneable" (some 0) with
  accessFlags := 1537
  interfaces := #[]
  cf := some (fileOf pool4 2 #[] #[] 1537 4 #[] #[])
  fields := #[]
  methods := #[]
  instanceTypes := #[]
  staticTypes := #[]
  resolved := Array.replicate 8 none
  statics := none }

def pool5 : Array CpInfo := pool [(1, u "java/io/Serializable"), (0, .class_ 1), (0, u "java/lang/Object"), (0, .class_ 3)] 3

/-- java/io/Serializable -/
def k5 : Class := { plain "java/io/Serializable" (some 0) with
  accessFlags := 1537
  interfaces := #[]
  cf := some (fileOf pool5 2 #[] #[] 1537 4 #[] #[])
  fields := #[]
  methods := #[]
  instanceTypes := #[]
  staticTypes := #[]
  resolved := Array.replicate 8 none
  statics := none }

/-- the primitive byte -/
def k6 : Class := { plain "byte" none with kind := .primitive 'B', accessFlags := 0x411 }
/-- [B -/
def k7 : Class := { plain "[B" (some 0) with kind := .array 6 .byte, interfaces := #[4, 5], accessFlags := 1041 }

/-- the primitive int -/
def k8 : Class := { plain "int" none with kind := .primitive 'I', accessFlags := 0x411 }
/-- [I -/
def k9 : Class := { plain "[I" (some 0) with kind := .array 8 .int, interfaces := #[4, 5], accessFlags := 1041 }

def heap : Heap := #[]
def classes : Array Class := #[k0, k1, k2, k3, k4, k5, k6, k7, k8, k9]
def interned : List (Array UInt16 × Addr) := []
def slotsUsed : Nat := 0
def theMethod : MethodId := ⟨1, 1⟩
def args0 : Array Value := #[.int 1, .int 2, .int 3, .int 4, .int 5]
def aboutOver (below : List Frame) : State where
  vm := { classes := classes, interned := interned.toArray }
  heap := heap
  slotsUsed := slotsUsed
  threads := #[{ frames := .invoking theMethod args0 :: below }]
def below0 : List Frame := [.native { method := ⟨0, 0⟩, args := #[] }]
def about1 : State := aboutOver below0
def p0 : Program := .bare "" "" ""
def e0 : Env := launch0.env 0 0 0
theorem w_frames : about1.frames = Frame.invoking theMethod args0 :: below0 := rfl
set_option maxRecDepth 65536 in
theorem w_args : argsFit about1.vm theMethod args0 = true := by decide +kernel
set_option maxRecDepth 65536 in
theorem w_heap : heapFits about1 = true := by decide +kernel
set_option maxRecDepth 65536 in
theorem w_runnable : about1.curStatus? = some .runnable := by decide +kernel
set_option maxRecDepth 65536 in
theorem w_alone : about1.alone = true := by decide +kernel
set_option maxRecDepth 65536 in
theorem w_named : about1.methodNamed? x = some theMethod := by decide +kernel
set_option maxRecDepth 65536 in
theorem w_hears : about1.hears theMethod below0 = true := by decide +kernel
set_option maxRecDepth 65536 in
theorem w_ripe : about1.ripe theMethod args0 below0 = true := by decide +kernel
theorem w_running : about1.status = .running := rfl
set_option maxRecDepth 65536 in
theorem w_room : about1.hasRoom e0.platform room_1 = true :=
  launch0.hasRoom_least _ room_1 (by decide +kernel) (by decide +kernel) (by decide +kernel) (by decide +kernel) (by decide +kernel) (by decide +kernel)
theorem allAtoms_all (ts : List Jvm.Cond) (a : Array Jvm.Value) (st : Jvm.State) : (allAtoms ts).before a st = ts.all (fun c => c.before a st) := by
  induction ts with
  | nil => rfl
  | cons c t ih =>
    show (Jvm.Cond.and c (allAtoms t)).before a st = _
    rw [Jvm.Cond.before_and, ih, List.all_cons]
def words1 : List Jvm.Cond := Jvm.Cond.code x code maxLocals ret :: tables_1
/-- a 'code' word, met by the world's own term for the bytes: nothing is compared byte by byte -/
theorem code_word {y : MethodName} {bytes : ByteArray} {mx : Nat} {rt : Option FieldType} {a : Array Value} {s : State} {m : MethodId} {meth : Method} {c : Code} (h1 : s.methodNamed? y = some m) (h2 : s.vm.method? m = some meth) (h3 : meth.code = some c) (h4 : c.code = bytes)
    (h5 : (c.maxLocals == mx && c.exceptionTable.isEmpty && decide (c.maxStack ≤ mostOperands) && decide (meth.sig.returnType = rt) && !meth.locks && decide (parseMethodDescriptor y.desc = some meth.sig)) = true) : (Jvm.Cond.code y bytes mx rt).before a s = true := by
  simp only [Bool.and_eq_true, beq_iff_eq, Bool.not_eq_true', decide_eq_true_eq] at h5
  obtain ⟨⟨⟨⟨⟨g1, g2⟩, g3⟩, g4⟩, g5⟩, g6⟩ := h5
  simp [Cond.before, Cond.holds, Cond.value, h1, h2, h3, h4, g1, g2, g3, g4, g5, g6]
def isCode : Jvm.Cond → Bool
  | .code _ _ _ _ => true
  | _ => false
theorem all_split {L : List Jvm.Cond} {P : Jvm.Cond → Bool} (h1 : L.all (fun c => isCode c || P c) = true) (h2 : ∀ c ∈ L.filter isCode, P c = true) : L.all P = true := by
  refine List.all_eq_true.mpr fun c hc => ?_
  have h := List.all_eq_true.mp h1 c hc
  rcases Bool.eq_false_or_eq_true (isCode c) with hi | hi
  · exact h2 c (List.mem_filter.mpr ⟨hc, hi⟩)
  · simpa [hi] using h
set_option maxRecDepth 65536 in
theorem w_c0 : (Jvm.Cond.code x code maxLocals ret).before args0 about1 = true := code_word (m := ⟨1, 1⟩) (meth := k1m1) (c := k1c1) (by decide +kernel) rfl rfl rfl (by decide +kernel)
set_option maxRecDepth 65536 in
theorem w_c1 : (Jvm.Cond.code ({ cls := "com/example/zellwerk/zellwerk/model/Phase", name := "<init>", desc := "(DDDD)V" } : Jvm.MethodName) prog_34_method_1_code (9 : Nat) (Option.none : Option Jvm.ClassFile.FieldType)).before args0 about1 = true := code_word (m := ⟨3, 0⟩) (meth := k3m0) (c := k3c0) (by decide +kernel) rfl rfl rfl (by decide +kernel)
set_option maxRecDepth 65536 in
theorem w_c2 : (Jvm.Cond.code ({ cls := "java/lang/Record", name := "<init>", desc := "()V" } : Jvm.MethodName) jdk_30_method_1_code (1 : Nat) (Option.none : Option Jvm.ClassFile.FieldType)).before args0 about1 = true := code_word (m := ⟨2, 0⟩) (meth := k2m0) (c := k2c0) (by decide +kernel) rfl rfl rfl (by decide +kernel)
set_option maxRecDepth 65536 in
theorem w_c3 : (Jvm.Cond.code ({ cls := "java/lang/Object", name := "<init>", desc := "()V" } : Jvm.MethodName) object_method_1_code (1 : Nat) (Option.none : Option Jvm.ClassFile.FieldType)).before args0 about1 = true := code_word (m := ⟨0, 0⟩) (meth := k0m0) (c := k0c0) (by decide +kernel) rfl rfl rfl (by decide +kernel)
set_option maxRecDepth 65536 in
theorem w_c4 : (Jvm.Cond.code ({ cls := "com/example/zellwerk/zellwerk/model/Phase", name := "coveredAt", desc := "(D)D" } : Jvm.MethodName) prog_34_method_2_code (5 : Nat) (Option.some Jvm.ClassFile.FieldType.double)).before args0 about1 = true := code_word (m := ⟨3, 1⟩) (meth := k3m1) (c := k3c1) (by decide +kernel) rfl rfl rfl (by decide +kernel)
def codes1 : List Jvm.Cond := [Jvm.Cond.code x code maxLocals ret, Jvm.Cond.code ({ cls := "com/example/zellwerk/zellwerk/model/Phase", name := "<init>", desc := "(DDDD)V" } : Jvm.MethodName) prog_34_method_1_code (9 : Nat) (Option.none : Option Jvm.ClassFile.FieldType), Jvm.Cond.code ({ cls := "java/lang/Record", name := "<init>", desc := "()V" } : Jvm.MethodName) jdk_30_method_1_code (1 : Nat) (Option.none : Option Jvm.ClassFile.FieldType), Jvm.Cond.code ({ cls := "java/lang/Object", name := "<init>", desc := "()V" } : Jvm.MethodName) object_method_1_code (1 : Nat) (Option.none : Option Jvm.ClassFile.FieldType), Jvm.Cond.code ({ cls := "com/example/zellwerk/zellwerk/model/Phase", name := "coveredAt", desc := "(D)D" } : Jvm.MethodName) prog_34_method_2_code (5 : Nat) (Option.some Jvm.ClassFile.FieldType.double)]
set_option maxRecDepth 65536 in
theorem codes_eq : words1.filter isCode = codes1 := rfl
theorem w_codes : ∀ c ∈ words1.filter isCode, c.before args0 about1 = true := by
  rw [codes_eq]
  intro c hc
  simp only [codes1, List.mem_cons, List.not_mem_nil, or_false] at hc
  rcases hc with rfl | rfl | rfl | rfl | rfl
  · exact w_c0
  · exact w_c1
  · exact w_c2
  · exact w_c3
  · exact w_c4
set_option maxRecDepth 65536 in
theorem w_t1 : (words1.take 24).all (fun c => isCode c || c.before args0 about1) = true := by decide +kernel
set_option maxRecDepth 65536 in
theorem w_t2 : (words1.drop 24).all (fun c => isCode c || c.before args0 about1) = true := by decide +kernel
theorem w_tables : (allAtoms (Jvm.Cond.code x code maxLocals ret :: tables_1)).before args0 about1 = true := by
  rw [allAtoms_all]
  show words1.all (fun c => c.before args0 about1) = true
  refine all_split ?_ w_codes
  rw [← List.take_append_drop 24 words1, List.all_append, w_t1, w_t2]
  rfl
set_option maxRecDepth 65536 in
theorem w_case : (Jvm.Cond.and given_1 narrow_1).before args0 about1 = true := by decide +kernel
theorem w_applies : (headSpec (Jvm.Cond.code x code maxLocals ret :: tables_1) room_1).applies x e0.platform about1 = true :=
  (Spec.applies_iff w_frames).mpr ⟨w_running, w_runnable, w_alone, w_named, w_hears, w_ripe, w_room, w_tables⟩
theorem atStart : AtStart classFile x code maxLocals ret World_1 tables_1 room_1 Calls_1 rest_1 Pre_1 launch0 p0 e0 about1 theMethod args0 below0 :=
  ⟨lists_1, trivial, launch0.admits_env _ _ _, launch0.least_env, fairChoices_fair.cas, fairChoices_fair.clock, w_frames, w_args, w_heap, w_applies, trivial, trivial, w_case⟩
end start1
theorem witness_1 : WitnessClaimed_1 := ⟨start1.p0, start1.e0, start1.about1, start1.theMethod, start1.args0, start1.below0, start1.atStart⟩
end Jvm.Pilot.@@N@@
