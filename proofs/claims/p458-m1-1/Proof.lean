import JvmDerived
import JvmDerived.Pilot.@@N@@Statement
import JvmDerived.Pilot.@@N@@Code
set_option linter.unusedVariables false
set_option linter.unusedSimpArgs false
namespace Jvm.Pilot.@@N@@
open Jvm Jvm.ClassFile Sem Op Lib Jvm.Free Jvm.Stand Jvm.LawKit Jvm.RoadKit Bundle Jvm.Pilot.@@N@@.Jvm.D

section OwnKit
variable {p : Program} {l : Launch} {e : Env} {R : Room} {s : State} {m : MethodId} {args : Array Value} {below : List Frame} {meth : Method} {c : Code} {T : State} {locs : List Loc} {cells slots : Nat} {Z : State} {a0 : Array Value} {h : Heap}
/-- from T at frame F the walk reaches a state that P holds of -/
def own_R (tb : Tables) (e : Env) (below : List Frame) (P : State → Prop) (T : State) (F : JFrame) : Prop := ∃ t, Steps tb e below (T.setTop F) t ∧ P t
theorem own_go {tb : Tables} {e : Env} {below : List Frame} {P : State → Prop} {T T' : State} {F F' : JFrame} (h : ∀ t, Steps tb e below (T'.setTop F') t → Steps tb e below (T.setTop F) t) (r : own_R tb e below P T' F') : own_R tb e below P T F := by
  obtain ⟨t, a, b⟩ := r
  exact ⟨t, h t a, b⟩
/-- what a body's end must meet -/
def own_E (s : State) (below : List Frame) (Q : Option Value → Heap → List Loc → Prop) (C N : Nat) (t : State) : Prop := ∃ v L, t.status = .running ∧ Ended t below (.returned v) ∧ Q v t.heap L ∧ FrameEnd s (.returned v) t L C N
/-- a body's contract -/
abbrev own_C (l : Launch) (Z : State) (y : MethodName) (bytes : ByteArray) (ml : Nat) (ret : Option FieldType) (ws : List Jvm.Cond) (rm : Room) (as : Array Value) (h0 : Heap) (Q : Option Value → Heap → List Loc → Prop) : Prop :=
  MetFree l y (head1 (Jvm.Cond.code y bytes ml ret :: ws) rm) (fun a U => a = as ∧ Z.Warmed39 U.vm ∧ U.heap = h0) (fun _ _ _ _ _ => True) (fun _ U o U' => ∃ v L, o = .returned v ∧ Q v U'.heap L ∧ FrameEnd U o U' L rm.cells rm.slots)
theorem own_body {y : MethodName} {bytes : ByteArray} {ml : Nat} {ret : Option FieldType} {ws : List Jvm.Cond} {rm : Room} {as : Array Value} {h0 : Heap} {Q : Option Value → Heap → List Loc → Prop} {ls : Array Slot}
    (hy : plainFor y = true) (hef : ∀ m, entryFrame m as ml = mkF m 0 ls [])
    (H : ∀ (p : Program) (e : Env) (s : State) (m : MethodId) (below : List Frame) (meth : Method) (c : Code) (T : State), Z.Warmed39 s.vm → p.tables.exec = Jvm.exec → c.code = bytes → c.maxLocals = ml → s.vm.findClass y.cls = some m.cls → meth.name = y.name → meth.sig.returnType = ret → meth.locks = false →
      Stand p l e rm s m as below meth c T [] 0 0 → T.heap = h0 → own_R p.tables e below (own_E s below Q rm.cells rm.slots) T (mkF m 0 ls [])) :
    own_C l Z y bytes ml ret ws rm as h0 Q := by
  refine MetFree.of_bodySF hy hisR ?_
  intro p e s m args below meth c s₁ Bd hml0 hP hK
  obtain ⟨rfl, hZ, hh⟩ := hP
  obtain ⟨t, st, v, L, h1, h2, h3, h4⟩ := H p e s m below meth c s₁ hZ Bd.exec Bd.bytes hml0 (findClass_of_methodNamed Bd.named) (name_of_methodNamed Bd.named Bd.method).1 Bd.returns Bd.notSynchronized (Stand.of_body Bd) (by rw [← hh, Bd.state]; rfl)
  exact ⟨t, _, castTop (hef m) st, h1, h2, v, L, rfl, h3, h4⟩
theorem own_end {Q : Option Value → Heap → List Loc → Prop} {C N : Nat} {F : JFrame} (X : Stand p l e R s m args below meth c T locs cells slots) (v : Option Value) (hv : meth.sig.returnType = none → v = none) (hlk : meth.locks = false)
    (hst : ∀ fs, (∀ (f : JFrame) (acts : List Action), f.method = m → f.locked = none → f.entered = [] → (doReturn e (T.setTop f) acts v).1 = T.setFrames fs) → Steps p.tables e below (T.setTop F) (T.setFrames fs))
    (hQ : Q v T.heap locs) (hc : cells ≤ C) (hn : slots ≤ N) : own_R p.tables e below (own_E s below Q C N) T F := by
  obtain ⟨fs, hr, hrun, hended, hW, hsame⟩ := X.leave (v := v) hv hlk
  exact ⟨_, hst fs hr, v, locs, hrun, hended, hQ, ⟨_, rfl⟩, hW, hsame.mono hc hn⟩
theorem own_retI (X : Stand p l e R s m args below meth c T locs cells slots) (hx : p.tables.exec = Jvm.exec) {pc : Nat} {Ls : Array Slot} {z : Int32} {rest : List Value} (hret : meth.sig.returnType = some .int) (hd : decode c.code pc = .ok (.ireturn, 1)) {fs : List Frame}
    (hl : ∀ (f : JFrame) (acts : List Action), f.method = m → f.locked = none → f.entered = [] → (doReturn e (T.setTop f) acts (some (.int z))).1 = T.setFrames fs) : Steps p.tables e below (T.setTop (mkF m pc Ls (.int z :: rest))) (T.setFrames fs) := by
  have hm' : T.vm.method? m = some meth := X.method'
  have hn : narrow .int (.int z) = .int z := rfl
  show Steps p.tables e below (T.setTop { method := m, pc := pc, locals := Ls, stack := _ :: rest, locked := none }) _
  jvm_step X.here [X.here.top, hx, hd, hm', hret, hn]
  first | (intro acts; rw [hl _ acts rfl rfl rfl]) | rw [hl _ _ rfl rfl rfl]
  exact Steps.refl _
theorem own_retJ (X : Stand p l e R s m args below meth c T locs cells slots) (hx : p.tables.exec = Jvm.exec) {pc : Nat} {Ls : Array Slot} {z : Int64} {rest : List Value} (hret : meth.sig.returnType = some .long) (hd : decode c.code pc = .ok (.lreturn, 1)) {fs : List Frame}
    (hl : ∀ (f : JFrame) (acts : List Action), f.method = m → f.locked = none → f.entered = [] → (doReturn e (T.setTop f) acts (some (.long z))).1 = T.setFrames fs) : Steps p.tables e below (T.setTop (mkF m pc Ls (.long z :: rest))) (T.setFrames fs) := by
  have hm' : T.vm.method? m = some meth := X.method'
  have hn : narrow .long (.long z) = .long z := rfl
  show Steps p.tables e below (T.setTop { method := m, pc := pc, locals := Ls, stack := _ :: rest, locked := none }) _
  jvm_step X.here [X.here.top, hx, hd, hm', hret, hn]
  first | (intro acts; rw [hl _ acts rfl rfl rfl]) | rw [hl _ _ rfl rfl rfl]
  exact Steps.refl _
theorem own_retD (X : Stand p l e R s m args below meth c T locs cells slots) (hx : p.tables.exec = Jvm.exec) {pc : Nat} {Ls : Array Slot} {z : UInt64} {rest : List Value} (hret : meth.sig.returnType = some .double) (hd : decode c.code pc = .ok (.dreturn, 1)) {fs : List Frame}
    (hl : ∀ (f : JFrame) (acts : List Action), f.method = m → f.locked = none → f.entered = [] → (doReturn e (T.setTop f) acts (some (.double z))).1 = T.setFrames fs) : Steps p.tables e below (T.setTop (mkF m pc Ls (.double z :: rest))) (T.setFrames fs) := by
  have hm' : T.vm.method? m = some meth := X.method'
  have hn : narrow .double (.double z) = .double z := rfl
  show Steps p.tables e below (T.setTop { method := m, pc := pc, locals := Ls, stack := _ :: rest, locked := none }) _
  jvm_step X.here [X.here.top, hx, hd, hm', hret, hn]
  first | (intro acts; rw [hl _ acts rfl rfl rfl]) | rw [hl _ _ rfl rfl rfl]
  exact Steps.refl _
theorem own_retA (X : Stand p l e R s m args below meth c T locs cells slots) (hx : p.tables.exec = Jvm.exec) {pc : Nat} {Ls : Array Slot} {z : Value} {t : FieldType} {rest : List Value} (hret : meth.sig.returnType = some t) (ht : t.isReference = true) (hz : z.isRef = true) (hd : decode c.code pc = .ok (.areturn, 1)) {fs : List Frame}
    (hl : ∀ (f : JFrame) (acts : List Action), f.method = m → f.locked = none → f.entered = [] → (doReturn e (T.setTop f) acts (some z)).1 = T.setFrames fs) : Steps p.tables e below (T.setTop (mkF m pc Ls (z :: rest))) (T.setFrames fs) := by
  have hm' : T.vm.method? m = some meth := X.method'
  show Steps p.tables e below (T.setTop { method := m, pc := pc, locals := Ls, stack := _ :: rest, locked := none }) _
  jvm_step X.here [X.here.top, hx, hd, hm', hret, ht, hz]
  first | (intro acts; rw [hl _ acts rfl rfl rfl]) | rw [hl _ _ rfl rfl rfl]
  exact Steps.refl _
theorem own_len {a : Addr} {k : ClassId} {ty : FieldType} {n : Int32} {vs : List Value} {d : Value} (X : Stand p l e R s m args below meth c T locs cells slots) (hx : p.tables.exec = Jvm.exec) (hZ : Z.Warmed39 s.vm) (eT : T.heap = h) (V : Arv Z h a k ty n vs d)
    {g : JFrame} (hg : g.method = m) {rest : List Value} (hs : g.stack = .ref a :: rest) (hd : decode c.code g.pc = .ok (.arraylength, 1)) :
    ∀ t, Steps p.tables e below (T.setTop { g with pc := g.pc + 1, stack := .int n :: rest }) t → Steps p.tables e below (T.setTop g) t := by
  obtain ⟨cl, Ar, -, S, N, -, -⟩ := V
  intro t st
  refine X.arraylength hx (by rw [eT]; exact Ar.1) (State.isArrayOf_alike hZ.alike Ar.2.1) hg hs hd t ?_
  rw [len_of S N]
  exact st
theorem own_ldD {a : Addr} {k : ClassId} {n j : Int32} {vs : List Value} {d v : Value} (X : Stand p l e R s m args below meth c T locs cells slots) (hx : p.tables.exec = Jvm.exec) (hZ : Z.Warmed39 s.vm) (eT : T.heap = h) (V : Arv Z h a k .double n vs d) (hj : ¬ j < 0 ∧ j < n) (hv : vs.getD j.toNatClampNeg d = v)
    {g : JFrame} (hg : g.method = m) {rest : List Value} (hs : g.stack = .int j :: .ref a :: rest) (hd : decode c.code g.pc = .ok (.daload, 1)) :
    ∀ t, Steps p.tables e below (T.setTop { g with pc := g.pc + 1, stack := v :: rest }) t → Steps p.tables e below (T.setTop g) t := by
  obtain ⟨cl, Ar, -, S, N, H, -⟩ := V
  intro t st
  exact X.daload hx (by rw [eT]; exact Ar.1) (State.isArrayOf_alike hZ.alike Ar.2.1) Ar.2.2 (inb_of S hj) (H.at (inb_of S hj) hv) hg hs hd t st
theorem own_ldZ {a : Addr} {k : ClassId} {n j : Int32} {vs : List Value} {d v : Value} (X : Stand p l e R s m args below meth c T locs cells slots) (hx : p.tables.exec = Jvm.exec) (hZ : Z.Warmed39 s.vm) (eT : T.heap = h) (V : Arv Z h a k .boolean n vs d) (hj : ¬ j < 0 ∧ j < n) (hv : vs.getD j.toNatClampNeg d = v)
    {g : JFrame} (hg : g.method = m) {rest : List Value} (hs : g.stack = .int j :: .ref a :: rest) (hd : decode c.code g.pc = .ok (.baload, 1)) :
    ∀ t, Steps p.tables e below (T.setTop { g with pc := g.pc + 1, stack := v :: rest }) t → Steps p.tables e below (T.setTop g) t := by
  obtain ⟨cl, Ar, -, S, N, H, -⟩ := V
  intro t st
  exact X.baloadBooleans hx (by rw [eT]; exact Ar.1) (State.isArrayOf_alike hZ.alike Ar.2.1) Ar.2.2 (inb_of S hj) (H.at (inb_of S hj) hv) hg hs hd t st
theorem own_stD {a : Addr} {k : ClassId} {n j : Int32} {vs : List Value} {d : Value} {x : UInt64} (X : Stand p l e R s m args below meth c T locs cells slots) (hx : p.tables.exec = Jvm.exec) (hZ : Z.Warmed39 s.vm) (eT : T.heap = h) (V : Arv Z h a k .double n vs d) (hj : ¬ j < 0 ∧ j < n) (i : Nat) (hji : j.toNatClampNeg = i) (hi : i < vs.length)
    {g : JFrame} (hg : g.method = m) {rest : List Value} (hs : g.stack = .double x :: .int j :: .ref a :: rest) (hd : decode c.code g.pc = .ok (.dastore, 1)) :
    ∃ T' h', Stand p l e R s m args below meth c T' (locs ++ [⟨a, j.toNatClampNeg⟩]) cells slots ∧ T'.heap = h' ∧ Wr h h' a j.toNatClampNeg (.double x) ∧ Arv Z h' a k .double n (vs.set i (.double x)) d ∧ ∀ t, Steps p.tables e below (T'.setTop { g with pc := g.pc + 1, stack := rest }) t → Steps p.tables e below (T.setTop g) t := by
  obtain ⟨cl, Ar, q, S, N, H, G⟩ := V
  obtain ⟨T', h', X', e', W, st⟩ := stD X hx hZ eT Ar (inb_of S hj) hg hs hd
  exact ⟨T', h', X', e', W, Arv.set Ar q S N H G rfl W i hji hi, st⟩
theorem own_stZ {a : Addr} {k : ClassId} {n j : Int32} {vs : List Value} {d : Value} {x : Int32} (X : Stand p l e R s m args below meth c T locs cells slots) (hx : p.tables.exec = Jvm.exec) (hZ : Z.Warmed39 s.vm) (eT : T.heap = h) (V : Arv Z h a k .boolean n vs d) (hj : ¬ j < 0 ∧ j < n) (i : Nat) (hji : j.toNatClampNeg = i) (hi : i < vs.length) (h01 : x = 0 ∨ x = 1)
    {g : JFrame} (hg : g.method = m) {rest : List Value} (hs : g.stack = .int x :: .int j :: .ref a :: rest) (hd : decode c.code g.pc = .ok (.bastore, 1)) :
    ∃ T' h', Stand p l e R s m args below meth c T' (locs ++ [⟨a, j.toNatClampNeg⟩]) cells slots ∧ T'.heap = h' ∧ Wr h h' a j.toNatClampNeg (.int x) ∧ Arv Z h' a k .boolean n (vs.set i (.int x)) d ∧ ∀ t, Steps p.tables e below (T'.setTop { g with pc := g.pc + 1, stack := rest }) t → Steps p.tables e below (T.setTop g) t := by
  obtain ⟨cl, Ar, q, S, N, H, G⟩ := V
  obtain ⟨T', h', X', e', W, st⟩ := stZ X hx hZ eT Ar (inb_of S hj) hg hs hd
  have en : nar .boolean x = x := by rcases h01 with rfl | rfl <;> rfl
  rw [en] at W
  exact ⟨T', h', X', e', W, Arv.set Ar q S N H G (by rcases h01 with rfl | rfl <;> rfl) W i hji hi, st⟩
theorem own_stC {a : Addr} {k : ClassId} {n j : Int32} {vs : List Value} {d : Value} {x : Int32} (X : Stand p l e R s m args below meth c T locs cells slots) (hx : p.tables.exec = Jvm.exec) (hZ : Z.Warmed39 s.vm) (eT : T.heap = h) (V : Arv Z h a k .char n vs d) (hj : ¬ j < 0 ∧ j < n) (i : Nat) (hji : j.toNatClampNeg = i) (hi : i < vs.length) (hn : nar .char x = x)
    {g : JFrame} (hg : g.method = m) {rest : List Value} (hs : g.stack = .int x :: .int j :: .ref a :: rest) (hd : decode c.code g.pc = .ok (.castore, 1)) :
    ∃ T' h', Stand p l e R s m args below meth c T' (locs ++ [⟨a, j.toNatClampNeg⟩]) cells slots ∧ T'.heap = h' ∧ Wr h h' a j.toNatClampNeg (.int x) ∧ Arv Z h' a k .char n (vs.set i (.int x)) d ∧ ∀ t, Steps p.tables e below (T'.setTop { g with pc := g.pc + 1, stack := rest }) t → Steps p.tables e below (T.setTop g) t := by
  obtain ⟨cl, Ar, q, S, N, H, G⟩ := V
  obtain ⟨T', h', X', e', W, st⟩ := stC X hx hZ eT Ar (inb_of S hj) hg hs hd
  have hf := fits_nar_char x
  rw [hn] at W hf
  exact ⟨T', h', X', e', W, Arv.set Ar q S N H G hf W i hji hi, st⟩
/-- a payer's form: what the three calls ask -/
abbrev own_B (l : Launch) (R : Room) (p : Program) (e : Env) (below : List Frame) (s : State) (args : Array Value) (y : MethodName) (W : Nat) (as : Array Value) (h : Heap) (kc ks : Nat) (Q : Option Value → Heap → List Loc → Prop) : Prop :=
  Back l R p e below s args y 3 W (fun A a => a = as ∧ A.U.heap = h ∧ A.cells + kc ≤ R.cells ∧ A.slots + ks ≤ R.slots) (fun A _ v B => ∃ L, Q v B.U.heap L ∧ B.locs = A.locs ++ L ∧ B.cells = A.cells + kc ∧ B.slots = A.slots + ks)
theorem own_backS (X : Stand p l e R s m args below meth c T locs cells slots) (hx : p.tables.exec = Jvm.exec) (hZ : Z.Warmed39 s.vm) {own : String} (hown : s.vm.findClass own = some m.cls) {index : Nat} {y : MethodName} {bytes : ByteArray} {maxL : Nat} {ret : Option FieldType}
    (w1 : (Jvm.Cond.methodLink own index y).before a0 Z = true) (w2 : (Jvm.Cond.static y).before a0 Z = true) (w3 : (Jvm.Cond.initialized y.cls).before a0 Z = true) (w4 : (Jvm.Cond.code y bytes maxL ret).before a0 Z = true) (hy : y.cls ≠ "java/lang/invoke/MethodHandle" ∧ y.cls ≠ "java/lang/invoke/VarHandle")
    {W kc ks : Nat} {as : Array Value} {Q : Option Value → Heap → List Loc → Prop} (hK : own_B l R p e below s args y W as h kc ks Q) 
    {g : JFrame} (hg : g.method = m) (hsize : g.locals.size = c.maxLocals) {argsL rest : List Value} (hlen : ∀ sig, parseMethodDescriptor y.desc = some sig → argsL.length = sig.parameters.length)
    (hst : g.stack = argsL.reverse ++ rest) (has : argsL.toArray = as) (hW : 2 * g.monitorRoom + (rest.map fun v => v.category).sum ≤ W) (hd : decode c.code g.pc = .ok (.invokestatic index, 3)) (eT : T.heap = h)
    (hc : cells + kc ≤ R.cells) (hs : slots + ks ≤ R.slots) :
    ∃ v T' L, Stand p l e R s m args below meth c T' (locs ++ L) (cells + kc) (slots + ks) ∧ Q v T'.heap L ∧ ∀ t, Steps p.tables e below (T'.setTop { g with pc := g.pc + 3, stack := v.toList ++ rest }) t → Steps p.tables e below (T.setTop g) t := by
  obtain ⟨v, vm1, ⟨T1, L1, k1, n1⟩, -, X1, ⟨Lc, hQ, l1, y1, z1⟩, st⟩ := Jvm.LawKit.callS X hx (y := y) hown (mvT hZ w1) (mvT hZ w2) (mvT hZ w3) (mvT hZ w4) hy hK hg hsize (argsL := argsL) (rest := rest) hlen hst hW hd (fun _ _ => ⟨has, eT, hc, hs⟩)
  dsimp only [Pt.U, Pt.locs, Pt.cells, Pt.slots] at X1 l1 y1 z1 st hQ
  subst l1 y1 z1
  exact ⟨v, T1, Lc, X1, hQ, st⟩
theorem own_callS (X : Stand p l e R s m args below meth c T locs cells slots) (hx : p.tables.exec = Jvm.exec) (hZ : Z.Warmed39 s.vm) {own : String} (hown : s.vm.findClass own = some m.cls) {index : Nat} {y : MethodName} {bytes : ByteArray} {maxL : Nat} {ret : Option FieldType}
    (w1 : (Jvm.Cond.methodLink own index y).before a0 Z = true) (w2 : (Jvm.Cond.static y).before a0 Z = true) (w3 : (Jvm.Cond.initialized y.cls).before a0 Z = true) (w4 : (Jvm.Cond.code y bytes maxL ret).before a0 Z = true) (hy : y.cls ≠ "java/lang/invoke/MethodHandle" ∧ y.cls ≠ "java/lang/invoke/VarHandle")
    {rm : Room} {as : Array Value} {Q : Option Value → Heap → List Loc → Prop} (hM : own_C l Z y bytes maxL ret [] rm as h Q) {W : Nat}
    {g : JFrame} (hg : g.method = m) (hsize : g.locals.size = c.maxLocals) {argsL rest : List Value} (hlen : ∀ sig, parseMethodDescriptor y.desc = some sig → argsL.length = sig.parameters.length)
    (hst : g.stack = argsL.reverse ++ rest) (has : argsL.toArray = as) (hW : 2 * g.monitorRoom + (rest.map fun v => v.category).sum ≤ W) (hd : decode c.code g.pc = .ok (.invokestatic index, 3)) (eT : T.heap = h)
    (hf : rm.frames + 1 ≤ R.frames) (hl : W + (maxL + 11) + rm.locals ≤ R.locals) (hc : cells + rm.cells ≤ R.cells) (hs : slots + rm.slots ≤ R.slots) :
    ∃ v T' L, Stand p l e R s m args below meth c T' (locs ++ L) (cells + rm.cells) (slots + rm.slots) ∧ Q v T'.heap L ∧ ∀ t, Steps p.tables e below (T'.setTop { g with pc := g.pc + 3, stack := v.toList ++ rest }) t → Steps p.tables e below (T.setTop g) t :=
  own_backS X hx hZ hown w1 w2 w3 w4 hy (backOf (W := W) hM hZ w4 w3 hf hl) hg hsize hlen hst has hW hd eT hc hs
theorem own_backI (X : Stand p l e R s m args below meth c T locs cells slots) (hx : p.tables.exec = Jvm.exec) (hZ : Z.Warmed39 s.vm) {own : String} (hown : s.vm.findClass own = some m.cls) {index : Nat} {y : MethodName} {bytes : ByteArray} {maxL : Nat} 
    (hy1 : y.name = "<init>") (w1 : (Jvm.Cond.methodLink own index y).before a0 Z = true) (w2 : (Jvm.Cond.instanceMethod y).before a0 Z = true) (w4 : (Jvm.Cond.code y bytes maxL none).before a0 Z = true) (w3 : (Jvm.Cond.initialized y.cls).before a0 Z = true) (hy : y.cls ≠ "java/lang/invoke/MethodHandle" ∧ y.cls ≠ "java/lang/invoke/VarHandle")
    {W kc ks : Nat} {as : Array Value} {Q : Option Value → Heap → List Loc → Prop} (hK : own_B l R p e below s args y W as h kc ks Q) 
    {g : JFrame} (hg : g.method = m) (hsize : g.locals.size = c.maxLocals) {a : Addr} {argsL rest : List Value} (hlen : ∀ sig, parseMethodDescriptor y.desc = some sig → argsL.length = sig.parameters.length)
    (hst : g.stack = argsL.reverse ++ .ref a :: rest) (has : (.ref a :: argsL).toArray = as) (hW : 2 * g.monitorRoom + (rest.map fun v => v.category).sum ≤ W) (hd : decode c.code g.pc = .ok (.invokespecial index, 3)) (eT : T.heap = h)
    (hc : cells + kc ≤ R.cells) (hs : slots + ks ≤ R.slots) :
    ∃ v T' L, Stand p l e R s m args below meth c T' (locs ++ L) (cells + kc) (slots + ks) ∧ Q v T'.heap L ∧ ∀ t, Steps p.tables e below (T'.setTop { g with pc := g.pc + 3, stack := v.toList ++ rest }) t → Steps p.tables e below (T.setTop g) t := by
  obtain ⟨v, vm1, ⟨T1, L1, k1, n1⟩, -, X1, ⟨Lc, hQ, l1, y1, z1⟩, st⟩ := X.specialBack hx (y := y) hy1 hown (mvT hZ w1) (mvT hZ w2) (mvT hZ w4) hy hK hg hsize (Steps.refl _) (a := a) (argsL := argsL) (rest := rest) hlen hst hW hd (fun _ _ => ⟨has, eT, hc, hs⟩)
  dsimp only [Pt.U, Pt.locs, Pt.cells, Pt.slots] at X1 l1 y1 z1 st hQ
  subst l1 y1 z1
  exact ⟨v, T1, Lc, X1, hQ, fun _ k => st.trans k⟩
theorem own_callI (X : Stand p l e R s m args below meth c T locs cells slots) (hx : p.tables.exec = Jvm.exec) (hZ : Z.Warmed39 s.vm) {own : String} (hown : s.vm.findClass own = some m.cls) {index : Nat} {y : MethodName} {bytes : ByteArray} {maxL : Nat} 
    (hy1 : y.name = "<init>") (w1 : (Jvm.Cond.methodLink own index y).before a0 Z = true) (w2 : (Jvm.Cond.instanceMethod y).before a0 Z = true) (w4 : (Jvm.Cond.code y bytes maxL none).before a0 Z = true) (w3 : (Jvm.Cond.initialized y.cls).before a0 Z = true) (hy : y.cls ≠ "java/lang/invoke/MethodHandle" ∧ y.cls ≠ "java/lang/invoke/VarHandle")
    {rm : Room} {as : Array Value} {Q : Option Value → Heap → List Loc → Prop} (hM : own_C l Z y bytes maxL none [] rm as h Q) {W : Nat}
    {g : JFrame} (hg : g.method = m) (hsize : g.locals.size = c.maxLocals) {a : Addr} {argsL rest : List Value} (hlen : ∀ sig, parseMethodDescriptor y.desc = some sig → argsL.length = sig.parameters.length)
    (hst : g.stack = argsL.reverse ++ .ref a :: rest) (has : (.ref a :: argsL).toArray = as) (hW : 2 * g.monitorRoom + (rest.map fun v => v.category).sum ≤ W) (hd : decode c.code g.pc = .ok (.invokespecial index, 3)) (eT : T.heap = h)
    (hf : rm.frames + 1 ≤ R.frames) (hl : W + (maxL + 11) + rm.locals ≤ R.locals) (hc : cells + rm.cells ≤ R.cells) (hs : slots + rm.slots ≤ R.slots) :
    ∃ v T' L, Stand p l e R s m args below meth c T' (locs ++ L) (cells + rm.cells) (slots + rm.slots) ∧ Q v T'.heap L ∧ ∀ t, Steps p.tables e below (T'.setTop { g with pc := g.pc + 3, stack := v.toList ++ rest }) t → Steps p.tables e below (T.setTop g) t :=
  own_backI X hx hZ hown hy1 w1 w2 w4 w3 hy (backOf (W := W) hM hZ w4 w3 hf hl) hg hsize hlen hst has hW hd eT hc hs
theorem own_backV (X : Stand p l e R s m args below meth c T locs cells slots) (hx : p.tables.exec = Jvm.exec) (hZ : Z.Warmed39 s.vm) {own C : String} (hown : s.vm.findClass own = some m.cls) {index : Nat} {y : MethodName} {bytes : ByteArray} {maxL : Nat} {ret : Option FieldType}
    (w1 : (Jvm.Cond.methodLink own index y).before a0 Z = true) (w2 : (Jvm.Cond.declares y).before a0 Z = true) (w5 : (Jvm.Cond.selects C y y).before a0 Z = true) (w6 : (Jvm.Cond.instanceMethod y).before a0 Z = true) (w4 : (Jvm.Cond.code y bytes maxL ret).before a0 Z = true) (w3 : (Jvm.Cond.initialized y.cls).before a0 Z = true) (hy : y.cls ≠ "java/lang/invoke/MethodHandle" ∧ y.cls ≠ "java/lang/invoke/VarHandle")
    {W kc ks : Nat} {as : Array Value} {Q : Option Value → Heap → List Loc → Prop} (hK : own_B l R p e below s args y W as h kc ks Q) {b : Addr} (hE : Exa Z h b C) 
    {g : JFrame} (hg : g.method = m) (hsize : g.locals.size = c.maxLocals) {argsL rest : List Value} (hlen : ∀ sig, parseMethodDescriptor y.desc = some sig → argsL.length = sig.parameters.length)
    (hst : g.stack = argsL.reverse ++ .ref b :: rest) (has : (.ref b :: argsL).toArray = as) (hW : 2 * g.monitorRoom + (rest.map fun v => v.category).sum ≤ W) (hd : decode c.code g.pc = .ok (.invokevirtual index, 3)) (eT : T.heap = h)
    (hc : cells + kc ≤ R.cells) (hs : slots + ks ≤ R.slots) :
    ∃ v T' L, Stand p l e R s m args below meth c T' (locs ++ L) (cells + kc) (slots + ks) ∧ Q v T'.heap L ∧ ∀ t, Steps p.tables e below (T'.setTop { g with pc := g.pc + 3, stack := v.toList ++ rest }) t → Steps p.tables e below (T.setTop g) t := by
  obtain ⟨cq, kq, qa, qb, qc⟩ := isOf hZ eT hE
  obtain ⟨v, vm1, ⟨T1, L1, k1, n1⟩, -, X1, ⟨Lc, hQ, l1, y1, z1⟩, st⟩ := X.virtualBack hx (y := y) (z := y) hown (mvT hZ w1) (mvT hZ w2) (notFace_of_selects (args := #[]) (mvT hZ w5)) (mvT hZ w5) (mvT hZ w6) hy hK qa qc hg hsize (Steps.refl _) (argsL := argsL) (rest := rest) hlen hst hW hd (fun _ _ => ⟨has, eT, hc, hs⟩)
  dsimp only [Pt.U, Pt.locs, Pt.cells, Pt.slots] at X1 l1 y1 z1 st hQ
  subst l1 y1 z1
  exact ⟨v, T1, Lc, X1, hQ, fun _ k => st.trans k⟩
theorem own_callV (X : Stand p l e R s m args below meth c T locs cells slots) (hx : p.tables.exec = Jvm.exec) (hZ : Z.Warmed39 s.vm) {own C : String} (hown : s.vm.findClass own = some m.cls) {index : Nat} {y : MethodName} {bytes : ByteArray} {maxL : Nat} {ret : Option FieldType}
    (w1 : (Jvm.Cond.methodLink own index y).before a0 Z = true) (w2 : (Jvm.Cond.declares y).before a0 Z = true) (w5 : (Jvm.Cond.selects C y y).before a0 Z = true) (w6 : (Jvm.Cond.instanceMethod y).before a0 Z = true) (w4 : (Jvm.Cond.code y bytes maxL ret).before a0 Z = true) (w3 : (Jvm.Cond.initialized y.cls).before a0 Z = true) (hy : y.cls ≠ "java/lang/invoke/MethodHandle" ∧ y.cls ≠ "java/lang/invoke/VarHandle")
    {rm : Room} {as : Array Value} {Q : Option Value → Heap → List Loc → Prop} (hM : own_C l Z y bytes maxL ret [] rm as h Q) {b : Addr} (hE : Exa Z h b C) {W : Nat}
    {g : JFrame} (hg : g.method = m) (hsize : g.locals.size = c.maxLocals) {argsL rest : List Value} (hlen : ∀ sig, parseMethodDescriptor y.desc = some sig → argsL.length = sig.parameters.length)
    (hst : g.stack = argsL.reverse ++ .ref b :: rest) (has : (.ref b :: argsL).toArray = as) (hW : 2 * g.monitorRoom + (rest.map fun v => v.category).sum ≤ W) (hd : decode c.code g.pc = .ok (.invokevirtual index, 3)) (eT : T.heap = h)
    (hf : rm.frames + 1 ≤ R.frames) (hl : W + (maxL + 11) + rm.locals ≤ R.locals) (hc : cells + rm.cells ≤ R.cells) (hs : slots + rm.slots ≤ R.slots) :
    ∃ v T' L, Stand p l e R s m args below meth c T' (locs ++ L) (cells + rm.cells) (slots + rm.slots) ∧ Q v T'.heap L ∧ ∀ t, Steps p.tables e below (T'.setTop { g with pc := g.pc + 3, stack := v.toList ++ rest }) t → Steps p.tables e below (T.setTop g) t :=
  own_backV X hx hZ hown w1 w2 w5 w6 w4 w3 hy (backOf (W := W) hM hZ w4 w3 hf hl) hE hg hsize hlen hst has hW hd eT hc hs
end OwnKit

section OwnKit2
variable {p : Program} {l : Launch} {e : Env} {R : Room} {s : State} {m : MethodId} {args : Array Value} {below : List Frame} {meth : Method} {c : Code} {T : State} {locs : List Loc} {cells slots : Nat} {Z : State} {a0 : Array Value} {h : Heap}
/-- a synchronized body's contract; a: the receiver -/
abbrev own_CS (l : Launch) (Z : State) (y : MethodName) (bytes : ByteArray) (ml : Nat) (ret : Option FieldType) (rm : Room) (as : Array Value) (a : Addr) (h0 : Heap) (Q : Option Value → Heap → List Loc → Prop) : Prop :=
  MetFree l y (head1 [Jvm.Cond.codeSync y bytes ml ret, Jvm.Cond.instanceMethod y] rm) (fun as' U => as' = as ∧ Z.Warmed39 U.vm ∧ U.heap = h0 ∧ ∃ cell : Cell, h0[a]? = some cell ∧ cell.enterable U.cur) (fun _ _ _ _ _ => True) (fun _ U o U' => ∃ v L, o = .returned v ∧ Q v U'.heap L ∧ FrameEnd U o U' L rm.cells rm.slots)
theorem own_keep_set {hh : Heap} {a : Addr} {cl : Cell} (hc : hh[a]? = some cl) (mo : Monitor) : Keep hh (hh.setIfInBounds a { cl with monitor := mo }) [a] := by
  refine ⟨by simp, fun b c hb ne => ?_, fun b c hb => ?_⟩
  · rw [Array.getElem?_setIfInBounds_ne (fun q => ne (by simp [q]))]; exact hb
  · obtain ⟨mo', q⟩ := (mon_set hc mo).2 b c hb
    exact ⟨_, q, rfl, rfl, rfl⟩
theorem own_bodyS {y : MethodName} {bytes : ByteArray} {ml : Nat} {ret : Option FieldType} {rm : Room} {as : Array Value} {a : Addr} {h0 : Heap} {Q : Option Value → Heap → List Loc → Prop} {ls : Array Slot}
    (hy : plainFor y = true) (has : as[0]? = some (.ref a)) (hef : ∀ m, entryFrameSync m as ml a = mkL a m 0 ls [])
    (H : ∀ (p : Program) (e : Env) (s : State) (m : MethodId) (below : List Frame) (meth : Method) (c : Code) (T : State) (cell : Cell), Z.Warmed39 s.vm → p.tables.exec = Jvm.exec → c.code = bytes → c.maxLocals = ml → s.vm.findClass y.cls = some m.cls → meth.name = y.name → meth.sig.returnType = ret → meth.locks = true →
      s.heap[a]? = some cell → cell.enterable s.cur → s.heap = h0 → Mon h0 T.heap → Keep h0 T.heap [a] →
      Stand p l e rm (s.setCell a (cell.withEntry s.cur)) m as below meth c T [] 0 0 → own_R p.tables e below (own_E s below Q rm.cells rm.slots) T (mkL a m 0 ls [])) :
    own_CS l Z y bytes ml ret rm as a h0 Q := by
  refine MetFree.of_bodySync hy (hisS (List.mem_cons_self ..)) (fun _ s _ ⟨h1, _, h2, cl, h3, h4⟩ => ⟨a, cl, by rw [h1]; exact has, by rw [h2]; exact h3, h4⟩) ?_
  intro p e s0 m args below meth c a' cell s₁ Bd hml0 hP _
  obtain ⟨rfl, hZ0, hh0, -⟩ := hP
  obtain rfl : a' = a := by have q := Bd.receiver; rw [has] at q; cases q; rfl
  have M0 : Mon h0 s₁.heap := by rw [← hh0, Bd.state]; exact mon_set Bd.object _
  have K0 : Keep h0 s₁.heap [a'] := by rw [← hh0, Bd.state]; exact own_keep_set Bd.object _
  obtain ⟨t, st, v, L, h1, h2, h3, h4⟩ := H p e s0 m below meth c s₁ cell hZ0 Bd.exec Bd.bytes hml0 (findClass_of_methodNamed Bd.named) (name_of_methodNamed Bd.named Bd.method).1 Bd.returns Bd.synchronized Bd.object Bd.enterable hh0 M0 K0 (Stand.of_bodySync Bd)
  refine ⟨t, _, ?_, h1, h2, v, L, rfl, h3, h4⟩
  rw [hef m]; exact st
theorem own_endS {Q : Option Value → Heap → List Loc → Prop} {C N : Nat} {F : JFrame} {a : Addr} {cell : Cell} (X : Stand p l e R (s.setCell a (cell.withEntry s.cur)) m args below meth c T locs cells slots) (hc : s.heap[a]? = some cell) (ho : cell.enterable s.cur) (hlk : meth.locks = true) (v : Option Value) (hv : meth.sig.returnType = none → v = none)
    (hst : ∀ V, (∀ (f : JFrame) (acts : List Action), f.method = m → f.locked = some a → f.entered = [] → (doReturn e (T.setTop f) acts v).1 = V) → Steps p.tables e below (T.setTop F) V)
    (hQ : ∀ h', Mon T.heap h' → Keep T.heap h' [a] → (Unt s.heap a → Unt h' a) → (locs = [] → cells = 0 → h' = s.heap) → Q v h' locs) (hcC : cells ≤ C) (hn : slots ≤ N) : own_R p.tables e below (own_E s below Q C N) T F := by
  obtain ⟨fs, cT, hcT, hr, hrun, hend, hW, hs⟩ := X.leaveSync hc ho hlk hv
  refine ⟨_, hst _ hr, v, locs, hrun, hend, hQ _ ?_ ?_ ?_ ?_, ⟨_, rfl⟩, hW, hs.mono hcC hn⟩
  · show Mon T.heap (T.heap.setIfInBounds a cT.left)
    unfold Cell.left
    split <;> exact mon_set hcT _
  · show Keep T.heap (T.heap.setIfInBounds a cT.left) [a]
    unfold Cell.left
    split <;> exact own_keep_set hcT _
  · rintro ⟨c1, u1, u2, u3⟩
    obtain ⟨c', q1, q2, -⟩ := hs.2.2.2.2.2 a c1 u1
    exact ⟨c', q1, by rw [q2]; exact u2, by rw [q2]; exact u3⟩
  · rintro rfl rfl
    exact Jvm.Free.SL1IndexOf.heapEq0 (s := s) (t := { (T.setCell a cT.left).setFrames fs with vm := s.vm }) hs
/-- the payer of a synchronized callee -/
theorem own_backOfS {y : MethodName} {bytes : ByteArray} {maxL : Nat} {ret : Option FieldType} {rm : Room} {W : Nat} {as : Array Value} {a : Addr} {Q : Option Value → Heap → List Loc → Prop}
    (hM : own_CS l Z y bytes maxL ret rm as a h Q) (hZ : Z.Warmed39 s.vm) (wc : (Jvm.Cond.codeSync y bytes maxL ret).before a0 Z = true) (wi : (Jvm.Cond.instanceMethod y).before a0 Z = true) (wz : (Jvm.Cond.initialized y.cls).before a0 Z = true) (N : Unt h a) (hf : rm.frames + 1 ≤ R.frames) (hl : W + (maxL + 11) + rm.locals ≤ R.locals) :
    own_B l R p e below s args y W as h rm.cells rm.slots Q :=
  Jvm.Free.XT.back_of_sync (bytes := bytes) (maxL := maxL) (ret := ret) (E := fun _ _ o t L k n => k = rm.cells ∧ n = rm.slots ∧ ∃ v, o = .returned v ∧ Q v t.heap L) hM hf hl
    (fun m meth c A as Y hp => have hU : Z.Warmed39 A.U.vm := wtrans hZ Y.warmed
      ⟨by show (Jvm.Cond.and _ (Jvm.Cond.and _ .tt)).before as A.U = true; rw [Cond.before_and, Cond.before_and, mv hU wc, mv hU wi]; rfl, mv hU wc, mv hU wz, hp.2.2.1, hp.2.2.2⟩)
    (fun m meth c A as g mk Y hp => ⟨hp.1, wtrans hZ Y.warmed, hp.2.1, by obtain ⟨cl, u1, -, u3⟩ := N; exact ⟨cl, u1, by rw [Cell.enterable, u3]; simp⟩⟩)
    (fun _ _ _ _ _ _ _ _ _ => trivial)
    (fun _ _ _ _ ⟨v, L, h1, h2, h3⟩ => ⟨L, _, _, h3, rfl, rfl, v, h1, h2⟩)
    (fun m meth c A as g mk v t L k n Y hp _ _ ⟨e1, e2, v', e3, e4⟩ => by cases e3; subst e1 e2; exact ⟨L, e4, rfl, rfl, rfl⟩)
theorem own_callVS (X : Stand p l e R s m args below meth c T locs cells slots) (hx : p.tables.exec = Jvm.exec) (hZ : Z.Warmed39 s.vm) {own C : String} (hown : s.vm.findClass own = some m.cls) {index : Nat} {y : MethodName} {bytes : ByteArray} {maxL : Nat} {ret : Option FieldType}
    (w1 : (Jvm.Cond.methodLink own index y).before a0 Z = true) (w2 : (Jvm.Cond.declares y).before a0 Z = true) (w5 : (Jvm.Cond.selects C y y).before a0 Z = true) (w6 : (Jvm.Cond.instanceMethod y).before a0 Z = true) (w4 : (Jvm.Cond.codeSync y bytes maxL ret).before a0 Z = true) (w3 : (Jvm.Cond.initialized y.cls).before a0 Z = true) (hy : y.cls ≠ "java/lang/invoke/MethodHandle" ∧ y.cls ≠ "java/lang/invoke/VarHandle")
    {rm : Room} {as : Array Value} {Q : Option Value → Heap → List Loc → Prop} {b : Addr} (hM : own_CS l Z y bytes maxL ret rm as b h Q) (hE : Exa Z h b C) (N : Unt h b) {W : Nat}
    {g : JFrame} (hg : g.method = m) (hsize : g.locals.size = c.maxLocals) {argsL rest : List Value} (hlen : ∀ sig, parseMethodDescriptor y.desc = some sig → argsL.length = sig.parameters.length)
    (hst : g.stack = argsL.reverse ++ .ref b :: rest) (has : (.ref b :: argsL).toArray = as) (hW : 2 * g.monitorRoom + (rest.map fun v => v.category).sum ≤ W) (hd : decode c.code g.pc = .ok (.invokevirtual index, 3)) (eT : T.heap = h)
    (hf : rm.frames + 1 ≤ R.frames) (hl : W + (maxL + 11) + rm.locals ≤ R.locals) (hc : cells + rm.cells ≤ R.cells) (hs : slots + rm.slots ≤ R.slots) :
    ∃ v T' L, Stand p l e R s m args below meth c T' (locs ++ L) (cells + rm.cells) (slots + rm.slots) ∧ Q v T'.heap L ∧ ∀ t, Steps p.tables e below (T'.setTop { g with pc := g.pc + 3, stack := v.toList ++ rest }) t → Steps p.tables e below (T.setTop g) t := by
  obtain ⟨cq, kq, qa, qb, qc⟩ := isOf hZ eT hE
  obtain ⟨v, vm1, ⟨T1, L1, k1, n1⟩, -, X1, ⟨Lc, hQ, l1, y1, z1⟩, st⟩ := X.virtualBack hx (y := y) (z := y) hown (mvT hZ w1) (mvT hZ w2) (notFace_of_selects (args := #[]) (mvT hZ w5)) (mvT hZ w5) (mvT hZ w6) hy (own_backOfS (W := W) hM hZ w4 w6 w3 N hf hl) qa qc hg hsize (Steps.refl _) (argsL := argsL) (rest := rest) hlen hst hW hd (fun _ _ => ⟨has, eT, hc, hs⟩)
  dsimp only [Pt.U, Pt.locs, Pt.cells, Pt.slots] at X1 l1 y1 z1 st hQ
  subst l1 y1 z1
  exact ⟨v, T1, Lc, X1, hQ, fun _ k => st.trans k⟩
theorem own_callP (X : Stand p l e R s m args below meth c T locs cells slots) (hx : p.tables.exec = Jvm.exec) (hZ : Z.Warmed39 s.vm) {own : String} (hown : s.vm.findClass own = some m.cls) {index : Nat} {y : MethodName} {bytes : ByteArray} {maxL : Nat} {ret : Option FieldType}
    (w1 : (Jvm.Cond.methodLink own index y).before a0 Z = true) (w2 : (Jvm.Cond.privateMethod y).before a0 Z = true) (w5 : (Jvm.Cond.selects y.cls y y).before a0 Z = true) (w6 : (Jvm.Cond.instanceMethod y).before a0 Z = true) (w4 : (Jvm.Cond.code y bytes maxL ret).before a0 Z = true) (w3 : (Jvm.Cond.initialized y.cls).before a0 Z = true) (hy : y.cls ≠ "java/lang/invoke/MethodHandle" ∧ y.cls ≠ "java/lang/invoke/VarHandle")
    {rm : Room} {as : Array Value} {Q : Option Value → Heap → List Loc → Prop} {b : Addr} (hM : own_C l Z y bytes maxL ret [] rm as h Q) {C : String} (hE : Exa Z h b C) {W : Nat}
    {g : JFrame} (hg : g.method = m) (hsize : g.locals.size = c.maxLocals) {argsL rest : List Value} (hlen : ∀ sig, parseMethodDescriptor y.desc = some sig → argsL.length = sig.parameters.length)
    (hst : g.stack = argsL.reverse ++ .ref b :: rest) (has : (.ref b :: argsL).toArray = as) (hW : 2 * g.monitorRoom + (rest.map fun v => v.category).sum ≤ W) (hd : decode c.code g.pc = .ok (.invokevirtual index, 3)) (eT : T.heap = h)
    (hf : rm.frames + 1 ≤ R.frames) (hl : W + (maxL + 11) + rm.locals ≤ R.locals) (hc : cells + rm.cells ≤ R.cells) (hs : slots + rm.slots ≤ R.slots) :
    ∃ v T' L, Stand p l e R s m args below meth c T' (locs ++ L) (cells + rm.cells) (slots + rm.slots) ∧ Q v T'.heap L ∧ ∀ t, Steps p.tables e below (T'.setTop { g with pc := g.pc + 3, stack := v.toList ++ rest }) t → Steps p.tables e below (T.setTop g) t := by
  have ns := Exa.nostat hE
  obtain ⟨cellB, kq, qa, -⟩ := hE
  obtain ⟨v, vm1, ⟨T1, L1, k1, n1⟩, -, X1, ⟨Lc, hQ, l1, y1, z1⟩, st⟩ := X.privateBack hx (y := y) hown (mvT hZ w1) (mvT hZ w6) (mvT hZ w5) (Cond.privateMethod_at (mvT (args := #[]) hZ w2)) (mvT hZ w4) hy (backOf (W := W) hM hZ w4 w3 hf hl) hg hsize (Steps.refl _) (a := b) (cell := cellB) (by rw [eT]; exact qa) (fun z hz => by have := ns _ qa; rw [hz] at this; cases this) (argsL := argsL) (rest := rest) hlen hst hW hd (fun _ _ => ⟨has, eT, hc, hs⟩)
  dsimp only [Pt.U, Pt.locs, Pt.cells, Pt.slots] at X1 l1 y1 z1 st hQ
  subst l1 y1 z1
  exact ⟨v, T1, Lc, X1, hQ, fun _ k => st.trans k⟩
/-- what the end of a body that may intern must meet -/
def own_EW (s : State) (below : List Frame) (Q : Option Value → Heap → List Loc → Prop) (C N : Nat) (t : State) : Prop := ∃ v L, t.status = .running ∧ Ended t below (.returned v) ∧ Q v t.heap L ∧ ReturnedEndW s (.returned v) t L C N
abbrev own_CW (l : Launch) (Z : State) (y : MethodName) (bytes : ByteArray) (ml : Nat) (ret : Option FieldType) (ws : List Jvm.Cond) (rm : Room) (as : Array Value) (h0 : Heap) (Q : Option Value → Heap → List Loc → Prop) : Prop :=
  MetFree l y (head1 (Jvm.Cond.code y bytes ml ret :: ws) rm) (fun a U => a = as ∧ Z.Warmed39 U.vm ∧ U.heap = h0) (fun _ _ _ _ _ => True) (fun _ U o U' => ∃ v L, o = .returned v ∧ Q v U'.heap L ∧ ReturnedEndW U o U' L rm.cells rm.slots)
theorem own_bodyW {y : MethodName} {bytes : ByteArray} {ml : Nat} {ret : Option FieldType} {ws : List Jvm.Cond} {rm : Room} {as : Array Value} {h0 : Heap} {Q : Option Value → Heap → List Loc → Prop} {ls : Array Slot}
    (hy : plainFor y = true) (hef : ∀ m, entryFrame m as ml = mkF m 0 ls [])
    (H : ∀ (p : Program) (e : Env) (s : State) (m : MethodId) (below : List Frame) (meth : Method) (c : Code) (T : State), Z.Warmed39 s.vm → p.tables.exec = Jvm.exec → c.code = bytes → c.maxLocals = ml → s.vm.findClass y.cls = some m.cls → meth.name = y.name → meth.sig.returnType = ret → meth.locks = false →
      Stand p l e rm s m as below meth c T [] 0 0 → T.heap = h0 → own_R p.tables e below (own_EW s below Q rm.cells rm.slots) T (mkF m 0 ls [])) :
    own_CW l Z y bytes ml ret ws rm as h0 Q := by
  refine MetFree.of_bodySF hy hisR ?_
  intro p e s m args below meth c s₁ Bd hml0 hP hK
  obtain ⟨rfl, hZ, hh⟩ := hP
  obtain ⟨t, st, v, L, h1, h2, h3, h4⟩ := H p e s m below meth c s₁ hZ Bd.exec Bd.bytes hml0 (findClass_of_methodNamed Bd.named) (name_of_methodNamed Bd.named Bd.method).1 Bd.returns Bd.notSynchronized (Stand.of_body Bd) (by rw [← hh, Bd.state]; rfl)
  exact ⟨t, _, castTop (hef m) st, h1, h2, v, L, rfl, h3, h4⟩
theorem own_endW {vm0 : Vm} {k0 : Nat} {Q : Option Value → Heap → List Loc → Prop} {C N : Nat} {F : JFrame} (X : Stand p l e R (s.setVm vm0) m args below meth c T locs cells slots) (hS : s.Since vm0 k0) (hk : k0 ≤ T.heap.size) (v : Option Value) (hv : meth.sig.returnType = none → v = none) (hlk : meth.locks = false)
    (hst : ∀ fs, (∀ (f : JFrame) (acts : List Action), f.method = m → f.locked = none → f.entered = [] → (doReturn e (T.setTop f) acts v).1 = T.setFrames fs) → Steps p.tables e below (T.setTop F) (T.setFrames fs))
    (hQ : Q v T.heap locs) (hc : cells ≤ C) (hn : slots ≤ N) : own_R p.tables e below (own_EW s below Q C N) T F := by
  obtain ⟨fs, hr, hrun, hended, ⟨q1, q2, q3, q4⟩⟩ := X.leaveW hS hk (v := v) hv hlk
  exact ⟨_, hst fs hr, v, locs, hrun, hended, hQ, q1, q2, q3, q4.mono hc hn⟩
/-- ldc of a String constant, cold or warm, of which only the reference matters -/
theorem own_ldc (X : Stand p l e R s m args below meth c T locs cells slots) (hx : p.tables.exec = Jvm.exec) (hZ : Z.Warmed39 s.vm) {own text : String} {index : Nat} (hown : s.vm.findClass own = some m.cls) (w : (Jvm.Cond.stringLink own index text).before a0 Z = true) (wS : ∀ a ∈ Bundle.stringAtoms, a.before a0 Z = true)
    (eT : T.heap = h) {g : JFrame} (hg : g.method = m) (hd : decode c.code g.pc = .ok (.ldc index, 2)) {n : Nat} (hn : 4 * text.toList.length ≤ n) (hbig : n ≤ 536870912) (hc : cells + 2 ≤ R.cells) (hl : slots + (n + 4) ≤ R.slots) :
    ∃ (a : Addr) (T' : State) (h' : Heap), Stand p l e R (s.setVm T'.vm) m args below meth c T' locs (cells + 2) (slots + (n + 4)) ∧ T'.heap = h' ∧ Ext h h' ∧ s.Since T'.vm h'.size ∧ Z.Warmed39 (s.setVm T'.vm).vm ∧ (s.setVm T'.vm).vm.findClass own = some m.cls ∧
      ∀ target, Steps p.tables e below (T'.setTop { g with pc := g.pc + 2, stack := .ref a :: g.stack }) target → Steps p.tables e below (T.setTop g) target := by
  obtain ⟨a, T', X', hS', -, hb, hI, st⟩ := X.ldcStringCold hx (own := own) hown (mvS hZ w) (fun d hd => by
    have q := wS d hd
    simp only [Bundle.stringAtoms, List.mem_cons, List.not_mem_nil, or_false] at hd
    rcases hd with rfl | rfl | rfl | rfl | rfl | rfl | rfl
    · exact mv hZ q
    · exact mv hZ q
    · exact mvA hZ q
    · exact mv hZ q
    · exact mv hZ q
    · exact mv hZ q
    · exact mv hZ q) hg hd hn hbig hc hl
  subst eT
  exact ⟨a, T', _, X', rfl, ext_of hb, hS', hZ.trans hS'.1, by rw [show (s.setVm T'.vm).vm = T'.vm from rfl, hS'.1.alike.findClass]; exact hown, st⟩
end OwnKit2

theorem d1_0 : decode jdk_29_method_65_code 0 = .ok (.iload_n 0, 1) := by decide +kernel
theorem d1_1 : decode jdk_29_method_65_code 1 = .ok (.iload_n 1, 1) := by decide +kernel
theorem d1_2 : decode jdk_29_method_65_code 2 = .ok (.if_icmp .lt 7, 3) := by decide +kernel
theorem d1_5 : decode jdk_29_method_65_code 5 = .ok (.iload_n 0, 1) := by decide +kernel
theorem d1_6 : decode jdk_29_method_65_code 6 = .ok (.goto 4, 3) := by decide +kernel
theorem d1_9 : decode jdk_29_method_65_code 9 = .ok (.iload_n 1, 1) := by decide +kernel
theorem d1_10 : decode jdk_29_method_65_code 10 = .ok (.ireturn, 1) := by decide +kernel

theorem pn_1 : plainFor (⟨"java/lang/Math", "max", "(II)I"⟩ : MethodName) = true := by first | exact plainFor_of_name (by first | (simp [plainName, overriddenIn]; done) | decide +kernel) | decide +kernel

theorem d2_0 : decode prog_23_method_1_code 0 = .ok (.aload_n 0, 1) := by decide +kernel
theorem d2_1 : decode prog_23_method_1_code 1 = .ok (.invokespecial 1, 3) := by decide +kernel
theorem d2_4 : decode prog_23_method_1_code 4 = .ok (.aload_n 0, 1) := by decide +kernel
theorem d2_5 : decode prog_23_method_1_code 5 = .ok (.new 7, 3) := by decide +kernel
theorem d2_8 : decode prog_23_method_1_code 8 = .ok (.dup, 1) := by decide +kernel
theorem d2_9 : decode prog_23_method_1_code 9 = .ok (.invokespecial 9, 3) := by decide +kernel
theorem d2_12 : decode prog_23_method_1_code 12 = .ok (.putfield 10, 3) := by decide +kernel
theorem d2_15 : decode prog_23_method_1_code 15 = .ok (.aload_n 0, 1) := by decide +kernel
theorem d2_16 : decode prog_23_method_1_code 16 = .ok (.iload_n 1, 1) := by decide +kernel
theorem d2_17 : decode prog_23_method_1_code 17 = .ok (.putfield 16, 3) := by decide +kernel
theorem d2_20 : decode prog_23_method_1_code 20 = .ok (.aload_n 0, 1) := by decide +kernel
theorem d2_21 : decode prog_23_method_1_code 21 = .ok (.aload_n 2, 1) := by decide +kernel
theorem d2_22 : decode prog_23_method_1_code 22 = .ok (.putfield 20, 3) := by decide +kernel
theorem d2_25 : decode prog_23_method_1_code 25 = .ok (.return_, 1) := by decide +kernel

theorem pn_2 : plainFor (⟨"com/example/keepd/keepd/http/Spool", "<init>", "(ILjava/lang/String;)V"⟩ : MethodName) = true := by first | exact plainFor_of_name (by first | (simp [plainName, overriddenIn]; done) | decide +kernel) | decide +kernel

theorem d3_0 : decode jdk_2038_method_1_code 0 = .ok (.aload_n 0, 1) := by decide +kernel
theorem d3_1 : decode jdk_2038_method_1_code 1 = .ok (.invokespecial 1, 3) := by decide +kernel
theorem d3_4 : decode jdk_2038_method_1_code 4 = .ok (.return_, 1) := by decide +kernel

theorem pn_3 : plainFor (⟨"java/io/OutputStream", "<init>", "()V"⟩ : MethodName) = true := by first | exact plainFor_of_name (by first | (simp [plainName, overriddenIn]; done) | decide +kernel) | decide +kernel

theorem d5_0 : decode jdk_2005_method_1_code 0 = .ok (.aload_n 0, 1) := by decide +kernel
theorem d5_1 : decode jdk_2005_method_1_code 1 = .ok (.bipush 32, 2) := by decide +kernel
theorem d5_3 : decode jdk_2005_method_1_code 3 = .ok (.invokespecial 1, 3) := by decide +kernel
theorem d5_6 : decode jdk_2005_method_1_code 6 = .ok (.return_, 1) := by decide +kernel

theorem pn_5 : plainFor (⟨"java/io/ByteArrayOutputStream", "<init>", "()V"⟩ : MethodName) = true := by first | exact plainFor_of_name (by first | (simp [plainName, overriddenIn]; done) | decide +kernel) | decide +kernel

theorem d6_0 : decode jdk_2005_method_2_code 0 = .ok (.aload_n 0, 1) := by decide +kernel
theorem d6_1 : decode jdk_2005_method_2_code 1 = .ok (.invokespecial 7, 3) := by decide +kernel
theorem d6_4 : decode jdk_2005_method_2_code 4 = .ok (.iload_n 1, 1) := by decide +kernel
theorem d6_5 : decode jdk_2005_method_2_code 5 = .ok (.ifCond .ge 30, 3) := by decide +kernel
theorem d6_8 : decode jdk_2005_method_2_code 8 = .ok (.new 12, 3) := by decide +kernel
theorem d6_11 : decode jdk_2005_method_2_code 11 = .ok (.dup, 1) := by decide +kernel
theorem d6_12 : decode jdk_2005_method_2_code 12 = .ok (.new 14, 3) := by decide +kernel
theorem d6_15 : decode jdk_2005_method_2_code 15 = .ok (.dup, 1) := by decide +kernel
theorem d6_16 : decode jdk_2005_method_2_code 16 = .ok (.invokespecial 16, 3) := by decide +kernel
theorem d6_19 : decode jdk_2005_method_2_code 19 = .ok (.ldc 17, 2) := by decide +kernel
theorem d6_21 : decode jdk_2005_method_2_code 21 = .ok (.invokevirtual 19, 3) := by decide +kernel
theorem d6_24 : decode jdk_2005_method_2_code 24 = .ok (.iload_n 1, 1) := by decide +kernel
theorem d6_25 : decode jdk_2005_method_2_code 25 = .ok (.invokevirtual 23, 3) := by decide +kernel
theorem d6_28 : decode jdk_2005_method_2_code 28 = .ok (.invokevirtual 26, 3) := by decide +kernel
theorem d6_31 : decode jdk_2005_method_2_code 31 = .ok (.invokespecial 30, 3) := by decide +kernel
theorem d6_34 : decode jdk_2005_method_2_code 34 = .ok (.athrow, 1) := by decide +kernel
theorem d6_35 : decode jdk_2005_method_2_code 35 = .ok (.aload_n 0, 1) := by decide +kernel
theorem d6_36 : decode jdk_2005_method_2_code 36 = .ok (.iload_n 1, 1) := by decide +kernel
theorem d6_37 : decode jdk_2005_method_2_code 37 = .ok (.newarray .byte, 2) := by decide +kernel
theorem d6_39 : decode jdk_2005_method_2_code 39 = .ok (.putfield 33, 3) := by decide +kernel
theorem d6_42 : decode jdk_2005_method_2_code 42 = .ok (.return_, 1) := by decide +kernel

theorem pn_6 : plainFor (⟨"java/io/ByteArrayOutputStream", "<init>", "(I)V"⟩ : MethodName) = true := by first | exact plainFor_of_name (by first | (simp [plainName, overriddenIn]; done) | decide +kernel) | decide +kernel

theorem d7_0 : decode prog_23_method_5_code 0 = .ok (.aload_n 0, 1) := by decide +kernel
theorem d7_1 : decode prog_23_method_5_code 1 = .ok (.getfield 28, 3) := by decide +kernel
theorem d7_4 : decode prog_23_method_5_code 4 = .ok (.ifnonnull 14, 3) := by decide +kernel
theorem d7_7 : decode prog_23_method_5_code 7 = .ok (.ldc2_w 72, 3) := by decide +kernel
theorem d7_10 : decode prog_23_method_5_code 10 = .ok (.aload_n 0, 1) := by decide +kernel
theorem d7_11 : decode prog_23_method_5_code 11 = .ok (.getfield 69, 3) := by decide +kernel
theorem d7_14 : decode prog_23_method_5_code 14 = .ok (.lmul, 1) := by decide +kernel
theorem d7_15 : decode prog_23_method_5_code 15 = .ok (.goto 4, 3) := by decide +kernel
theorem d7_18 : decode prog_23_method_5_code 18 = .ok (.lconst 0, 1) := by decide +kernel
theorem d7_19 : decode prog_23_method_5_code 19 = .ok (.lreturn, 1) := by decide +kernel

theorem pn_7 : plainFor (⟨"com/example/keepd/keepd/http/Spool", "heldBytes", "()J"⟩ : MethodName) = true := by first | exact plainFor_of_name (by first | (simp [plainName, overriddenIn]; done) | decide +kernel) | decide +kernel

theorem d8_0 : decode prog_23_method_3_code 0 = .ok (.aload_n 0, 1) := by decide +kernel
theorem d8_1 : decode prog_23_method_3_code 1 = .ok (.getfield 28, 3) := by decide +kernel
theorem d8_4 : decode prog_23_method_3_code 4 = .ok (.ifnonnull 81, 3) := by decide +kernel
theorem d8_7 : decode prog_23_method_3_code 7 = .ok (.aload_n 0, 1) := by decide +kernel
theorem d8_8 : decode prog_23_method_3_code 8 = .ok (.getfield 10, 3) := by decide +kernel
theorem d8_11 : decode prog_23_method_3_code 11 = .ok (.invokevirtual 32, 3) := by decide +kernel
theorem d8_14 : decode prog_23_method_3_code 14 = .ok (.iload_n 3, 1) := by decide +kernel
theorem d8_15 : decode prog_23_method_3_code 15 = .ok (.iadd, 1) := by decide +kernel
theorem d8_16 : decode prog_23_method_3_code 16 = .ok (.aload_n 0, 1) := by decide +kernel
theorem d8_17 : decode prog_23_method_3_code 17 = .ok (.getfield 16, 3) := by decide +kernel
theorem d8_20 : decode prog_23_method_3_code 20 = .ok (.if_icmp .le 65, 3) := by decide +kernel
theorem d8_23 : decode prog_23_method_3_code 23 = .ok (.aload_n 0, 1) := by decide +kernel
theorem d8_24 : decode prog_23_method_3_code 24 = .ok (.aload_n 0, 1) := by decide +kernel
theorem d8_25 : decode prog_23_method_3_code 25 = .ok (.getfield 20, 3) := by decide +kernel
theorem d8_28 : decode prog_23_method_3_code 28 = .ok (.ldc 36, 2) := by decide +kernel
theorem d8_30 : decode prog_23_method_3_code 30 = .ok (.iconst 0, 1) := by decide +kernel
theorem d8_31 : decode prog_23_method_3_code 31 = .ok (.anewarray 38, 3) := by decide +kernel
theorem d8_34 : decode prog_23_method_3_code 34 = .ok (.invokestatic 40, 3) := by decide +kernel
theorem d8_37 : decode prog_23_method_3_code 37 = .ok (.putfield 46, 3) := by decide +kernel
theorem d8_40 : decode prog_23_method_3_code 40 = .ok (.aload_n 0, 1) := by decide +kernel
theorem d8_41 : decode prog_23_method_3_code 41 = .ok (.new 50, 3) := by decide +kernel
theorem d8_44 : decode prog_23_method_3_code 44 = .ok (.dup, 1) := by decide +kernel
theorem d8_45 : decode prog_23_method_3_code 45 = .ok (.new 52, 3) := by decide +kernel
theorem d8_48 : decode prog_23_method_3_code 48 = .ok (.dup, 1) := by decide +kernel
theorem d8_49 : decode prog_23_method_3_code 49 = .ok (.aload_n 0, 1) := by decide +kernel
theorem d8_50 : decode prog_23_method_3_code 50 = .ok (.getfield 46, 3) := by decide +kernel
theorem d8_53 : decode prog_23_method_3_code 53 = .ok (.iconst 0, 1) := by decide +kernel
theorem d8_54 : decode prog_23_method_3_code 54 = .ok (.anewarray 54, 3) := by decide +kernel
theorem d8_57 : decode prog_23_method_3_code 57 = .ok (.invokestatic 56, 3) := by decide +kernel
theorem d8_60 : decode prog_23_method_3_code 60 = .ok (.invokespecial 60, 3) := by decide +kernel
theorem d8_63 : decode prog_23_method_3_code 63 = .ok (.invokespecial 63, 3) := by decide +kernel
theorem d8_66 : decode prog_23_method_3_code 66 = .ok (.putfield 28, 3) := by decide +kernel
theorem d8_69 : decode prog_23_method_3_code 69 = .ok (.aload_n 0, 1) := by decide +kernel
theorem d8_70 : decode prog_23_method_3_code 70 = .ok (.getfield 10, 3) := by decide +kernel
theorem d8_73 : decode prog_23_method_3_code 73 = .ok (.aload_n 0, 1) := by decide +kernel
theorem d8_74 : decode prog_23_method_3_code 74 = .ok (.getfield 28, 3) := by decide +kernel
theorem d8_77 : decode prog_23_method_3_code 77 = .ok (.invokevirtual 64, 3) := by decide +kernel
theorem d8_80 : decode prog_23_method_3_code 80 = .ok (.aload_n 0, 1) := by decide +kernel
theorem d8_81 : decode prog_23_method_3_code 81 = .ok (.aconst_null, 1) := by decide +kernel
theorem d8_82 : decode prog_23_method_3_code 82 = .ok (.putfield 10, 3) := by decide +kernel
theorem d8_85 : decode prog_23_method_3_code 85 = .ok (.aload_n 0, 1) := by decide +kernel
theorem d8_86 : decode prog_23_method_3_code 86 = .ok (.getfield 28, 3) := by decide +kernel
theorem d8_89 : decode prog_23_method_3_code 89 = .ok (.ifnonnull 16, 3) := by decide +kernel
theorem d8_92 : decode prog_23_method_3_code 92 = .ok (.aload_n 0, 1) := by decide +kernel
theorem d8_93 : decode prog_23_method_3_code 93 = .ok (.getfield 10, 3) := by decide +kernel
theorem d8_96 : decode prog_23_method_3_code 96 = .ok (.aload_n 1, 1) := by decide +kernel
theorem d8_97 : decode prog_23_method_3_code 97 = .ok (.iload_n 2, 1) := by decide +kernel
theorem d8_98 : decode prog_23_method_3_code 98 = .ok (.iload_n 3, 1) := by decide +kernel
theorem d8_99 : decode prog_23_method_3_code 99 = .ok (.invokevirtual 67, 3) := by decide +kernel
theorem d8_102 : decode prog_23_method_3_code 102 = .ok (.goto 13, 3) := by decide +kernel
theorem d8_105 : decode prog_23_method_3_code 105 = .ok (.aload_n 0, 1) := by decide +kernel
theorem d8_106 : decode prog_23_method_3_code 106 = .ok (.getfield 28, 3) := by decide +kernel
theorem d8_109 : decode prog_23_method_3_code 109 = .ok (.aload_n 1, 1) := by decide +kernel
theorem d8_110 : decode prog_23_method_3_code 110 = .ok (.iload_n 2, 1) := by decide +kernel
theorem d8_111 : decode prog_23_method_3_code 111 = .ok (.iload_n 3, 1) := by decide +kernel
theorem d8_112 : decode prog_23_method_3_code 112 = .ok (.invokevirtual 68, 3) := by decide +kernel
theorem d8_115 : decode prog_23_method_3_code 115 = .ok (.aload_n 0, 1) := by decide +kernel
theorem d8_116 : decode prog_23_method_3_code 116 = .ok (.dup, 1) := by decide +kernel
theorem d8_117 : decode prog_23_method_3_code 117 = .ok (.getfield 69, 3) := by decide +kernel
theorem d8_120 : decode prog_23_method_3_code 120 = .ok (.iload_n 3, 1) := by decide +kernel
theorem d8_121 : decode prog_23_method_3_code 121 = .ok (.i2l, 1) := by decide +kernel
theorem d8_122 : decode prog_23_method_3_code 122 = .ok (.ladd, 1) := by decide +kernel
theorem d8_123 : decode prog_23_method_3_code 123 = .ok (.putfield 69, 3) := by decide +kernel
theorem d8_126 : decode prog_23_method_3_code 126 = .ok (.return_, 1) := by decide +kernel

theorem pn_8 : plainFor (⟨"com/example/keepd/keepd/http/Spool", "write", "([BII)V"⟩ : MethodName) = true := by first | exact plainFor_of_name (by first | (simp [plainName, overriddenIn]; done) | decide +kernel) | decide +kernel

theorem d9_0 : decode jdk_31_method_19_code 0 = .ok (.iload_n 0, 1) := by decide +kernel
theorem d9_1 : decode jdk_31_method_19_code 1 = .ok (.iload_n 1, 1) := by decide +kernel
theorem d9_2 : decode jdk_31_method_19_code 2 = .ok (.iload_n 2, 1) := by decide +kernel
theorem d9_3 : decode jdk_31_method_19_code 3 = .ok (.aconst_null, 1) := by decide +kernel
theorem d9_4 : decode jdk_31_method_19_code 4 = .ok (.invokestatic 115, 3) := by decide +kernel
theorem d9_7 : decode jdk_31_method_19_code 7 = .ok (.ireturn, 1) := by decide +kernel

theorem pn_9 : plainFor (⟨"java/util/Objects", "checkFromIndexSize", "(III)I"⟩ : MethodName) = true := by first | exact plainFor_of_name (by first | (simp [plainName, overriddenIn]; done) | decide +kernel) | decide +kernel

theorem d10_0 : decode jdk_41_method_13_code 0 = .ok (.iload_n 2, 1) := by decide +kernel
theorem d10_1 : decode jdk_41_method_13_code 1 = .ok (.iload_n 0, 1) := by decide +kernel
theorem d10_2 : decode jdk_41_method_13_code 2 = .ok (.ior, 1) := by decide +kernel
theorem d10_3 : decode jdk_41_method_13_code 3 = .ok (.iload_n 1, 1) := by decide +kernel
theorem d10_4 : decode jdk_41_method_13_code 4 = .ok (.ior, 1) := by decide +kernel
theorem d10_5 : decode jdk_41_method_13_code 5 = .ok (.ifCond .lt 10, 3) := by decide +kernel
theorem d10_8 : decode jdk_41_method_13_code 8 = .ok (.iload_n 1, 1) := by decide +kernel
theorem d10_9 : decode jdk_41_method_13_code 9 = .ok (.iload_n 2, 1) := by decide +kernel
theorem d10_10 : decode jdk_41_method_13_code 10 = .ok (.iload_n 0, 1) := by decide +kernel
theorem d10_11 : decode jdk_41_method_13_code 11 = .ok (.isub, 1) := by decide +kernel
theorem d10_12 : decode jdk_41_method_13_code 12 = .ok (.if_icmp .le 11, 3) := by decide +kernel
theorem d10_15 : decode jdk_41_method_13_code 15 = .ok (.aload_n 3, 1) := by decide +kernel
theorem d10_16 : decode jdk_41_method_13_code 16 = .ok (.iload_n 0, 1) := by decide +kernel
theorem d10_17 : decode jdk_41_method_13_code 17 = .ok (.iload_n 1, 1) := by decide +kernel
theorem d10_18 : decode jdk_41_method_13_code 18 = .ok (.iload_n 2, 1) := by decide +kernel
theorem d10_19 : decode jdk_41_method_13_code 19 = .ok (.invokestatic 103, 3) := by decide +kernel
theorem d10_22 : decode jdk_41_method_13_code 22 = .ok (.athrow, 1) := by decide +kernel
theorem d10_23 : decode jdk_41_method_13_code 23 = .ok (.iload_n 0, 1) := by decide +kernel
theorem d10_24 : decode jdk_41_method_13_code 24 = .ok (.ireturn, 1) := by decide +kernel

theorem pn_10 : plainFor (⟨"jdk/internal/util/Preconditions", "checkFromIndexSize", "(IIILjava/util/function/BiFunction;)I"⟩ : MethodName) = true := by first | exact plainFor_of_name (by first | (simp [plainName, overriddenIn]; done) | decide +kernel) | decide +kernel

theorem d11_0 : decode jdk_2005_method_3_code 0 = .ok (.aload_n 0, 1) := by decide +kernel
theorem d11_1 : decode jdk_2005_method_3_code 1 = .ok (.getfield 33, 3) := by decide +kernel
theorem d11_4 : decode jdk_2005_method_3_code 4 = .ok (.arraylength, 1) := by decide +kernel
theorem d11_5 : decode jdk_2005_method_3_code 5 = .ok (.istore_n 2, 1) := by decide +kernel
theorem d11_6 : decode jdk_2005_method_3_code 6 = .ok (.iload_n 1, 1) := by decide +kernel
theorem d11_7 : decode jdk_2005_method_3_code 7 = .ok (.iload_n 2, 1) := by decide +kernel
theorem d11_8 : decode jdk_2005_method_3_code 8 = .ok (.isub, 1) := by decide +kernel
theorem d11_9 : decode jdk_2005_method_3_code 9 = .ok (.istore_n 3, 1) := by decide +kernel
theorem d11_10 : decode jdk_2005_method_3_code 10 = .ok (.iload_n 3, 1) := by decide +kernel
theorem d11_11 : decode jdk_2005_method_3_code 11 = .ok (.ifCond .le 20, 3) := by decide +kernel
theorem d11_14 : decode jdk_2005_method_3_code 14 = .ok (.aload_n 0, 1) := by decide +kernel
theorem d11_15 : decode jdk_2005_method_3_code 15 = .ok (.aload_n 0, 1) := by decide +kernel
theorem d11_16 : decode jdk_2005_method_3_code 16 = .ok (.getfield 33, 3) := by decide +kernel
theorem d11_19 : decode jdk_2005_method_3_code 19 = .ok (.iload_n 2, 1) := by decide +kernel
theorem d11_20 : decode jdk_2005_method_3_code 20 = .ok (.iload_n 3, 1) := by decide +kernel
theorem d11_21 : decode jdk_2005_method_3_code 21 = .ok (.iload_n 2, 1) := by decide +kernel
theorem d11_22 : decode jdk_2005_method_3_code 22 = .ok (.invokestatic 37, 3) := by decide +kernel
theorem d11_25 : decode jdk_2005_method_3_code 25 = .ok (.invokestatic 43, 3) := by decide +kernel
theorem d11_28 : decode jdk_2005_method_3_code 28 = .ok (.putfield 33, 3) := by decide +kernel
theorem d11_31 : decode jdk_2005_method_3_code 31 = .ok (.return_, 1) := by decide +kernel

theorem pn_11 : plainFor (⟨"java/io/ByteArrayOutputStream", "ensureCapacity", "(I)V"⟩ : MethodName) = true := by first | exact plainFor_of_name (by first | (simp [plainName, overriddenIn]; done) | decide +kernel) | decide +kernel

theorem d12_0 : decode prog_23_method_2_code 0 = .ok (.aload_n 0, 1) := by decide +kernel
theorem d12_1 : decode prog_23_method_2_code 1 = .ok (.iconst 1, 1) := by decide +kernel
theorem d12_2 : decode prog_23_method_2_code 2 = .ok (.newarray .byte, 2) := by decide +kernel
theorem d12_4 : decode prog_23_method_2_code 4 = .ok (.dup, 1) := by decide +kernel
theorem d12_5 : decode prog_23_method_2_code 5 = .ok (.iconst 0, 1) := by decide +kernel
theorem d12_6 : decode prog_23_method_2_code 6 = .ok (.iload_n 1, 1) := by decide +kernel
theorem d12_7 : decode prog_23_method_2_code 7 = .ok (.i2b, 1) := by decide +kernel
theorem d12_8 : decode prog_23_method_2_code 8 = .ok (.bastore, 1) := by decide +kernel
theorem d12_9 : decode prog_23_method_2_code 9 = .ok (.iconst 0, 1) := by decide +kernel
theorem d12_10 : decode prog_23_method_2_code 10 = .ok (.iconst 1, 1) := by decide +kernel
theorem d12_11 : decode prog_23_method_2_code 11 = .ok (.invokevirtual 24, 3) := by decide +kernel
theorem d12_14 : decode prog_23_method_2_code 14 = .ok (.return_, 1) := by decide +kernel

theorem pn_12 : plainFor (⟨"com/example/keepd/keepd/http/Spool", "write", "(I)V"⟩ : MethodName) = true := by first | exact plainFor_of_name (by first | (simp [plainName, overriddenIn]; done) | decide +kernel) | decide +kernel

theorem d51_0 : decode jdk_2005_method_10_code 0 = .ok (.aload_n 0, 1) := by decide +kernel
theorem d51_1 : decode jdk_2005_method_10_code 1 = .ok (.getfield 49, 3) := by decide +kernel
theorem d51_4 : decode jdk_2005_method_10_code 4 = .ok (.ireturn, 1) := by decide +kernel

theorem pn_51 : plainFor (⟨"java/io/ByteArrayOutputStream", "size", "()I"⟩ : MethodName) = true := by first | exact plainFor_of_name (by first | (simp [plainName, overriddenIn]; done) | decide +kernel) | decide +kernel

theorem d52_0 : decode jdk_2005_method_5_code 0 = .ok (.iload_n 2, 1) := by decide +kernel
theorem d52_1 : decode jdk_2005_method_5_code 1 = .ok (.iload_n 3, 1) := by decide +kernel
theorem d52_2 : decode jdk_2005_method_5_code 2 = .ok (.aload_n 1, 1) := by decide +kernel
theorem d52_3 : decode jdk_2005_method_5_code 3 = .ok (.arraylength, 1) := by decide +kernel
theorem d52_4 : decode jdk_2005_method_5_code 4 = .ok (.invokestatic 56, 3) := by decide +kernel
theorem d52_7 : decode jdk_2005_method_5_code 7 = .ok (.pop, 1) := by decide +kernel
theorem d52_8 : decode jdk_2005_method_5_code 8 = .ok (.aload_n 0, 1) := by decide +kernel
theorem d52_9 : decode jdk_2005_method_5_code 9 = .ok (.aload_n 0, 1) := by decide +kernel
theorem d52_10 : decode jdk_2005_method_5_code 10 = .ok (.getfield 49, 3) := by decide +kernel
theorem d52_13 : decode jdk_2005_method_5_code 13 = .ok (.iload_n 3, 1) := by decide +kernel
theorem d52_14 : decode jdk_2005_method_5_code 14 = .ok (.iadd, 1) := by decide +kernel
theorem d52_15 : decode jdk_2005_method_5_code 15 = .ok (.invokevirtual 53, 3) := by decide +kernel
theorem d52_18 : decode jdk_2005_method_5_code 18 = .ok (.aload_n 1, 1) := by decide +kernel
theorem d52_19 : decode jdk_2005_method_5_code 19 = .ok (.iload_n 2, 1) := by decide +kernel
theorem d52_20 : decode jdk_2005_method_5_code 20 = .ok (.aload_n 0, 1) := by decide +kernel
theorem d52_21 : decode jdk_2005_method_5_code 21 = .ok (.getfield 33, 3) := by decide +kernel
theorem d52_24 : decode jdk_2005_method_5_code 24 = .ok (.aload_n 0, 1) := by decide +kernel
theorem d52_25 : decode jdk_2005_method_5_code 25 = .ok (.getfield 49, 3) := by decide +kernel
theorem d52_28 : decode jdk_2005_method_5_code 28 = .ok (.iload_n 3, 1) := by decide +kernel
theorem d52_29 : decode jdk_2005_method_5_code 29 = .ok (.invokestatic 61, 3) := by decide +kernel
theorem d52_32 : decode jdk_2005_method_5_code 32 = .ok (.aload_n 0, 1) := by decide +kernel
theorem d52_33 : decode jdk_2005_method_5_code 33 = .ok (.dup, 1) := by decide +kernel
theorem d52_34 : decode jdk_2005_method_5_code 34 = .ok (.getfield 49, 3) := by decide +kernel
theorem d52_37 : decode jdk_2005_method_5_code 37 = .ok (.iload_n 3, 1) := by decide +kernel
theorem d52_38 : decode jdk_2005_method_5_code 38 = .ok (.iadd, 1) := by decide +kernel
theorem d52_39 : decode jdk_2005_method_5_code 39 = .ok (.putfield 49, 3) := by decide +kernel
theorem d52_42 : decode jdk_2005_method_5_code 42 = .ok (.return_, 1) := by decide +kernel

theorem pn_52 : plainFor (⟨"java/io/ByteArrayOutputStream", "write", "([BII)V"⟩ : MethodName) = true := by first | exact plainFor_of_name (by first | (simp [plainName, overriddenIn]; done) | decide +kernel) | decide +kernel

theorem pn_0 : plainFor x = true := by first | exact plainFor_of_name (by first | (simp [plainName, overriddenIn]; done) | decide +kernel) | decide +kernel

theorem pd__II_I : parseMethodDescriptor "(II)I" = some ⟨[.int, .int], some .int⟩ := by decide +kernel
theorem pd__ILjava_lang_String__V : parseMethodDescriptor "(ILjava/lang/String;)V" = some ⟨[.int, (.object "java/lang/String")], none⟩ := by decide +kernel
theorem pd___V : parseMethodDescriptor "()V" = some ⟨[], none⟩ := by decide +kernel
theorem pd__I_V : parseMethodDescriptor "(I)V" = some ⟨[.int], none⟩ := by decide +kernel
theorem pd___J : parseMethodDescriptor "()J" = some ⟨[], some .long⟩ := by decide +kernel
theorem pd___BII_V : parseMethodDescriptor "([BII)V" = some ⟨[(.array .byte), .int, .int], none⟩ := by decide +kernel
theorem pd__III_I : parseMethodDescriptor "(III)I" = some ⟨[.int, .int, .int], some .int⟩ := by decide +kernel
theorem pd__IIILjava_util_function_BiFunction__I : parseMethodDescriptor "(IIILjava/util/function/BiFunction;)I" = some ⟨[.int, .int, .int, (.object "java/util/function/BiFunction")], some .int⟩ := by decide +kernel
theorem pd___I : parseMethodDescriptor "()I" = some ⟨[], some .int⟩ := by decide +kernel

def own_Qr (r : Option Value) (h0 : Heap) (n0 : Nat) (v : Option Value) (h : Heap) (L : List Loc) : Prop := v = r ∧ Fr n0 L ∧ h = h0
def own_Q0 (n0 : Nat) (v : Option Value) (h : Heap) (L : List Loc) : Prop := v = some (.int 1) ∧ Fr n0 L
def own_max (a b : Int32) : Int32 := if a < b then b else a
theorem own_ofNat {n : Nat} (h : n < 2147483648) : (Int32.ofNat n).toInt = n := Int32.toInt_ofNat_of_lt h
theorem own_clamp {n : Nat} (h : n < 2147483648) : (Int32.ofNat n).toNatClampNeg = n := by
  have q := own_ofNat h
  simp only [Int32.toNatClampNeg]; omega
theorem own_add (a b : Nat) : Int32.ofNat a + Int32.ofNat b = Int32.ofNat (a + b) := (Int32.ofNat_add a b).symm
theorem own_ge0 {n : Nat} (h : n < 2147483648) : ¬ Int32.ofNat n < 0 := by
  rw [Int32.lt_iff_toInt_lt, own_ofNat h]; show ¬ (n : Int) < 0; omega
theorem own_sub {a b : Nat} (h : b ≤ a) (ha : a < 2147483648) : Int32.ofNat a - Int32.ofNat b = Int32.ofNat (a - b) := by
  have e : Int32.ofNat a = Int32.ofNat (a - b) + Int32.ofNat b := by rw [own_add]; congr 1; omega
  rw [e, Int32.add_sub_cancel]
theorem own_le {a b : Nat} (h : a ≤ b) (hb : b < 2147483648) : ¬ Int32.ofNat b < Int32.ofNat a := by
  rw [Int32.lt_iff_toInt_lt, own_ofNat hb, own_ofNat (by omega)]; omega
theorem own_or {a b c : Nat} (ha : a < 2147483648) (hb : b < 2147483648) (hc : c < 2147483648) : ¬ ((Int32.ofNat a ||| Int32.ofNat b) ||| Int32.ofNat c) < 0 := by
  have q1 := own_ofNat ha
  have q2 := own_ofNat hb
  have q3 := own_ofNat hc
  have r1 := (c_orS (Int32.ofNat a) (Int32.ofNat b)).1 (by omega) (by omega)
  have r2 := (c_orS (Int32.ofNat a ||| Int32.ofNat b) (Int32.ofNat c)).1 r1 (by omega)
  rw [Int32.lt_iff_toInt_lt]; show ¬ _ < (0 : Int); omega
theorem own_i2l {n : Nat} (h : n < 2147483648) : (Int32.ofNat n).toInt64 = Int64.ofNat n := by
  apply Int64.toInt_inj.mp
  rw [Int32.toInt_toInt64, own_ofNat h, Int64.toInt_ofNat_of_lt (by omega)]
theorem own_mask (x : Int32) : ∃ k, k ≤ 15 ∧ (x &&& (15 : Int32)) = Int32.ofNat k := by
  have q := c_and x 15 (by decide)
  have e15 : (15 : Int32).toInt = 15 := rfl
  refine ⟨(x &&& (15 : Int32)).toInt.toNat, by omega, ?_⟩
  apply Int32.toInt_inj.mp
  rw [own_ofNat (by omega)]; omega
theorem own_maxle {x : Int32} {n m : Nat} (h : m ≤ n) (hn : n < 2147483648) : ¬ own_max x (Int32.ofNat n) < Int32.ofNat m := by
  unfold own_max
  split
  · exact own_le h hn
  · rename_i q
    rw [Int32.lt_iff_toInt_lt] at q ⊢
    rw [own_ofNat hn] at q
    rw [own_ofNat (by omega)]; omega
theorem own_sub0 {n : Nat} (h : n ≤ 32) : ¬ (0 : Int32) < (Int32.ofNat n - Int32.ofNat 32) := by
  have q1 := own_ofNat (n := n) (by omega)
  have q2 : (Int32.ofNat 32).toInt = 32 := rfl
  rw [Int32.lt_iff_toInt_lt, Int32.toInt_sub, q1, q2, Int.bmod_eq_of_le (by omega) (by omega)]
  show ¬ (0 : Int) < _
  omega
theorem own_need0 (a b : Nat) : (Int32.ofNat a + Int32.ofNat b) + (0 : Int32) = Int32.ofNat (a + b + 0) := by
  rw [show (0 : Int32) = Int32.ofNat 0 from rfl, own_add, own_add]
theorem own_need1 (a b : Nat) : (Int32.ofNat a + Int32.ofNat b) + (1 : Int32) = Int32.ofNat (a + b + 1) := by
  rw [show (1 : Int32) = Int32.ofNat 1 from rfl, own_add, own_add]
theorem own_16 {k : Nat} (h : k ≤ 16) : (16 : Int32) - Int32.ofNat k = Int32.ofNat (16 - k) := by
  rw [show (16 : Int32) = Int32.ofNat 16 from rfl, own_sub h (by omega)]
theorem own_lc {x y : Int64} (h : x = y) : lcmpW x y = 0 := by subst h; simp [lcmpW]
def own_M (Z : State) (h : Heap) (bm ab : Addr) (n : Nat) : Prop := Exa Z h bm "java/io/ByteArrayOutputStream" ∧ Unt h bm ∧ Fld Z h bm "java/io/ByteArrayOutputStream" "buf" "[B" (.ref ab) ∧ Fld Z h bm "java/io/ByteArrayOutputStream" "count" "I" (.int (Int32.ofNat n)) ∧ ab ≠ bm ∧ ∃ (k : ClassId) (vs : List Value), vs.length = 32 ∧ Arv Z h ab k .byte (Int32.ofNat 32) vs (.int 0)
theorem own_M.keep {Z : State} {h h' : Heap} {bm ab : Addr} {n : Nat} {ws : List Addr} (M : own_M Z h bm ab n) (K : Keep h h' ws) (q1 : bm ∉ ws) (q2 : ab ∉ ws) : own_M Z h' bm ab n := by
  obtain ⟨E, U, F, G, ne, k, vs, hl, A⟩ := M
  exact ⟨E.keep K, U.keep K q1, F.keep K q1, G.keep K q1, ne, k, vs, hl, A.keep K q2⟩
theorem own_M.ext {Z : State} {h h' : Heap} {bm ab : Addr} {n : Nat} (M : own_M Z h bm ab n) (K : Ext h h') : own_M Z h' bm ab n := by
  obtain ⟨E, U, F, G, ne, k, vs, hl, A⟩ := M
  exact ⟨E.ext K, U.ext K, F.ext K, G.ext K, ne, k, vs, hl, A.ext K⟩
def own_P (Z : State) (h : Heap) (sp bm ab : Addr) (cap : Int32) (n : Nat) : Prop := Exa Z h sp "com/example/keepd/keepd/http/Spool" ∧ Fld Z h sp "com/example/keepd/keepd/http/Spool" "file" "Ljava/io/OutputStream;" .null ∧ Fld Z h sp "com/example/keepd/keepd/http/Spool" "memory" "Ljava/io/ByteArrayOutputStream;" (.ref bm) ∧ Fld Z h sp "com/example/keepd/keepd/http/Spool" "inMemoryBytes" "I" (.int cap) ∧ Fld Z h sp "com/example/keepd/keepd/http/Spool" "size" "J" (.long (Int64.ofNat n)) ∧ own_M Z h bm ab n ∧ bm ≠ sp ∧ ab ≠ sp
theorem own_P.ext {Z : State} {h h' : Heap} {sp bm ab : Addr} {cap : Int32} {n : Nat} (M : own_P Z h sp bm ab cap n) (K : Ext h h') : own_P Z h' sp bm ab cap n := by
  obtain ⟨E, F1, F2, F3, F4, M, ne⟩ := M
  exact ⟨E.ext K, F1.ext K, F2.ext K, F3.ext K, F4.ext K, M.ext K, ne⟩
theorem own_ne {a b : Addr} (h : @LT.lt Nat instLTNat a b) : b ≠ a := Nat.ne_of_gt h
theorem own_ni {a b : Addr} (h : a ≠ b) : a ∉ [b] := fun q => h (List.mem_singleton.mp q)
set_option maxRecDepth 65536 in
set_option maxHeartbeats 4000000 in
theorem rmMax (l : Launch) (Z : State) (a0 : Array Value) (hw : ∀ d ∈ tables_1, d.before a0 Z = true) (ws : List Jvm.Cond) (h0 : Heap) (n0 : Nat) (a b : Int32) :
    own_C l Z (⟨"java/lang/Math", "max", "(II)I"⟩ : MethodName) jdk_29_method_65_code 2 (some .int) ws ({ frames := 0, cells := 0, slots := 0, locals := 0 } : Room) #[(.int a), (.int b)] h0 (own_Qr (some (.int (own_max a b))) h0 n0) := by
  refine own_body (ls := #[.val (.int a), .val (.int b)]) pn_1 (fun m => by first | (simp [entryFrame, mkF, argsToLocals, Value.category]; done) | rfl) ?_
  intro p e s m below meth c T0 hZ hx hby hml hown hnm hret hlk X0 e0
  replace hml : c.maxLocals = 2 := hml
  have N0 := Fr.nil n0
  refine own_go (fun _ => XS.iloadN X0.here hx rfl (hb hby d1_0) rfl ) ?_
  show own_R p.tables e below _ T0 (mkF m 1 #[.val (.int a), .val (.int b)] [(.int a)])
  refine own_go (fun _ => XS.iloadN X0.here hx rfl (hb hby d1_1) rfl ) ?_
  show own_R p.tables e below _ T0 (mkF m 2 #[.val (.int a), .val (.int b)] [(.int b), (.int a)])
  by_cases hlt : a < b
  · show own_R p.tables e below _ T0 (mkF m 2 #[.val (.int a), .val (.int b)] [(.int b), (.int a)])
    refine own_go (fun _ => XS.icmpYes X0.here hx rfl (pc0 := 2) (pc' := 9) rfl (hb hby d1_2) rfl (tlt hlt).1 (by decide) (by decide)) ?_
    show own_R p.tables e below _ T0 (mkF m 9 #[.val (.int a), .val (.int b)] [])
    refine own_go (fun _ => XS.iloadN X0.here hx rfl (hb hby d1_9) rfl ) ?_
    show own_R p.tables e below _ T0 (mkF m 10 #[.val (.int a), .val (.int b)] [(.int b)])
    exact own_end X0 (some (.int b)) (fun h => by rw [hret] at h; cases h) hlk (fun fs hr => own_retI X0 hx hret (hb hby d1_10) hr) ⟨by rw [own_max, if_pos hlt], N0, e0⟩ (by decide) (by decide)
  · show own_R p.tables e below _ T0 (mkF m 2 #[.val (.int a), .val (.int b)] [(.int b), (.int a)])
    refine own_go (fun _ => XS.icmpNo X0.here hx rfl (hb hby d1_2) rfl (flt hlt).1) ?_
    show own_R p.tables e below _ T0 (mkF m 5 #[.val (.int a), .val (.int b)] [])
    refine own_go (fun _ => XS.iloadN X0.here hx rfl (hb hby d1_5) rfl ) ?_
    show own_R p.tables e below _ T0 (mkF m 6 #[.val (.int a), .val (.int b)] [(.int a)])
    refine own_go (fun _ => XS.goto X0.here hx rfl (pc0 := 6) (pc' := 10) rfl (hb hby d1_6) (by decide) (by decide)) ?_
    show own_R p.tables e below _ T0 (mkF m 10 #[.val (.int a), .val (.int b)] [(.int a)])
    exact own_end X0 (some (.int a)) (fun h => by rw [hret] at h; cases h) hlk (fun fs hr => own_retI X0 hx hret (hb hby d1_10) hr) ⟨by rw [own_max, if_neg hlt], N0, e0⟩ (by decide) (by decide)
set_option maxRecDepth 65536 in
set_option maxHeartbeats 4000000 in
theorem rmOS (l : Launch) (Z : State) (a0 : Array Value) (hw : ∀ d ∈ tables_1, d.before a0 Z = true) (ws : List Jvm.Cond) (h0 : Heap) (n0 : Nat) (a : Addr) :
    own_C l Z (⟨"java/io/OutputStream", "<init>", "()V"⟩ : MethodName) jdk_2038_method_1_code 1 none ws ({ frames := 1, cells := 0, slots := 0, locals := 12 } : Room) #[(.ref a)] h0 (own_Qr none h0 n0) := by
  refine own_body (ls := #[.val (.ref a)]) pn_3 (fun m => by first | (simp [entryFrame, mkF, argsToLocals, Value.category]; done) | rfl) ?_
  intro p e s m below meth c T0 hZ hx hby hml hown hnm hret hlk X0 e0
  replace hml : c.maxLocals = 1 := hml
  have N0 := Fr.nil n0
  refine own_go (fun _ => XS.aloadN X0.here hx rfl (hb hby d3_0) rfl rfl) ?_
  show own_R p.tables e below _ T0 (mkF m 1 #[.val (.ref a)] [(.ref a)])
  obtain ⟨T1, X1, e1, st1⟩ := initO X0 hx hZ hown (hw _ (List.mem_of_getElem? (i := 24) rfl)) (hw _ (List.mem_of_getElem? (i := 25) rfl)) (hw _ (List.mem_of_getElem? (i := 26) rfl)) e0 (g := (mkF m 1 #[.val (.ref a)] [(.ref a)])) rfl (by rw [hml]; rfl) rfl (hb hby d3_1) (by decide) (W := 0) (by show 2 * 0 + _ ≤ _; exact Nat.le_of_eq rfl) (by decide)
  refine own_go st1 ?_
  show own_R p.tables e below _ T1 (mkF m 4 #[.val (.ref a)] [])
  exact own_end X1 none (fun _ => rfl) hlk (fun fs hr => X1.returnOut hx hret (hb hby d3_4) hr) ⟨rfl, N0, e1⟩ (by decide) (by decide)
def own_Qb (Z : State) (a : Addr) (h0 : Heap) (n0 : Nat) (v : Option Value) (h : Heap) (L : List Loc) : Prop := v = none ∧ Fr n0 L ∧ Keep h0 h [a] ∧ ∃ ab, h0.size ≤ ab ∧ own_M Z h a ab 0
set_option maxRecDepth 65536 in
set_option maxHeartbeats 4000000 in
theorem rmB2 (l : Launch) (Z : State) (a0 : Array Value) (hw : ∀ d ∈ tables_1, d.before a0 Z = true) (ws : List Jvm.Cond) (h0 : Heap) (n0 : Nat) (a : Addr) (g9 : n0 ≤ a) (Z0 : n0 ≤ h0.size) (E : Exa Z h0 a "java/io/ByteArrayOutputStream") (U : Unt h0 a) (Fb : Fld Z h0 a "java/io/ByteArrayOutputStream" "buf" "[B" .null) (Fc : Fld Z h0 a "java/io/ByteArrayOutputStream" "count" "I" (.int 0)) :
    own_C l Z (⟨"java/io/ByteArrayOutputStream", "<init>", "(I)V"⟩ : MethodName) jdk_2005_method_2_code 2 none ws ({ frames := 2, cells := 1, slots := 32, locals := 25 } : Room) #[(.ref a), (.int (32 : Int32))] h0 (own_Qb Z a h0 n0) := by
  refine own_body (ls := #[.val (.ref a), .val (.int (32 : Int32))]) pn_6 (fun m => by first | (simp [entryFrame, mkF, argsToLocals, Value.category]; done) | rfl) ?_
  intro p e s m below meth c T0 hZ hx hby hml hown hnm hret hlk X0 e0
  replace hml : c.maxLocals = 2 := hml
  have N0 := Fr.nil n0
  refine own_go (fun _ => XS.aloadN X0.here hx rfl (hb hby d6_0) rfl rfl) ?_
  show own_R p.tables e below _ T0 (mkF m 1 #[.val (.ref a), .val (.int (32 : Int32))] [(.ref a)])
  obtain ⟨v1, T1, L1, X1, Q1, st1⟩ := own_callI X0 hx hZ hown (y := (⟨"java/io/OutputStream", "<init>", "()V"⟩ : MethodName)) rfl (hw _ (List.mem_of_getElem? (i := 37) rfl)) (hw _ (List.mem_of_getElem? (i := 20) rfl)) (hw _ (List.mem_of_getElem? (i := 23) rfl)) (hw _ (List.mem_of_getElem? (i := 22) rfl)) (by decide) (rmOS l Z a0 hw [] h0 n0 a) (W := 0) (g := (mkF m 1 #[.val (.ref a), .val (.int (32 : Int32))] [(.ref a)])) rfl (by rw [hml]; rfl) (a := a) (argsL := []) (rest := []) (lenOf pd___V rfl) rfl rfl (by show 2 * 0 + _ ≤ _; exact Nat.le_of_eq rfl) (hb hby d6_1) e0 (by decide) (by decide) (by decide) (by decide)
  obtain ⟨rfl, N1q, e1⟩ := Q1
  have N1 := Fr.app N0 N1q
  refine own_go st1 ?_
  show own_R p.tables e below _ T1 (mkF m 4 #[.val (.ref a), .val (.int (32 : Int32))] [])
  refine own_go (fun _ => XS.iloadN X1.here hx rfl (hb hby d6_4) rfl ) ?_
  show own_R p.tables e below _ T1 (mkF m 5 #[.val (.ref a), .val (.int (32 : Int32))] [(.int (32 : Int32))])
  refine own_go (fun _ => XS.ifYes X1.here hx rfl (pc0 := 5) (pc' := 35) rfl (hb hby d6_5) rfl ((if0 _ _).trans (flt (by decide : ¬ ((32 : Int32) < (0 : Int32)))).2.1) (by decide) (by decide)) ?_
  show own_R p.tables e below _ T1 (mkF m 35 #[.val (.ref a), .val (.int (32 : Int32))] [])
  refine own_go (fun _ => XS.aloadN X1.here hx rfl (hb hby d6_35) rfl rfl) ?_
  show own_R p.tables e below _ T1 (mkF m 36 #[.val (.ref a), .val (.int (32 : Int32))] [(.ref a)])
  refine own_go (fun _ => XS.iloadN X1.here hx rfl (hb hby d6_36) rfl ) ?_
  show own_R p.tables e below _ T1 (mkF m 37 #[.val (.ref a), .val (.int (32 : Int32))] [(.int (32 : Int32)), (.ref a)])
  obtain ⟨T2, h2, k2, X2, e2, E2, A2, st2⟩ := newP X1 hx hZ (hw _ (List.mem_of_getElem? (i := 5) rfl)) e1 (g := (mkF m 37 #[.val (.ref a), .val (.int (32 : Int32))] [(.int (32 : Int32)), (.ref a)])) rfl (hb hby d6_37) rfl (by decide) (cap := 32) (by decide) (by decide) (by decide) (by decide)
  obtain ⟨a2, g2⟩ : ∃ z, z = h0.size := ⟨_, rfl⟩
  rw [← g2] at A2 st2
  refine own_go st2 ?_
  show own_R p.tables e below _ T2 (mkF m 39 #[.val (.ref a), .val (.int (32 : Int32))] [(.ref a2), (.ref a)])
  obtain ⟨T3, h3, X3, e3, W3, st3⟩ := putF X2 hx hZ hown (host := "") (Or.inl (hw _ (List.mem_of_getElem? (i := 39) rfl))) Via.refl e2 (Fb.ext E2) (E.ext E2) (Or.inl (hw _ (List.mem_of_getElem? (i := 40) rfl))) (hw _ (List.mem_of_getElem? (i := 28) rfl)) (ty := (.array .byte)) (by decide) rfl rfl (g := (mkF m 39 #[.val (.ref a), .val (.int (32 : Int32))] [(.ref a2), (.ref a)])) rfl rfl (hb hby d6_39)
  refine own_go st3 ?_
  show own_R p.tables e below _ T3 (mkF m 42 #[.val (.ref a), .val (.int (32 : Int32))] [])
  have N3 := Fr.snoc X3 N1 g9
  have ne : a2 ≠ a := own_ne (Nat.lt_of_lt_of_le E.lt (Nat.le_of_eq g2.symm))
  have A3 : Arv Z h3 a2 k2 .byte (Int32.ofNat 32) (List.replicate 32 (.int 0)) (.int 0) := ((Arv.new A2 (by decide)).other W3 ne).pad (fun i => by rw [List.getD_eq_getElem?_getD, List.getElem?_replicate]; split <;> rfl)
  exact own_end X3 none (fun _ => rfl) hlk (fun fs hr => X3.returnOut hx hret (hb hby d6_42) hr) (by show own_Qb Z a h0 n0 _ T3.heap _; rw [e3]; exact ⟨rfl, N3, ((Keep.refl h0 [a]).ext E2).wr W3 (Or.inl (List.mem_singleton.mpr rfl)), a2, Nat.le_of_eq g2.symm, (E.ext E2).wr W3, (U.ext E2).wr W3, (Fb.ext E2).same W3, (Fc.ext E2).other W3 (Or.inr (slot_ne (Or.inl (hw _ (List.mem_of_getElem? (i := 68) rfl))) (Or.inl (hw _ (List.mem_of_getElem? (i := 40) rfl))) (by decide) (t := .int) (t' := (.array .byte)) (by decide) (by decide))), ne, k2, _, by simp, A3⟩) (by decide) (by decide)
set_option maxRecDepth 65536 in
set_option maxHeartbeats 4000000 in
theorem rmB1 (l : Launch) (Z : State) (a0 : Array Value) (hw : ∀ d ∈ tables_1, d.before a0 Z = true) (ws : List Jvm.Cond) (h0 : Heap) (n0 : Nat) (a : Addr) (g9 : n0 ≤ a) (Z0 : n0 ≤ h0.size) (E : Exa Z h0 a "java/io/ByteArrayOutputStream") (U : Unt h0 a) (Fb : Fld Z h0 a "java/io/ByteArrayOutputStream" "buf" "[B" .null) (Fc : Fld Z h0 a "java/io/ByteArrayOutputStream" "count" "I" (.int 0)) :
    own_C l Z (⟨"java/io/ByteArrayOutputStream", "<init>", "()V"⟩ : MethodName) jdk_2005_method_1_code 1 none ws ({ frames := 3, cells := 1, slots := 32, locals := 40 } : Room) #[(.ref a)] h0 (own_Qb Z a h0 n0) := by
  refine own_body (ls := #[.val (.ref a)]) pn_5 (fun m => by first | (simp [entryFrame, mkF, argsToLocals, Value.category]; done) | rfl) ?_
  intro p e s m below meth c T0 hZ hx hby hml hown hnm hret hlk X0 e0
  replace hml : c.maxLocals = 1 := hml
  have N0 := Fr.nil n0
  refine own_go (fun _ => XS.aloadN X0.here hx rfl (hb hby d5_0) rfl rfl) ?_
  show own_R p.tables e below _ T0 (mkF m 1 #[.val (.ref a)] [(.ref a)])
  refine own_go (fun _ => XS.bipush X0.here hx rfl (hb hby d5_1)) ?_
  show own_R p.tables e below _ T0 (mkF m 3 #[.val (.ref a)] [(.int (32 : Int32)), (.ref a)])
  obtain ⟨v1, T1, L1, X1, Q1, st1⟩ := own_callI X0 hx hZ hown (y := (⟨"java/io/ByteArrayOutputStream", "<init>", "(I)V"⟩ : MethodName)) rfl (hw _ (List.mem_of_getElem? (i := 33) rfl)) (hw _ (List.mem_of_getElem? (i := 34) rfl)) (hw _ (List.mem_of_getElem? (i := 36) rfl)) (hw _ (List.mem_of_getElem? (i := 29) rfl)) (by decide) (rmB2 l Z a0 hw [] h0 n0 a g9 Z0 E U Fb Fc) (W := 0) (g := (mkF m 3 #[.val (.ref a)] [(.int (32 : Int32)), (.ref a)])) rfl (by rw [hml]; rfl) (a := a) (argsL := [(.int (32 : Int32))]) (rest := []) (lenOf pd__I_V rfl) rfl rfl (by show 2 * 0 + _ ≤ _; exact Nat.le_of_eq rfl) (hb hby d5_3) e0 (by decide) (by decide) (by decide) (by decide)
  obtain ⟨rfl, N1q, q1⟩ := Q1
  have N1 := Fr.app N0 N1q
  refine own_go st1 ?_
  show own_R p.tables e below _ T1 (mkF m 6 #[.val (.ref a)] [])
  exact own_end X1 none (fun _ => rfl) hlk (fun fs hr => X1.returnOut hx hret (hb hby d5_6) hr) ⟨rfl, N1, q1⟩ (by decide) (by decide)
def own_Qs (Z : State) (a : Addr) (cap : Int32) (h0 : Heap) (n0 : Nat) (v : Option Value) (h : Heap) (L : List Loc) : Prop := v = none ∧ Fr n0 L ∧ Keep h0 h [a] ∧ ∃ bm ab, h0.size ≤ bm ∧ h0.size ≤ ab ∧ own_P Z h a bm ab cap 0
set_option maxRecDepth 65536 in
set_option maxHeartbeats 4000000 in
theorem rmSp (l : Launch) (Z : State) (a0 : Array Value) (hw : ∀ d ∈ tables_1, d.before a0 Z = true) (ws : List Jvm.Cond) (h0 : Heap) (n0 : Nat) (a sr : Addr) (cap : Int32) (g9 : n0 ≤ a) (Z0 : n0 ≤ h0.size) (E : Exa Z h0 a "com/example/keepd/keepd/http/Spool") (Ffile : Fld Z h0 a "com/example/keepd/keepd/http/Spool" "file" "Ljava/io/OutputStream;" .null) (Fmemory : Fld Z h0 a "com/example/keepd/keepd/http/Spool" "memory" "Ljava/io/ByteArrayOutputStream;" .null) (FinMemoryBytes : Fld Z h0 a "com/example/keepd/keepd/http/Spool" "inMemoryBytes" "I" (.int 0)) (FfilePrefix : Fld Z h0 a "com/example/keepd/keepd/http/Spool" "filePrefix" "Ljava/lang/String;" .null) (Fsize : Fld Z h0 a "com/example/keepd/keepd/http/Spool" "size" "J" (.long 0)) :
    own_C l Z (⟨"com/example/keepd/keepd/http/Spool", "<init>", "(ILjava/lang/String;)V"⟩ : MethodName) prog_23_method_1_code 3 none ws ({ frames := 4, cells := 2, slots := 34, locals := 60 } : Room) #[(.ref a), (.int cap), (.ref sr)] h0 (own_Qs Z a cap h0 n0) := by
  refine own_body (ls := #[.val (.ref a), .val (.int cap), .val (.ref sr)]) pn_2 (fun m => by first | (simp [entryFrame, mkF, argsToLocals, Value.category]; done) | rfl) ?_
  intro p e s m below meth c T0 hZ hx hby hml hown hnm hret hlk X0 e0
  replace hml : c.maxLocals = 3 := hml
  have N0 := Fr.nil n0
  refine own_go (fun _ => XS.aloadN X0.here hx rfl (hb hby d2_0) rfl rfl) ?_
  show own_R p.tables e below _ T0 (mkF m 1 #[.val (.ref a), .val (.int cap), .val (.ref sr)] [(.ref a)])
  obtain ⟨v1, T1, L1, X1, Q1, st1⟩ := own_callI X0 hx hZ hown (y := (⟨"java/io/OutputStream", "<init>", "()V"⟩ : MethodName)) rfl (hw _ (List.mem_of_getElem? (i := 19) rfl)) (hw _ (List.mem_of_getElem? (i := 20) rfl)) (hw _ (List.mem_of_getElem? (i := 23) rfl)) (hw _ (List.mem_of_getElem? (i := 22) rfl)) (by decide) (rmOS l Z a0 hw [] h0 n0 a) (W := 0) (g := (mkF m 1 #[.val (.ref a), .val (.int cap), .val (.ref sr)] [(.ref a)])) rfl (by rw [hml]; rfl) (a := a) (argsL := []) (rest := []) (lenOf pd___V rfl) rfl rfl (by show 2 * 0 + _ ≤ _; exact Nat.le_of_eq rfl) (hb hby d2_1) e0 (by decide) (by decide) (by decide) (by decide)
  obtain ⟨rfl, N1q, e1⟩ := Q1
  have N1 := Fr.app N0 N1q
  refine own_go st1 ?_
  show own_R p.tables e below _ T1 (mkF m 4 #[.val (.ref a), .val (.int cap), .val (.ref sr)] [])
  refine own_go (fun _ => XS.aloadN X1.here hx rfl (hb hby d2_4) rfl rfl) ?_
  show own_R p.tables e below _ T1 (mkF m 5 #[.val (.ref a), .val (.int cap), .val (.ref sr)] [(.ref a)])
  obtain ⟨T2, h2, X2, e2, E2, A2, D2, U2, st2⟩ := newO X1 hx hZ hown (hw _ (List.mem_of_getElem? (i := 27) rfl)) (hw _ (List.mem_of_getElem? (i := 28) rfl)) (hw _ (List.mem_of_getElem? (i := 29) rfl)) e1 (g := (mkF m 5 #[.val (.ref a), .val (.int cap), .val (.ref sr)] [(.ref a)])) rfl (hb hby d2_5) (by decide) (by decide)
  obtain ⟨a2, g2⟩ : ∃ z, z = h0.size := ⟨_, rfl⟩
  rw [← g2] at A2 D2 st2 U2
  refine own_go st2 ?_
  show own_R p.tables e below _ T2 (mkF m 8 #[.val (.ref a), .val (.int cap), .val (.ref sr)] [(.ref a2), (.ref a)])
  refine own_go (fun _ => XS.dup X2.here hx rfl (hb hby d2_8) rfl rfl) ?_
  show own_R p.tables e below _ T2 (mkF m 9 #[.val (.ref a), .val (.int cap), .val (.ref sr)] [(.ref a2), (.ref a2), (.ref a)])
  have ne2 : a2 ≠ a := own_ne (Nat.lt_of_lt_of_le E.lt (Nat.le_of_eq g2.symm))
  have Z2 : n0 ≤ h2.size := Nat.le_trans Z0 E2.1
  obtain ⟨v3, T3, L3, X3, Q3, st3⟩ := own_callI X2 hx hZ hown (y := (⟨"java/io/ByteArrayOutputStream", "<init>", "()V"⟩ : MethodName)) rfl (hw _ (List.mem_of_getElem? (i := 30) rfl)) (hw _ (List.mem_of_getElem? (i := 31) rfl)) (hw _ (List.mem_of_getElem? (i := 32) rfl)) (hw _ (List.mem_of_getElem? (i := 29) rfl)) (by decide) (rmB1 l Z a0 hw [] h2 n0 a2 (by omega) Z2 A2 U2 (D2 (Or.inl (hw _ (List.mem_of_getElem? (i := 40) rfl))) (ty := (.array .byte)) (by decide)) (D2 (Or.inl (hw _ (List.mem_of_getElem? (i := 68) rfl))) (ty := .int) (by decide))) (W := 2) (g := (mkF m 9 #[.val (.ref a), .val (.int cap), .val (.ref sr)] [(.ref a2), (.ref a2), (.ref a)])) rfl (by rw [hml]; rfl) (a := a2) (argsL := []) (rest := [(.ref a2), (.ref a)]) (lenOf pd___V rfl) rfl rfl (by show 2 * 0 + _ ≤ _; exact Nat.le_of_eq rfl) (hb hby d2_9) e2 (by decide) (by decide) (by decide) (by decide)
  obtain ⟨rfl, N3q, K3, ab, gb, M3⟩ := Q3
  have N3 := Fr.app N1 N3q
  have neb : ab ≠ a := own_ne (Nat.lt_of_lt_of_le (E.ext E2).lt gb)
  have Ffile3 := (Ffile.ext E2).keep K3 (own_ni (Ne.symm ne2))
  have Fmemory3 := (Fmemory.ext E2).keep K3 (own_ni (Ne.symm ne2))
  have FinMemoryBytes3 := (FinMemoryBytes.ext E2).keep K3 (own_ni (Ne.symm ne2))
  have FfilePrefix3 := (FfilePrefix.ext E2).keep K3 (own_ni (Ne.symm ne2))
  have Fsize3 := (Fsize.ext E2).keep K3 (own_ni (Ne.symm ne2))
  have E3 := (E.ext E2).keep K3
  have KK3 : Keep h0 T3.heap [a] := ((Keep.refl h0 [a]).ext E2).trans K3 (fun x hx => Or.inr (by cases List.mem_singleton.mp hx; omega))
  refine own_go st3 ?_
  show own_R p.tables e below _ T3 (mkF m 12 #[.val (.ref a), .val (.int cap), .val (.ref sr)] [(.ref a2), (.ref a)])
  obtain ⟨h3, e3⟩ : ∃ z, T3.heap = z := ⟨_, rfl⟩
  rw [e3] at M3 E3 KK3 Ffile3 Fmemory3 FinMemoryBytes3 FfilePrefix3 Fsize3
  obtain ⟨T4, h4, X4, e4, W4, st4⟩ := putF X3 hx hZ hown (host := "") (Or.inl (hw _ (List.mem_of_getElem? (i := 41) rfl))) Via.refl e3 Fmemory3 E3 (Or.inl (hw _ (List.mem_of_getElem? (i := 42) rfl))) (hw _ (List.mem_of_getElem? (i := 7) rfl)) (ty := (.object "java/io/ByteArrayOutputStream")) (by decide) rfl rfl (g := (mkF m 12 #[.val (.ref a), .val (.int cap), .val (.ref sr)] [(.ref a2), (.ref a)])) rfl rfl (hb hby d2_12)
  refine own_go st4 ?_
  show own_R p.tables e below _ T4 (mkF m 15 #[.val (.ref a), .val (.int cap), .val (.ref sr)] [])
  have N4 := Fr.snoc X4 N3 g9
  have KK4 := KK3.wr W4 (Or.inl (List.mem_singleton.mpr rfl))
  have M4 := M3.keep (Keep.of_wr W4) (own_ni ne2) (own_ni neb)
  have E4 := E3.wr W4
  have Ffile4 := Ffile3.other W4 (Or.inr (slot_ne (Or.inl (hw _ (List.mem_of_getElem? (i := 53) rfl))) (Or.inl (hw _ (List.mem_of_getElem? (i := 42) rfl))) (by decide) (t := (.object "java/io/OutputStream")) (t' := (.object "java/io/ByteArrayOutputStream")) (by decide) (by decide)))
  have Fmemory4 := Fmemory3.same W4
  have FinMemoryBytes4 := FinMemoryBytes3.other W4 (Or.inr (slot_ne (Or.inr (hw _ (List.mem_of_getElem? (i := 44) rfl))) (Or.inl (hw _ (List.mem_of_getElem? (i := 42) rfl))) (by decide) (t := .int) (t' := (.object "java/io/ByteArrayOutputStream")) (by decide) (by decide)))
  have FfilePrefix4 := FfilePrefix3.other W4 (Or.inr (slot_ne (Or.inr (hw _ (List.mem_of_getElem? (i := 46) rfl))) (Or.inl (hw _ (List.mem_of_getElem? (i := 42) rfl))) (by decide) (t := (.object "java/lang/String")) (t' := (.object "java/io/ByteArrayOutputStream")) (by decide) (by decide)))
  have Fsize4 := Fsize3.other W4 (Or.inr (slot_ne (Or.inl (hw _ (List.mem_of_getElem? (i := 56) rfl))) (Or.inl (hw _ (List.mem_of_getElem? (i := 42) rfl))) (by decide) (t := .long) (t' := (.object "java/io/ByteArrayOutputStream")) (by decide) (by decide)))
  refine own_go (fun _ => XS.aloadN X4.here hx rfl (hb hby d2_15) rfl rfl) ?_
  show own_R p.tables e below _ T4 (mkF m 16 #[.val (.ref a), .val (.int cap), .val (.ref sr)] [(.ref a)])
  refine own_go (fun _ => XS.iloadN X4.here hx rfl (hb hby d2_16) rfl ) ?_
  show own_R p.tables e below _ T4 (mkF m 17 #[.val (.ref a), .val (.int cap), .val (.ref sr)] [(.int cap), (.ref a)])
  obtain ⟨T5, h5, X5, e5, W5, st5⟩ := putF X4 hx hZ hown (host := "") (Or.inl (hw _ (List.mem_of_getElem? (i := 43) rfl))) Via.refl e4 FinMemoryBytes4 E4 (Or.inr ⟨(hw _ (List.mem_of_getElem? (i := 44) rfl)), rfl, hnm⟩) (hw _ (List.mem_of_getElem? (i := 7) rfl)) (ty := .int) (by decide) rfl rfl (g := (mkF m 17 #[.val (.ref a), .val (.int cap), .val (.ref sr)] [(.int cap), (.ref a)])) rfl rfl (hb hby d2_17)
  refine own_go st5 ?_
  show own_R p.tables e below _ T5 (mkF m 20 #[.val (.ref a), .val (.int cap), .val (.ref sr)] [])
  have N5 := Fr.snoc X5 N4 g9
  have KK5 := KK4.wr W5 (Or.inl (List.mem_singleton.mpr rfl))
  have M5 := M4.keep (Keep.of_wr W5) (own_ni ne2) (own_ni neb)
  have E5 := E4.wr W5
  have Ffile5 := Ffile4.other W5 (Or.inr (slot_ne (Or.inl (hw _ (List.mem_of_getElem? (i := 53) rfl))) (Or.inr (hw _ (List.mem_of_getElem? (i := 44) rfl))) (by decide) (t := (.object "java/io/OutputStream")) (t' := .int) (by decide) (by decide)))
  have Fmemory5 := Fmemory4.other W5 (Or.inr (slot_ne (Or.inl (hw _ (List.mem_of_getElem? (i := 42) rfl))) (Or.inr (hw _ (List.mem_of_getElem? (i := 44) rfl))) (by decide) (t := (.object "java/io/ByteArrayOutputStream")) (t' := .int) (by decide) (by decide)))
  have FinMemoryBytes5 := FinMemoryBytes4.same W5
  have FfilePrefix5 := FfilePrefix4.other W5 (Or.inr (slot_ne (Or.inr (hw _ (List.mem_of_getElem? (i := 46) rfl))) (Or.inr (hw _ (List.mem_of_getElem? (i := 44) rfl))) (by decide) (t := (.object "java/lang/String")) (t' := .int) (by decide) (by decide)))
  have Fsize5 := Fsize4.other W5 (Or.inr (slot_ne (Or.inl (hw _ (List.mem_of_getElem? (i := 56) rfl))) (Or.inr (hw _ (List.mem_of_getElem? (i := 44) rfl))) (by decide) (t := .long) (t' := .int) (by decide) (by decide)))
  refine own_go (fun _ => XS.aloadN X5.here hx rfl (hb hby d2_20) rfl rfl) ?_
  show own_R p.tables e below _ T5 (mkF m 21 #[.val (.ref a), .val (.int cap), .val (.ref sr)] [(.ref a)])
  refine own_go (fun _ => XS.aloadN X5.here hx rfl (hb hby d2_21) rfl rfl) ?_
  show own_R p.tables e below _ T5 (mkF m 22 #[.val (.ref a), .val (.int cap), .val (.ref sr)] [(.ref sr), (.ref a)])
  obtain ⟨T6, h6, X6, e6, W6, st6⟩ := putF X5 hx hZ hown (host := "") (Or.inl (hw _ (List.mem_of_getElem? (i := 45) rfl))) Via.refl e5 FfilePrefix5 E5 (Or.inr ⟨(hw _ (List.mem_of_getElem? (i := 46) rfl)), rfl, hnm⟩) (hw _ (List.mem_of_getElem? (i := 7) rfl)) (ty := (.object "java/lang/String")) (by decide) rfl rfl (g := (mkF m 22 #[.val (.ref a), .val (.int cap), .val (.ref sr)] [(.ref sr), (.ref a)])) rfl rfl (hb hby d2_22)
  refine own_go st6 ?_
  show own_R p.tables e below _ T6 (mkF m 25 #[.val (.ref a), .val (.int cap), .val (.ref sr)] [])
  have N6 := Fr.snoc X6 N5 g9
  have KK6 := KK5.wr W6 (Or.inl (List.mem_singleton.mpr rfl))
  have M6 := M5.keep (Keep.of_wr W6) (own_ni ne2) (own_ni neb)
  have E6 := E5.wr W6
  have Ffile6 := Ffile5.other W6 (Or.inr (slot_ne (Or.inl (hw _ (List.mem_of_getElem? (i := 53) rfl))) (Or.inr (hw _ (List.mem_of_getElem? (i := 46) rfl))) (by decide) (t := (.object "java/io/OutputStream")) (t' := (.object "java/lang/String")) (by decide) (by decide)))
  have Fmemory6 := Fmemory5.other W6 (Or.inr (slot_ne (Or.inl (hw _ (List.mem_of_getElem? (i := 42) rfl))) (Or.inr (hw _ (List.mem_of_getElem? (i := 46) rfl))) (by decide) (t := (.object "java/io/ByteArrayOutputStream")) (t' := (.object "java/lang/String")) (by decide) (by decide)))
  have FinMemoryBytes6 := FinMemoryBytes5.other W6 (Or.inr (slot_ne (Or.inr (hw _ (List.mem_of_getElem? (i := 44) rfl))) (Or.inr (hw _ (List.mem_of_getElem? (i := 46) rfl))) (by decide) (t := .int) (t' := (.object "java/lang/String")) (by decide) (by decide)))
  have FfilePrefix6 := FfilePrefix5.same W6
  have Fsize6 := Fsize5.other W6 (Or.inr (slot_ne (Or.inl (hw _ (List.mem_of_getElem? (i := 56) rfl))) (Or.inr (hw _ (List.mem_of_getElem? (i := 46) rfl))) (by decide) (t := .long) (t' := (.object "java/lang/String")) (by decide) (by decide)))
  exact own_end X6 none (fun _ => rfl) hlk (fun fs hr => X6.returnOut hx hret (hb hby d2_25) hr) (by show own_Qs Z a cap h0 n0 _ T6.heap _; rw [e6]; exact ⟨rfl, N6, KK6, a2, ab, Nat.le_of_eq g2.symm, Nat.le_trans E2.1 gb, E6, Ffile6, Fmemory6, FinMemoryBytes6, Fsize6, M6, ne2, neb⟩) (by decide) (by decide)
set_option maxRecDepth 65536 in
set_option maxHeartbeats 4000000 in
theorem rmHeld (l : Launch) (Z : State) (a0 : Array Value) (hw : ∀ d ∈ tables_1, d.before a0 Z = true) (ws : List Jvm.Cond) (h0 : Heap) (n0 : Nat) (a : Addr) (n : Nat) (Ff : Fld Z h0 a "com/example/keepd/keepd/http/Spool" "file" "Ljava/io/OutputStream;" .null) (Fs : Fld Z h0 a "com/example/keepd/keepd/http/Spool" "size" "J" (.long (Int64.ofNat n))) :
    own_C l Z (⟨"com/example/keepd/keepd/http/Spool", "heldBytes", "()J"⟩ : MethodName) prog_23_method_5_code 1 (some .long) ws ({ frames := 0, cells := 0, slots := 0, locals := 0 } : Room) #[(.ref a)] h0 (own_Qr (some (.long ((2 : Int64) * Int64.ofNat n))) h0 n0) := by
  refine own_body (ls := #[.val (.ref a)]) pn_7 (fun m => by first | (simp [entryFrame, mkF, argsToLocals, Value.category]; done) | rfl) ?_
  intro p e s m below meth c T0 hZ hx hby hml hown hnm hret hlk X0 e0
  replace hml : c.maxLocals = 1 := hml
  have N0 := Fr.nil n0
  refine own_go (fun _ => XS.aloadN X0.here hx rfl (hb hby d7_0) rfl rfl) ?_
  show own_R p.tables e below _ T0 (mkF m 1 #[.val (.ref a)] [(.ref a)])
  obtain ⟨T1, X1, e1, st1⟩ := getF X0 hx hZ hown (host := "") (Or.inl (hw _ (List.mem_of_getElem? (i := 52) rfl))) Via.refl e0 Ff (g := (mkF m 1 #[.val (.ref a)] [(.ref a)])) rfl rfl (hb hby d7_1)
  refine own_go st1 ?_
  show own_R p.tables e below _ T1 (mkF m 4 #[.val (.ref a)] [.null])
  refine own_go (fun _ => XS.ifnonnullNo X1.here hx rfl (hb hby d7_4) rfl) ?_
  show own_R p.tables e below _ T1 (mkF m 7 #[.val (.ref a)] [])
  refine own_go (X1.ldc2Long hx hown (mvT hZ (hw _ (List.mem_of_getElem? (i := 54) rfl))) (g := (mkF m 7 #[.val (.ref a)] [])) rfl (hb hby d7_7)) ?_
  show own_R p.tables e below _ T1 (mkF m 10 #[.val (.ref a)] [(.long (2 : Int64))])
  refine own_go (fun _ => XS.aloadN X1.here hx rfl (hb hby d7_10) rfl rfl) ?_
  show own_R p.tables e below _ T1 (mkF m 11 #[.val (.ref a)] [(.ref a), (.long (2 : Int64))])
  obtain ⟨T2, X2, e2, st2⟩ := getF X1 hx hZ hown (host := "") (Or.inl (hw _ (List.mem_of_getElem? (i := 55) rfl))) Via.refl e1 Fs (g := (mkF m 11 #[.val (.ref a)] [(.ref a), (.long (2 : Int64))])) rfl rfl (hb hby d7_11)
  refine own_go st2 ?_
  show own_R p.tables e below _ T2 (mkF m 14 #[.val (.ref a)] [(.long (Int64.ofNat n)), (.long (2 : Int64))])
  refine own_go (fun _ => XS.lmul X2.here hx rfl (hb hby d7_14) rfl) ?_
  show own_R p.tables e below _ T2 (mkF m 15 #[.val (.ref a)] [(.long ((2 : Int64) * (Int64.ofNat n)))])
  refine own_go (fun _ => XS.goto X2.here hx rfl (pc0 := 15) (pc' := 19) rfl (hb hby d7_15) (by decide) (by decide)) ?_
  show own_R p.tables e below _ T2 (mkF m 19 #[.val (.ref a)] [(.long ((2 : Int64) * (Int64.ofNat n)))])
  exact own_end X2 (some (.long ((2 : Int64) * (Int64.ofNat n)))) (fun h => by rw [hret] at h; cases h) hlk (fun fs hr => own_retJ X2 hx hret (hb hby d7_19) hr) ⟨rfl, N0, e2⟩ (by decide) (by decide)
set_option maxRecDepth 65536 in
set_option maxHeartbeats 4000000 in
theorem rmSize (l : Launch) (Z : State) (a0 : Array Value) (hw : ∀ d ∈ tables_1, d.before a0 Z = true) (h0 : Heap) (n0 : Nat) (bm : Addr) (n : Nat) (Fc : Fld Z h0 bm "java/io/ByteArrayOutputStream" "count" "I" (.int (Int32.ofNat n))) :
    own_CS l Z (⟨"java/io/ByteArrayOutputStream", "size", "()I"⟩ : MethodName) jdk_2005_method_10_code 1 (some .int) ({ frames := 0, cells := 0, slots := 0, locals := 0 } : Room) #[(.ref bm)] bm h0 (own_Qr (some (.int (Int32.ofNat n))) h0 n0) := by
  refine own_bodyS (ls := #[.val (.ref bm)]) pn_51 rfl (fun m => by first | (simp [entryFrameSync, entryFrame, mkL, argsToLocals, Value.category]; done) | rfl) ?_
  intro p e s m below meth c T0 cell hZ0 hx hby hml hown0 hnm hret hlk hcell hent hh M0 K0 X0
  replace hml : c.maxLocals = 1 := hml
  have hZ : Z.Warmed39 (s.setCell bm (cell.withEntry s.cur)).vm := hZ0
  have hown : (s.setCell bm (cell.withEntry s.cur)).vm.findClass "java/io/ByteArrayOutputStream" = some m.cls := hown0
  obtain ⟨h1, e0⟩ : ∃ z, T0.heap = z := ⟨_, rfl⟩
  rw [e0] at M0 K0
  have N0 := Fr.nil n0
  refine own_go (fun _ => XS.aloadN X0.here hx rfl (hb hby d51_0) rfl rfl) ?_
  show own_R p.tables e below _ T0 (mkL bm m 1 #[.val (.ref bm)] [(.ref bm)])
  obtain ⟨T1, X1, e1, st1⟩ := getF X0 hx hZ hown (host := "") (Or.inl (hw _ (List.mem_of_getElem? (i := 67) rfl))) Via.refl e0 (Fc.mon M0) (g := (mkL bm m 1 #[.val (.ref bm)] [(.ref bm)])) rfl rfl (hb hby d51_1)
  refine own_go st1 ?_
  show own_R p.tables e below _ T1 (mkL bm m 4 #[.val (.ref bm)] [(.int (Int32.ofNat n))])
  exact own_endS X1 hcell hent hlk (some (.int (Int32.ofNat n))) (fun h => by rw [hret] at h; cases h) (fun V hr => retS X1 hx hret rfl (Or.inl ⟨rfl, Or.inl rfl, _, rfl⟩) (hb hby d51_4) hr) (fun h' _ _ _ q => ⟨rfl, N0, (q rfl rfl).trans hh⟩) (by decide) (by decide)
set_option maxRecDepth 65536 in
set_option maxHeartbeats 4000000 in
theorem rmPre (l : Launch) (Z : State) (a0 : Array Value) (hw : ∀ d ∈ tables_1, d.before a0 Z = true) (ws : List Jvm.Cond) (h0 : Heap) (n0 : Nat) (f k z : Int32) (p1 : ¬ ((z ||| f) ||| k) < 0) (p2 : ¬ (z - f) < k) :
    own_C l Z (⟨"jdk/internal/util/Preconditions", "checkFromIndexSize", "(IIILjava/util/function/BiFunction;)I"⟩ : MethodName) jdk_41_method_13_code 4 (some .int) ws ({ frames := 0, cells := 0, slots := 0, locals := 0 } : Room) #[(.int f), (.int k), (.int z), .null] h0 (own_Qr (some (.int f)) h0 n0) := by
  refine own_body (ls := #[.val (.int f), .val (.int k), .val (.int z), .val .null]) pn_10 (fun m => by first | (simp [entryFrame, mkF, argsToLocals, Value.category]; done) | rfl) ?_
  intro p e s m below meth c T0 hZ hx hby hml hown hnm hret hlk X0 e0
  replace hml : c.maxLocals = 4 := hml
  have N0 := Fr.nil n0
  refine own_go (fun _ => XS.iloadN X0.here hx rfl (hb hby d10_0) rfl ) ?_
  show own_R p.tables e below _ T0 (mkF m 1 #[.val (.int f), .val (.int k), .val (.int z), .val .null] [(.int z)])
  refine own_go (fun _ => XS.iloadN X0.here hx rfl (hb hby d10_1) rfl ) ?_
  show own_R p.tables e below _ T0 (mkF m 2 #[.val (.int f), .val (.int k), .val (.int z), .val .null] [(.int f), (.int z)])
  refine own_go (fun _ => XS.ior X0.here hx rfl (hb hby d10_2) rfl) ?_
  show own_R p.tables e below _ T0 (mkF m 3 #[.val (.int f), .val (.int k), .val (.int z), .val .null] [(.int (z ||| f))])
  refine own_go (fun _ => XS.iloadN X0.here hx rfl (hb hby d10_3) rfl ) ?_
  show own_R p.tables e below _ T0 (mkF m 4 #[.val (.int f), .val (.int k), .val (.int z), .val .null] [(.int k), (.int (z ||| f))])
  refine own_go (fun _ => XS.ior X0.here hx rfl (hb hby d10_4) rfl) ?_
  show own_R p.tables e below _ T0 (mkF m 5 #[.val (.int f), .val (.int k), .val (.int z), .val .null] [(.int ((z ||| f) ||| k))])
  refine own_go (fun _ => XS.ifNo X0.here hx rfl (hb hby d10_5) rfl ((if0 _ _).trans (flt p1).1)) ?_
  show own_R p.tables e below _ T0 (mkF m 8 #[.val (.int f), .val (.int k), .val (.int z), .val .null] [])
  refine own_go (fun _ => XS.iloadN X0.here hx rfl (hb hby d10_8) rfl ) ?_
  show own_R p.tables e below _ T0 (mkF m 9 #[.val (.int f), .val (.int k), .val (.int z), .val .null] [(.int k)])
  refine own_go (fun _ => XS.iloadN X0.here hx rfl (hb hby d10_9) rfl ) ?_
  show own_R p.tables e below _ T0 (mkF m 10 #[.val (.int f), .val (.int k), .val (.int z), .val .null] [(.int z), (.int k)])
  refine own_go (fun _ => XS.iloadN X0.here hx rfl (hb hby d10_10) rfl ) ?_
  show own_R p.tables e below _ T0 (mkF m 11 #[.val (.int f), .val (.int k), .val (.int z), .val .null] [(.int f), (.int z), (.int k)])
  refine own_go (fun _ => XS.isub X0.here hx rfl (hb hby d10_11) rfl) ?_
  show own_R p.tables e below _ T0 (mkF m 12 #[.val (.int f), .val (.int k), .val (.int z), .val .null] [(.int (z - f)), (.int k)])
  refine own_go (fun _ => XS.icmpYes X0.here hx rfl (pc0 := 12) (pc' := 23) rfl (hb hby d10_12) rfl (flt p2).2.2.2 (by decide) (by decide)) ?_
  show own_R p.tables e below _ T0 (mkF m 23 #[.val (.int f), .val (.int k), .val (.int z), .val .null] [])
  refine own_go (fun _ => XS.iloadN X0.here hx rfl (hb hby d10_23) rfl ) ?_
  show own_R p.tables e below _ T0 (mkF m 24 #[.val (.int f), .val (.int k), .val (.int z), .val .null] [(.int f)])
  exact own_end X0 (some (.int f)) (fun h => by rw [hret] at h; cases h) hlk (fun fs hr => own_retI X0 hx hret (hb hby d10_24) hr) ⟨rfl, N0, e0⟩ (by decide) (by decide)
set_option maxRecDepth 65536 in
set_option maxHeartbeats 4000000 in
theorem rmObj (l : Launch) (Z : State) (a0 : Array Value) (hw : ∀ d ∈ tables_1, d.before a0 Z = true) (ws : List Jvm.Cond) (h0 : Heap) (n0 : Nat) (f k z : Int32) (p1 : ¬ ((z ||| f) ||| k) < 0) (p2 : ¬ (z - f) < k) :
    own_C l Z (⟨"java/util/Objects", "checkFromIndexSize", "(III)I"⟩ : MethodName) jdk_31_method_19_code 3 (some .int) ws ({ frames := 1, cells := 0, slots := 0, locals := 15 } : Room) #[(.int f), (.int k), (.int z)] h0 (own_Qr (some (.int f)) h0 n0) := by
  refine own_body (ls := #[.val (.int f), .val (.int k), .val (.int z)]) pn_9 (fun m => by first | (simp [entryFrame, mkF, argsToLocals, Value.category]; done) | rfl) ?_
  intro p e s m below meth c T0 hZ hx hby hml hown hnm hret hlk X0 e0
  replace hml : c.maxLocals = 3 := hml
  have N0 := Fr.nil n0
  refine own_go (fun _ => XS.iloadN X0.here hx rfl (hb hby d9_0) rfl ) ?_
  show own_R p.tables e below _ T0 (mkF m 1 #[.val (.int f), .val (.int k), .val (.int z)] [(.int f)])
  refine own_go (fun _ => XS.iloadN X0.here hx rfl (hb hby d9_1) rfl ) ?_
  show own_R p.tables e below _ T0 (mkF m 2 #[.val (.int f), .val (.int k), .val (.int z)] [(.int k), (.int f)])
  refine own_go (fun _ => XS.iloadN X0.here hx rfl (hb hby d9_2) rfl ) ?_
  show own_R p.tables e below _ T0 (mkF m 3 #[.val (.int f), .val (.int k), .val (.int z)] [(.int z), (.int k), (.int f)])
  refine own_go (fun _ => XS.aconstNull X0.here hx rfl (hb hby d9_3)) ?_
  show own_R p.tables e below _ T0 (mkF m 4 #[.val (.int f), .val (.int k), .val (.int z)] [.null, (.int z), (.int k), (.int f)])
  obtain ⟨v1, T1, L1, X1, Q1, st1⟩ := own_callS X0 hx hZ hown (y := (⟨"jdk/internal/util/Preconditions", "checkFromIndexSize", "(IIILjava/util/function/BiFunction;)I"⟩ : MethodName)) (hw _ (List.mem_of_getElem? (i := 78) rfl)) (hw _ (List.mem_of_getElem? (i := 79) rfl)) (hw _ (List.mem_of_getElem? (i := 80) rfl)) (hw _ (List.mem_of_getElem? (i := 81) rfl)) (by decide) (rmPre l Z a0 hw [] h0 n0 f k z p1 p2) (W := 0) (g := (mkF m 4 #[.val (.int f), .val (.int k), .val (.int z)] [.null, (.int z), (.int k), (.int f)])) rfl (by rw [hml]; rfl) (argsL := [(.int f), (.int k), (.int z), .null]) (rest := []) (lenOf pd__IIILjava_util_function_BiFunction__I rfl) rfl rfl (by show 2 * 0 + _ ≤ _; exact Nat.le_of_eq rfl) (hb hby d9_4) e0 (by decide) (by decide) (by decide) (by decide)
  obtain ⟨rfl, N1q, e1⟩ := Q1
  have N1 := Fr.app N0 N1q
  refine own_go st1 ?_
  show own_R p.tables e below _ T1 (mkF m 7 #[.val (.int f), .val (.int k), .val (.int z)] [(.int f)])
  exact own_end X1 (some (.int f)) (fun h => by rw [hret] at h; cases h) hlk (fun fs hr => own_retI X1 hx hret (hb hby d9_7) hr) ⟨rfl, N1, e1⟩ (by decide) (by decide)
set_option maxRecDepth 65536 in
set_option maxHeartbeats 4000000 in
theorem rmEns (l : Launch) (Z : State) (a0 : Array Value) (hw : ∀ d ∈ tables_1, d.before a0 Z = true) (ws : List Jvm.Cond) (h0 : Heap) (n0 : Nat) (a ab : Addr) (mc : Int32) (kb : ClassId) (vs : List Value) (Fb : Fld Z h0 a "java/io/ByteArrayOutputStream" "buf" "[B" (.ref ab)) (A : Arv Z h0 ab kb .byte (Int32.ofNat 32) vs (.int 0)) (q : ¬ (0 : Int32) < (mc - (Int32.ofNat 32))) :
    own_C l Z (⟨"java/io/ByteArrayOutputStream", "ensureCapacity", "(I)V"⟩ : MethodName) jdk_2005_method_3_code 4 none ws ({ frames := 0, cells := 0, slots := 0, locals := 0 } : Room) #[(.ref a), (.int mc)] h0 (own_Qr none h0 n0) := by
  refine own_body (ls := #[.val (.ref a), .val (.int mc), .unset, .unset]) pn_11 (fun m => by first | (simp [entryFrame, mkF, argsToLocals, Value.category]; done) | rfl) ?_
  intro p e s m below meth c T0 hZ hx hby hml hown hnm hret hlk X0 e0
  replace hml : c.maxLocals = 4 := hml
  have N0 := Fr.nil n0
  refine own_go (fun _ => XS.aloadN X0.here hx rfl (hb hby d11_0) rfl rfl) ?_
  show own_R p.tables e below _ T0 (mkF m 1 #[.val (.ref a), .val (.int mc), .unset, .unset] [(.ref a)])
  obtain ⟨T1, X1, e1, st1⟩ := getF X0 hx hZ hown (host := "") (Or.inl (hw _ (List.mem_of_getElem? (i := 39) rfl))) Via.refl e0 Fb (g := (mkF m 1 #[.val (.ref a), .val (.int mc), .unset, .unset] [(.ref a)])) rfl rfl (hb hby d11_1)
  refine own_go st1 ?_
  show own_R p.tables e below _ T1 (mkF m 4 #[.val (.ref a), .val (.int mc), .unset, .unset] [(.ref ab)])
  refine own_go (own_len X1 hx hZ e1 A (g := (mkF m 4 #[.val (.ref a), .val (.int mc), .unset, .unset] [(.ref ab)])) rfl rfl (hb hby d11_4)) ?_
  show own_R p.tables e below _ T1 (mkF m 5 #[.val (.ref a), .val (.int mc), .unset, .unset] [(.int (Int32.ofNat 32))])
  refine own_go (fun _ => XS.istoreN X1.here hx rfl (hb hby d11_5) rfl (l' := #[.val (.ref a), .val (.int mc), .val (.int (Int32.ofNat 32)), .unset]) rfl) ?_
  show own_R p.tables e below _ T1 (mkF m 6 #[.val (.ref a), .val (.int mc), .val (.int (Int32.ofNat 32)), .unset] [])
  refine own_go (fun _ => XS.iloadN X1.here hx rfl (hb hby d11_6) rfl ) ?_
  show own_R p.tables e below _ T1 (mkF m 7 #[.val (.ref a), .val (.int mc), .val (.int (Int32.ofNat 32)), .unset] [(.int mc)])
  refine own_go (fun _ => XS.iloadN X1.here hx rfl (hb hby d11_7) rfl ) ?_
  show own_R p.tables e below _ T1 (mkF m 8 #[.val (.ref a), .val (.int mc), .val (.int (Int32.ofNat 32)), .unset] [(.int (Int32.ofNat 32)), (.int mc)])
  refine own_go (fun _ => XS.isub X1.here hx rfl (hb hby d11_8) rfl) ?_
  show own_R p.tables e below _ T1 (mkF m 9 #[.val (.ref a), .val (.int mc), .val (.int (Int32.ofNat 32)), .unset] [(.int (mc - (Int32.ofNat 32)))])
  refine own_go (fun _ => XS.istoreN X1.here hx rfl (hb hby d11_9) rfl (l' := #[.val (.ref a), .val (.int mc), .val (.int (Int32.ofNat 32)), .val (.int (mc - (Int32.ofNat 32)))]) rfl) ?_
  show own_R p.tables e below _ T1 (mkF m 10 #[.val (.ref a), .val (.int mc), .val (.int (Int32.ofNat 32)), .val (.int (mc - (Int32.ofNat 32)))] [])
  refine own_go (fun _ => XS.iloadN X1.here hx rfl (hb hby d11_10) rfl ) ?_
  show own_R p.tables e below _ T1 (mkF m 11 #[.val (.ref a), .val (.int mc), .val (.int (Int32.ofNat 32)), .val (.int (mc - (Int32.ofNat 32)))] [(.int (mc - (Int32.ofNat 32)))])
  refine own_go (fun _ => XS.ifYes X1.here hx rfl (pc0 := 11) (pc' := 31) rfl (hb hby d11_11) rfl ((if0 _ _).trans (flt q).2.2.2) (by decide) (by decide)) ?_
  show own_R p.tables e below _ T1 (mkF m 31 #[.val (.ref a), .val (.int mc), .val (.int (Int32.ofNat 32)), .val (.int (mc - (Int32.ofNat 32)))] [])
  exact own_end X1 none (fun _ => rfl) hlk (fun fs hr => X1.returnOut hx hret (hb hby d11_31) hr) ⟨rfl, N0, e1⟩ (by decide) (by decide)
def own_Qw (Z : State) (bm ab : Addr) (n : Nat) (h0 : Heap) (n0 : Nat) (v : Option Value) (h : Heap) (L : List Loc) : Prop := v = none ∧ Fr n0 L ∧ Keep h0 h [bm, ab] ∧ own_M Z h bm ab n
set_option maxRecDepth 65536 in
set_option maxHeartbeats 8000000 in
theorem rmW (l : Launch) (Z : State) (a0 : Array Value) (hw : ∀ d ∈ tables_1, d.before a0 Z = true) (h0 : Heap) (n0 : Nat) (bm ab : Addr) (n : Nat) (a1 : Addr) (k1 : ClassId) (vs1 : List Value) (f k z : Nat) (A1 : Arv Z h0 a1 k1 .byte (Int32.ofNat z) vs1 (.int 0)) (hfk : f + k ≤ z) (hz : z ≤ 16) (hnk : n + k ≤ 32) (M : own_M Z h0 bm ab n) (g1 : n0 ≤ bm) (g2 : n0 ≤ ab) (nb : a1 ≠ bm) :
    own_CS l Z (⟨"java/io/ByteArrayOutputStream", "write", "([BII)V"⟩ : MethodName) jdk_2005_method_5_code 4 none ({ frames := 2, cells := 0, slots := 0, locals := 60 } : Room) #[(.ref bm), (.ref a1), (.int (Int32.ofNat f)), (.int (Int32.ofNat k))] bm h0 (own_Qw Z bm ab (n + k) h0 n0) := by
  refine own_bodyS (ls := #[.val (.ref bm), .val (.ref a1), .val (.int (Int32.ofNat f)), .val (.int (Int32.ofNat k))]) pn_52 rfl (fun m => by first | (simp [entryFrameSync, entryFrame, mkL, argsToLocals, Value.category]; done) | rfl) ?_
  intro p e s m below meth c T0 cell hZ0 hx hby hml hown0 hnm hret hlk hcell hent hh M0 K0 X0
  replace hml : c.maxLocals = 4 := hml
  have hZ : Z.Warmed39 (s.setCell bm (cell.withEntry s.cur)).vm := hZ0
  have hown : (s.setCell bm (cell.withEntry s.cur)).vm.findClass "java/io/ByteArrayOutputStream" = some m.cls := hown0
  obtain ⟨h1, e0⟩ : ∃ z, T0.heap = z := ⟨_, rfl⟩
  rw [e0] at M0 K0
  have N0 := Fr.nil n0
  obtain ⟨E, U, Fb, Fc, ne, kb, vs, hl, A⟩ := M
  replace E := E.mon M0
  replace Fb := Fb.mon M0
  replace Fc := Fc.mon M0
  replace A := A.keep K0 (own_ni ne)
  replace A1 := A1.keep K0 (own_ni nb)
  refine own_go (fun _ => XS.iloadN X0.here hx rfl (hb hby d52_0) rfl ) ?_
  show own_R p.tables e below _ T0 (mkL bm m 1 #[.val (.ref bm), .val (.ref a1), .val (.int (Int32.ofNat f)), .val (.int (Int32.ofNat k))] [(.int (Int32.ofNat f))])
  refine own_go (fun _ => XS.iloadN X0.here hx rfl (hb hby d52_1) rfl ) ?_
  show own_R p.tables e below _ T0 (mkL bm m 2 #[.val (.ref bm), .val (.ref a1), .val (.int (Int32.ofNat f)), .val (.int (Int32.ofNat k))] [(.int (Int32.ofNat k)), (.int (Int32.ofNat f))])
  refine own_go (fun _ => XS.aloadN X0.here hx rfl (hb hby d52_2) rfl rfl) ?_
  show own_R p.tables e below _ T0 (mkL bm m 3 #[.val (.ref bm), .val (.ref a1), .val (.int (Int32.ofNat f)), .val (.int (Int32.ofNat k))] [(.ref a1), (.int (Int32.ofNat k)), (.int (Int32.ofNat f))])
  refine own_go (own_len X0 hx hZ e0 A1 (g := (mkL bm m 3 #[.val (.ref bm), .val (.ref a1), .val (.int (Int32.ofNat f)), .val (.int (Int32.ofNat k))] [(.ref a1), (.int (Int32.ofNat k)), (.int (Int32.ofNat f))])) rfl rfl (hb hby d52_3)) ?_
  show own_R p.tables e below _ T0 (mkL bm m 4 #[.val (.ref bm), .val (.ref a1), .val (.int (Int32.ofNat f)), .val (.int (Int32.ofNat k))] [(.int (Int32.ofNat z)), (.int (Int32.ofNat k)), (.int (Int32.ofNat f))])
  obtain ⟨v1, T1, L1, X1, Q1, st1⟩ := own_callS X0 hx hZ hown (y := (⟨"java/util/Objects", "checkFromIndexSize", "(III)I"⟩ : MethodName)) (hw _ (List.mem_of_getElem? (i := 74) rfl)) (hw _ (List.mem_of_getElem? (i := 75) rfl)) (hw _ (List.mem_of_getElem? (i := 76) rfl)) (hw _ (List.mem_of_getElem? (i := 77) rfl)) (by decide) (rmObj l Z a0 hw [] h1 n0 (Int32.ofNat f) (Int32.ofNat k) (Int32.ofNat z) (own_or (by omega) (by omega) (by omega)) (by rw [own_sub (by omega) (by omega)]; exact own_le (by omega) (by omega))) (W := 2) (g := (mkL bm m 4 #[.val (.ref bm), .val (.ref a1), .val (.int (Int32.ofNat f)), .val (.int (Int32.ofNat k))] [(.int (Int32.ofNat z)), (.int (Int32.ofNat k)), (.int (Int32.ofNat f))])) rfl (by rw [hml]; rfl) (argsL := [(.int (Int32.ofNat f)), (.int (Int32.ofNat k)), (.int (Int32.ofNat z))]) (rest := []) (lenOf pd__III_I rfl) rfl rfl (by show 2 * 1 + _ ≤ _; exact Nat.le_of_eq rfl) (hb hby d52_4) e0 (by decide) (by decide) (by decide) (by decide)
  obtain ⟨rfl, N1q, e1⟩ := Q1
  have N1 := Fr.app N0 N1q
  refine own_go st1 ?_
  show own_R p.tables e below _ T1 (mkL bm m 7 #[.val (.ref bm), .val (.ref a1), .val (.int (Int32.ofNat f)), .val (.int (Int32.ofNat k))] [(.int (Int32.ofNat f))])
  refine own_go (fun _ => XS.pop X1.here hx rfl (hb hby d52_7) rfl rfl) ?_
  show own_R p.tables e below _ T1 (mkL bm m 8 #[.val (.ref bm), .val (.ref a1), .val (.int (Int32.ofNat f)), .val (.int (Int32.ofNat k))] [])
  refine own_go (fun _ => XS.aloadN X1.here hx rfl (hb hby d52_8) rfl rfl) ?_
  show own_R p.tables e below _ T1 (mkL bm m 9 #[.val (.ref bm), .val (.ref a1), .val (.int (Int32.ofNat f)), .val (.int (Int32.ofNat k))] [(.ref bm)])
  refine own_go (fun _ => XS.aloadN X1.here hx rfl (hb hby d52_9) rfl rfl) ?_
  show own_R p.tables e below _ T1 (mkL bm m 10 #[.val (.ref bm), .val (.ref a1), .val (.int (Int32.ofNat f)), .val (.int (Int32.ofNat k))] [(.ref bm), (.ref bm)])
  obtain ⟨T2, X2, e2, st2⟩ := getF X1 hx hZ hown (host := "") (Or.inl (hw _ (List.mem_of_getElem? (i := 67) rfl))) Via.refl e1 Fc (g := (mkL bm m 10 #[.val (.ref bm), .val (.ref a1), .val (.int (Int32.ofNat f)), .val (.int (Int32.ofNat k))] [(.ref bm), (.ref bm)])) rfl rfl (hb hby d52_10)
  refine own_go st2 ?_
  show own_R p.tables e below _ T2 (mkL bm m 13 #[.val (.ref bm), .val (.ref a1), .val (.int (Int32.ofNat f)), .val (.int (Int32.ofNat k))] [(.int (Int32.ofNat n)), (.ref bm)])
  refine own_go (fun _ => XS.iloadN X2.here hx rfl (hb hby d52_13) rfl ) ?_
  show own_R p.tables e below _ T2 (mkL bm m 14 #[.val (.ref bm), .val (.ref a1), .val (.int (Int32.ofNat f)), .val (.int (Int32.ofNat k))] [(.int (Int32.ofNat k)), (.int (Int32.ofNat n)), (.ref bm)])
  refine own_go (fun _ => XS.iadd X2.here hx rfl (hb hby d52_14) rfl) ?_
  show own_R p.tables e below _ T2 (mkL bm m 15 #[.val (.ref bm), .val (.ref a1), .val (.int (Int32.ofNat f)), .val (.int (Int32.ofNat k))] [(.int ((Int32.ofNat n) + (Int32.ofNat k))), (.ref bm)])
  obtain ⟨v3, T3, L3, X3, Q3, st3⟩ := own_callP X2 hx hZ hown (y := (⟨"java/io/ByteArrayOutputStream", "ensureCapacity", "(I)V"⟩ : MethodName)) (hw _ (List.mem_of_getElem? (i := 82) rfl)) (hw _ (List.mem_of_getElem? (i := 84) rfl)) (hw _ (List.mem_of_getElem? (i := 85) rfl)) (hw _ (List.mem_of_getElem? (i := 83) rfl)) (hw _ (List.mem_of_getElem? (i := 86) rfl)) (hw _ (List.mem_of_getElem? (i := 29) rfl)) (by decide) (b := bm) (rmEns l Z a0 hw [] h1 n0 bm ab (Int32.ofNat n + Int32.ofNat k) kb vs Fb A (by rw [own_add]; exact own_sub0 hnk)) E (W := 2) (g := (mkL bm m 15 #[.val (.ref bm), .val (.ref a1), .val (.int (Int32.ofNat f)), .val (.int (Int32.ofNat k))] [(.int ((Int32.ofNat n) + (Int32.ofNat k))), (.ref bm)])) rfl (by rw [hml]; rfl) (argsL := [(.int ((Int32.ofNat n) + (Int32.ofNat k)))]) (rest := []) (lenOf pd__I_V rfl) rfl rfl (by show 2 * 1 + _ ≤ _; exact Nat.le_of_eq rfl) (hb hby d52_15) e2 (by decide) (by decide) (by decide) (by decide)
  obtain ⟨rfl, N3q, e3⟩ := Q3
  have N3 := Fr.app N1 N3q
  refine own_go st3 ?_
  show own_R p.tables e below _ T3 (mkL bm m 18 #[.val (.ref bm), .val (.ref a1), .val (.int (Int32.ofNat f)), .val (.int (Int32.ofNat k))] [])
  refine own_go (fun _ => XS.aloadN X3.here hx rfl (hb hby d52_18) rfl rfl) ?_
  show own_R p.tables e below _ T3 (mkL bm m 19 #[.val (.ref bm), .val (.ref a1), .val (.int (Int32.ofNat f)), .val (.int (Int32.ofNat k))] [(.ref a1)])
  refine own_go (fun _ => XS.iloadN X3.here hx rfl (hb hby d52_19) rfl ) ?_
  show own_R p.tables e below _ T3 (mkL bm m 20 #[.val (.ref bm), .val (.ref a1), .val (.int (Int32.ofNat f)), .val (.int (Int32.ofNat k))] [(.int (Int32.ofNat f)), (.ref a1)])
  refine own_go (fun _ => XS.aloadN X3.here hx rfl (hb hby d52_20) rfl rfl) ?_
  show own_R p.tables e below _ T3 (mkL bm m 21 #[.val (.ref bm), .val (.ref a1), .val (.int (Int32.ofNat f)), .val (.int (Int32.ofNat k))] [(.ref bm), (.int (Int32.ofNat f)), (.ref a1)])
  obtain ⟨T4, X4, e4, st4⟩ := getF X3 hx hZ hown (host := "") (Or.inl (hw _ (List.mem_of_getElem? (i := 39) rfl))) Via.refl e3 Fb (g := (mkL bm m 21 #[.val (.ref bm), .val (.ref a1), .val (.int (Int32.ofNat f)), .val (.int (Int32.ofNat k))] [(.ref bm), (.int (Int32.ofNat f)), (.ref a1)])) rfl rfl (hb hby d52_21)
  refine own_go st4 ?_
  show own_R p.tables e below _ T4 (mkL bm m 24 #[.val (.ref bm), .val (.ref a1), .val (.int (Int32.ofNat f)), .val (.int (Int32.ofNat k))] [(.ref ab), (.int (Int32.ofNat f)), (.ref a1)])
  refine own_go (fun _ => XS.aloadN X4.here hx rfl (hb hby d52_24) rfl rfl) ?_
  show own_R p.tables e below _ T4 (mkL bm m 25 #[.val (.ref bm), .val (.ref a1), .val (.int (Int32.ofNat f)), .val (.int (Int32.ofNat k))] [(.ref bm), (.ref ab), (.int (Int32.ofNat f)), (.ref a1)])
  obtain ⟨T5, X5, e5, st5⟩ := getF X4 hx hZ hown (host := "") (Or.inl (hw _ (List.mem_of_getElem? (i := 67) rfl))) Via.refl e4 Fc (g := (mkL bm m 25 #[.val (.ref bm), .val (.ref a1), .val (.int (Int32.ofNat f)), .val (.int (Int32.ofNat k))] [(.ref bm), (.ref ab), (.int (Int32.ofNat f)), (.ref a1)])) rfl rfl (hb hby d52_25)
  refine own_go st5 ?_
  show own_R p.tables e below _ T5 (mkL bm m 28 #[.val (.ref bm), .val (.ref a1), .val (.int (Int32.ofNat f)), .val (.int (Int32.ofNat k))] [(.int (Int32.ofNat n)), (.ref ab), (.int (Int32.ofNat f)), (.ref a1)])
  refine own_go (fun _ => XS.iloadN X5.here hx rfl (hb hby d52_28) rfl ) ?_
  show own_R p.tables e below _ T5 (mkL bm m 29 #[.val (.ref bm), .val (.ref a1), .val (.int (Int32.ofNat f)), .val (.int (Int32.ofNat k))] [(.int (Int32.ofNat k)), (.int (Int32.ofNat n)), (.ref ab), (.int (Int32.ofNat f)), (.ref a1)])
  have cf : (Int32.ofNat f).toNatClampNeg = f := own_clamp (by omega)
  have ck : (Int32.ofNat k).toNatClampNeg = k := own_clamp (by omega)
  have cn : (Int32.ofNat n).toNatClampNeg = n := own_clamp (by omega)
  have cz : (Int32.ofNat z).toNatClampNeg = z := own_clamp (by omega)
  have c32 : (Int32.ofNat 32).toNatClampNeg = 32 := own_clamp (by omega)
  obtain ⟨T6, h6, L6, X6, e6, N6, K6, A6, st6⟩ := cpA X5 hx hZ hown (hw _ (List.mem_of_getElem? (i := 87) rfl)) (hw _ (List.mem_of_getElem? (i := 90) rfl)) (hw _ (List.mem_of_getElem? (i := 88) rfl)) (hw _ (List.mem_of_getElem? (i := 89) rfl)) e5 A1 A (Or.inl ⟨rfl, rfl⟩) (own_ge0 (by omega)) (own_ge0 (by omega)) (own_ge0 (by omega)) (by rw [cf, ck, cz]; exact hfk) (by rw [cn, ck, c32]; exact hnk) rfl (by rw [cn, ck, hl]; exact hnk) N3 g2 (g := (mkL bm m 29 #[.val (.ref bm), .val (.ref a1), .val (.int (Int32.ofNat f)), .val (.int (Int32.ofNat k))] [(.int (Int32.ofNat k)), (.int (Int32.ofNat n)), (.ref ab), (.int (Int32.ofNat f)), (.ref a1)])) rfl (by rw [hml]; rfl) (rest := []) rfl (hb hby d52_29) (by decide) (W := 2) (by show 2 * 1 + _ ≤ _; exact Nat.le_of_eq rfl) (by decide +kernel)
  refine own_go st6 ?_
  show own_R p.tables e below _ T6 (mkL bm m 32 #[.val (.ref bm), .val (.ref a1), .val (.int (Int32.ofNat f)), .val (.int (Int32.ofNat k))] [])
  replace E := E.keep K6
  replace Fb := Fb.keep K6 (own_ni (Ne.symm ne))
  replace Fc := Fc.keep K6 (own_ni (Ne.symm ne))
  refine own_go (fun _ => XS.aloadN X6.here hx rfl (hb hby d52_32) rfl rfl) ?_
  show own_R p.tables e below _ T6 (mkL bm m 33 #[.val (.ref bm), .val (.ref a1), .val (.int (Int32.ofNat f)), .val (.int (Int32.ofNat k))] [(.ref bm)])
  refine own_go (fun _ => XS.dup X6.here hx rfl (hb hby d52_33) rfl rfl) ?_
  show own_R p.tables e below _ T6 (mkL bm m 34 #[.val (.ref bm), .val (.ref a1), .val (.int (Int32.ofNat f)), .val (.int (Int32.ofNat k))] [(.ref bm), (.ref bm)])
  obtain ⟨T7, X7, e7, st7⟩ := getF X6 hx hZ hown (host := "") (Or.inl (hw _ (List.mem_of_getElem? (i := 67) rfl))) Via.refl e6 Fc (g := (mkL bm m 34 #[.val (.ref bm), .val (.ref a1), .val (.int (Int32.ofNat f)), .val (.int (Int32.ofNat k))] [(.ref bm), (.ref bm)])) rfl rfl (hb hby d52_34)
  refine own_go st7 ?_
  show own_R p.tables e below _ T7 (mkL bm m 37 #[.val (.ref bm), .val (.ref a1), .val (.int (Int32.ofNat f)), .val (.int (Int32.ofNat k))] [(.int (Int32.ofNat n)), (.ref bm)])
  refine own_go (fun _ => XS.iloadN X7.here hx rfl (hb hby d52_37) rfl ) ?_
  show own_R p.tables e below _ T7 (mkL bm m 38 #[.val (.ref bm), .val (.ref a1), .val (.int (Int32.ofNat f)), .val (.int (Int32.ofNat k))] [(.int (Int32.ofNat k)), (.int (Int32.ofNat n)), (.ref bm)])
  refine own_go (fun _ => XS.iadd X7.here hx rfl (hb hby d52_38) rfl) ?_
  show own_R p.tables e below _ T7 (mkL bm m 39 #[.val (.ref bm), .val (.ref a1), .val (.int (Int32.ofNat f)), .val (.int (Int32.ofNat k))] [(.int ((Int32.ofNat n) + (Int32.ofNat k))), (.ref bm)])
  obtain ⟨T8, h8, X8, e8, W8, st8⟩ := putF X7 hx hZ hown (host := "") (Or.inl (hw _ (List.mem_of_getElem? (i := 67) rfl))) Via.refl e7 Fc E (Or.inl (hw _ (List.mem_of_getElem? (i := 68) rfl))) (hw _ (List.mem_of_getElem? (i := 28) rfl)) (ty := .int) (by decide) rfl rfl (g := (mkL bm m 39 #[.val (.ref bm), .val (.ref a1), .val (.int (Int32.ofNat f)), .val (.int (Int32.ofNat k))] [(.int ((Int32.ofNat n) + (Int32.ofNat k))), (.ref bm)])) rfl rfl (hb hby d52_39)
  refine own_go st8 ?_
  show own_R p.tables e below _ T8 (mkL bm m 42 #[.val (.ref bm), .val (.ref a1), .val (.int (Int32.ofNat f)), .val (.int (Int32.ofNat k))] [])
  have N8 := Fr.snoc X8 N6 g1
  have Fc8 := Fc.same W8
  rw [own_add] at Fc8
  have Fb8 := Fb.other W8 (Or.inr (slot_ne (Or.inl (hw _ (List.mem_of_getElem? (i := 40) rfl))) (Or.inl (hw _ (List.mem_of_getElem? (i := 68) rfl))) (by decide) (t := (.array .byte)) (t' := .int) (by decide) (by decide)))
  have E8 := E.wr W8
  have A8 := A6.other W8 ne
  have K8 : Keep h0 h8 [bm, ab] := (((Keep.refl h0 [bm, ab]).trans K0 (fun x hx => Or.inl (by cases List.mem_singleton.mp hx; simp))).trans K6 (fun x hx => Or.inl (by cases List.mem_singleton.mp hx; simp))).wr W8 (Or.inl (by simp))
  have hlen : (vs.take (Int32.ofNat n).toNatClampNeg ++ ((List.range (Int32.ofNat k).toNatClampNeg).map fun i => vs1.getD ((Int32.ofNat f).toNatClampNeg + i) (.int 0)) ++ vs.drop ((Int32.ofNat n).toNatClampNeg + (Int32.ofNat k).toNatClampNeg)).length = 32 := by rw [cn, ck]; simp; omega
  exact own_endS X8 hcell hent hlk none (fun _ => rfl) (fun V hr => retS0 X8 hx hret (hb hby d52_42) hr) (fun h' MM KM UM _ => by rw [e8] at MM KM; exact ⟨rfl, N8, K8.trans KM (fun x hx => Or.inl (by cases List.mem_singleton.mp hx; simp)), E8.mon MM, UM (by rw [hh]; exact U), Fb8.mon MM, Fc8.mon MM, ne, kb, _, hlen, A8.keep KM (own_ni ne)⟩) (by decide) (by decide)
def own_Qp (Z : State) (sp bm ab : Addr) (cap : Int32) (n : Nat) (h0 : Heap) (n0 : Nat) (v : Option Value) (h : Heap) (L : List Loc) : Prop := v = none ∧ Fr n0 L ∧ Keep h0 h [sp, bm, ab] ∧ own_P Z h sp bm ab cap n
set_option maxRecDepth 65536 in
set_option maxHeartbeats 8000000 in
theorem rmSW (l : Launch) (Z : State) (a0 : Array Value) (hw : ∀ d ∈ tables_1, d.before a0 Z = true) (ws : List Jvm.Cond) (h0 : Heap) (n0 : Nat) (sp bm ab : Addr) (cap : Int32) (n : Nat) (a1 : Addr) (k1 : ClassId) (vs1 : List Value) (f k z : Nat) (A1 : Arv Z h0 a1 k1 .byte (Int32.ofNat z) vs1 (.int 0)) (hfk : f + k ≤ z) (hz : z ≤ 16) (hnk : n + k ≤ 32) (M : own_P Z h0 sp bm ab cap n) (g1 : n0 ≤ bm) (g2 : n0 ≤ ab) (g3 : n0 ≤ sp) (nb : a1 ≠ bm) (hcap : ¬ cap < Int32.ofNat (n + k)) :
    own_C l Z (⟨"com/example/keepd/keepd/http/Spool", "write", "([BII)V"⟩ : MethodName) prog_23_method_3_code 4 none ws ({ frames := 3, cells := 0, slots := 0, locals := 76 } : Room) #[(.ref sp), (.ref a1), (.int (Int32.ofNat f)), (.int (Int32.ofNat k))] h0 (own_Qp Z sp bm ab cap (n + k) h0 n0) := by
  refine own_body (ls := #[.val (.ref sp), .val (.ref a1), .val (.int (Int32.ofNat f)), .val (.int (Int32.ofNat k))]) pn_8 (fun m => by first | (simp [entryFrame, mkF, argsToLocals, Value.category]; done) | rfl) ?_
  intro p e s m below meth c T0 hZ hx hby hml hown hnm hret hlk X0 e0
  replace hml : c.maxLocals = 4 := hml
  have N0 := Fr.nil n0
  obtain ⟨E, Ff, Fm, Fi, Fs, M, ne1, ne2⟩ := M
  have M0 := M
  obtain ⟨Eb, U, -, Fc, ne, -⟩ := M
  refine own_go (fun _ => XS.aloadN X0.here hx rfl (hb hby d8_0) rfl rfl) ?_
  show own_R p.tables e below _ T0 (mkF m 1 #[.val (.ref sp), .val (.ref a1), .val (.int (Int32.ofNat f)), .val (.int (Int32.ofNat k))] [(.ref sp)])
  obtain ⟨T1, X1, e1, st1⟩ := getF X0 hx hZ hown (host := "") (Or.inl (hw _ (List.mem_of_getElem? (i := 52) rfl))) Via.refl e0 Ff (g := (mkF m 1 #[.val (.ref sp), .val (.ref a1), .val (.int (Int32.ofNat f)), .val (.int (Int32.ofNat k))] [(.ref sp)])) rfl rfl (hb hby d8_1)
  refine own_go st1 ?_
  show own_R p.tables e below _ T1 (mkF m 4 #[.val (.ref sp), .val (.ref a1), .val (.int (Int32.ofNat f)), .val (.int (Int32.ofNat k))] [.null])
  refine own_go (fun _ => XS.ifnonnullNo X1.here hx rfl (hb hby d8_4) rfl) ?_
  show own_R p.tables e below _ T1 (mkF m 7 #[.val (.ref sp), .val (.ref a1), .val (.int (Int32.ofNat f)), .val (.int (Int32.ofNat k))] [])
  refine own_go (fun _ => XS.aloadN X1.here hx rfl (hb hby d8_7) rfl rfl) ?_
  show own_R p.tables e below _ T1 (mkF m 8 #[.val (.ref sp), .val (.ref a1), .val (.int (Int32.ofNat f)), .val (.int (Int32.ofNat k))] [(.ref sp)])
  obtain ⟨T2, X2, e2, st2⟩ := getF X1 hx hZ hown (host := "") (Or.inl (hw _ (List.mem_of_getElem? (i := 41) rfl))) Via.refl e1 Fm (g := (mkF m 8 #[.val (.ref sp), .val (.ref a1), .val (.int (Int32.ofNat f)), .val (.int (Int32.ofNat k))] [(.ref sp)])) rfl rfl (hb hby d8_8)
  refine own_go st2 ?_
  show own_R p.tables e below _ T2 (mkF m 11 #[.val (.ref sp), .val (.ref a1), .val (.int (Int32.ofNat f)), .val (.int (Int32.ofNat k))] [(.ref bm)])
  obtain ⟨v3, T3, L3, X3, Q3, st3⟩ := own_callVS X2 hx hZ hown (y := (⟨"java/io/ByteArrayOutputStream", "size", "()I"⟩ : MethodName)) (hw _ (List.mem_of_getElem? (i := 62) rfl)) (hw _ (List.mem_of_getElem? (i := 63) rfl)) (hw _ (List.mem_of_getElem? (i := 65) rfl)) (hw _ (List.mem_of_getElem? (i := 64) rfl)) (hw _ (List.mem_of_getElem? (i := 66) rfl)) (hw _ (List.mem_of_getElem? (i := 29) rfl)) (by decide) (b := bm) (rmSize l Z a0 hw h0 n0 bm n Fc) Eb U (W := 0) (g := (mkF m 11 #[.val (.ref sp), .val (.ref a1), .val (.int (Int32.ofNat f)), .val (.int (Int32.ofNat k))] [(.ref bm)])) rfl (by rw [hml]; rfl) (argsL := []) (rest := []) (lenOf pd___I rfl) rfl rfl (by show 2 * 0 + _ ≤ _; exact Nat.le_of_eq rfl) (hb hby d8_11) e2 (by decide) (by decide) (by decide) (by decide)
  obtain ⟨rfl, N3q, e3⟩ := Q3
  have N3 := Fr.app N0 N3q
  refine own_go st3 ?_
  show own_R p.tables e below _ T3 (mkF m 14 #[.val (.ref sp), .val (.ref a1), .val (.int (Int32.ofNat f)), .val (.int (Int32.ofNat k))] [(.int (Int32.ofNat n))])
  refine own_go (fun _ => XS.iloadN X3.here hx rfl (hb hby d8_14) rfl ) ?_
  show own_R p.tables e below _ T3 (mkF m 15 #[.val (.ref sp), .val (.ref a1), .val (.int (Int32.ofNat f)), .val (.int (Int32.ofNat k))] [(.int (Int32.ofNat k)), (.int (Int32.ofNat n))])
  refine own_go (fun _ => XS.iadd X3.here hx rfl (hb hby d8_15) rfl) ?_
  show own_R p.tables e below _ T3 (mkF m 16 #[.val (.ref sp), .val (.ref a1), .val (.int (Int32.ofNat f)), .val (.int (Int32.ofNat k))] [(.int ((Int32.ofNat n) + (Int32.ofNat k)))])
  refine own_go (fun _ => XS.aloadN X3.here hx rfl (hb hby d8_16) rfl rfl) ?_
  show own_R p.tables e below _ T3 (mkF m 17 #[.val (.ref sp), .val (.ref a1), .val (.int (Int32.ofNat f)), .val (.int (Int32.ofNat k))] [(.ref sp), (.int ((Int32.ofNat n) + (Int32.ofNat k)))])
  obtain ⟨T4, X4, e4, st4⟩ := getF X3 hx hZ hown (host := "") (Or.inl (hw _ (List.mem_of_getElem? (i := 43) rfl))) Via.refl e3 Fi (g := (mkF m 17 #[.val (.ref sp), .val (.ref a1), .val (.int (Int32.ofNat f)), .val (.int (Int32.ofNat k))] [(.ref sp), (.int ((Int32.ofNat n) + (Int32.ofNat k)))])) rfl rfl (hb hby d8_17)
  refine own_go st4 ?_
  show own_R p.tables e below _ T4 (mkF m 20 #[.val (.ref sp), .val (.ref a1), .val (.int (Int32.ofNat f)), .val (.int (Int32.ofNat k))] [(.int cap), (.int ((Int32.ofNat n) + (Int32.ofNat k)))])
  refine own_go (fun _ => XS.icmpYes X4.here hx rfl (pc0 := 20) (pc' := 85) rfl (hb hby d8_20) rfl (flt (by rw [own_add]; exact hcap : ¬ (cap < (Int32.ofNat n + Int32.ofNat k)))).2.2.2 (by decide) (by decide)) ?_
  show own_R p.tables e below _ T4 (mkF m 85 #[.val (.ref sp), .val (.ref a1), .val (.int (Int32.ofNat f)), .val (.int (Int32.ofNat k))] [])
  refine own_go (fun _ => XS.aloadN X4.here hx rfl (hb hby d8_85) rfl rfl) ?_
  show own_R p.tables e below _ T4 (mkF m 86 #[.val (.ref sp), .val (.ref a1), .val (.int (Int32.ofNat f)), .val (.int (Int32.ofNat k))] [(.ref sp)])
  obtain ⟨T5, X5, e5, st5⟩ := getF X4 hx hZ hown (host := "") (Or.inl (hw _ (List.mem_of_getElem? (i := 52) rfl))) Via.refl e4 Ff (g := (mkF m 86 #[.val (.ref sp), .val (.ref a1), .val (.int (Int32.ofNat f)), .val (.int (Int32.ofNat k))] [(.ref sp)])) rfl rfl (hb hby d8_86)
  refine own_go st5 ?_
  show own_R p.tables e below _ T5 (mkF m 89 #[.val (.ref sp), .val (.ref a1), .val (.int (Int32.ofNat f)), .val (.int (Int32.ofNat k))] [.null])
  refine own_go (fun _ => XS.ifnonnullNo X5.here hx rfl (hb hby d8_89) rfl) ?_
  show own_R p.tables e below _ T5 (mkF m 92 #[.val (.ref sp), .val (.ref a1), .val (.int (Int32.ofNat f)), .val (.int (Int32.ofNat k))] [])
  refine own_go (fun _ => XS.aloadN X5.here hx rfl (hb hby d8_92) rfl rfl) ?_
  show own_R p.tables e below _ T5 (mkF m 93 #[.val (.ref sp), .val (.ref a1), .val (.int (Int32.ofNat f)), .val (.int (Int32.ofNat k))] [(.ref sp)])
  obtain ⟨T6, X6, e6, st6⟩ := getF X5 hx hZ hown (host := "") (Or.inl (hw _ (List.mem_of_getElem? (i := 41) rfl))) Via.refl e5 Fm (g := (mkF m 93 #[.val (.ref sp), .val (.ref a1), .val (.int (Int32.ofNat f)), .val (.int (Int32.ofNat k))] [(.ref sp)])) rfl rfl (hb hby d8_93)
  refine own_go st6 ?_
  show own_R p.tables e below _ T6 (mkF m 96 #[.val (.ref sp), .val (.ref a1), .val (.int (Int32.ofNat f)), .val (.int (Int32.ofNat k))] [(.ref bm)])
  refine own_go (fun _ => XS.aloadN X6.here hx rfl (hb hby d8_96) rfl rfl) ?_
  show own_R p.tables e below _ T6 (mkF m 97 #[.val (.ref sp), .val (.ref a1), .val (.int (Int32.ofNat f)), .val (.int (Int32.ofNat k))] [(.ref a1), (.ref bm)])
  refine own_go (fun _ => XS.iloadN X6.here hx rfl (hb hby d8_97) rfl ) ?_
  show own_R p.tables e below _ T6 (mkF m 98 #[.val (.ref sp), .val (.ref a1), .val (.int (Int32.ofNat f)), .val (.int (Int32.ofNat k))] [(.int (Int32.ofNat f)), (.ref a1), (.ref bm)])
  refine own_go (fun _ => XS.iloadN X6.here hx rfl (hb hby d8_98) rfl ) ?_
  show own_R p.tables e below _ T6 (mkF m 99 #[.val (.ref sp), .val (.ref a1), .val (.int (Int32.ofNat f)), .val (.int (Int32.ofNat k))] [(.int (Int32.ofNat k)), (.int (Int32.ofNat f)), (.ref a1), (.ref bm)])
  obtain ⟨v7, T7, L7, X7, Q7, st7⟩ := own_callVS X6 hx hZ hown (y := (⟨"java/io/ByteArrayOutputStream", "write", "([BII)V"⟩ : MethodName)) (hw _ (List.mem_of_getElem? (i := 69) rfl)) (hw _ (List.mem_of_getElem? (i := 70) rfl)) (hw _ (List.mem_of_getElem? (i := 72) rfl)) (hw _ (List.mem_of_getElem? (i := 71) rfl)) (hw _ (List.mem_of_getElem? (i := 73) rfl)) (hw _ (List.mem_of_getElem? (i := 29) rfl)) (by decide) (b := bm) (rmW l Z a0 hw h0 n0 bm ab n a1 k1 vs1 f k z A1 hfk hz hnk M0 g1 g2 nb) Eb U (W := 0) (g := (mkF m 99 #[.val (.ref sp), .val (.ref a1), .val (.int (Int32.ofNat f)), .val (.int (Int32.ofNat k))] [(.int (Int32.ofNat k)), (.int (Int32.ofNat f)), (.ref a1), (.ref bm)])) rfl (by rw [hml]; rfl) (argsL := [(.ref a1), (.int (Int32.ofNat f)), (.int (Int32.ofNat k))]) (rest := []) (lenOf pd___BII_V rfl) rfl rfl (by show 2 * 0 + _ ≤ _; exact Nat.le_of_eq rfl) (hb hby d8_99) e6 (by decide) (by decide) (by decide) (by decide)
  obtain ⟨rfl, N7q, K7, M7⟩ := Q7
  have N7 := Fr.app N3 N7q
  refine own_go st7 ?_
  show own_R p.tables e below _ T7 (mkF m 102 #[.val (.ref sp), .val (.ref a1), .val (.int (Int32.ofNat f)), .val (.int (Int32.ofNat k))] [])
  obtain ⟨h7, e7⟩ : ∃ z, T7.heap = z := ⟨_, rfl⟩
  rw [e7] at K7 M7
  have ns : sp ∉ [bm, ab] := by simp [Ne.symm ne1, Ne.symm ne2]
  replace Ff := Ff.keep K7 ns
  replace Fm := Fm.keep K7 ns
  replace Fi := Fi.keep K7 ns
  replace Fs := Fs.keep K7 ns
  replace E := E.keep K7
  refine own_go (fun _ => XS.goto X7.here hx rfl (pc0 := 102) (pc' := 115) rfl (hb hby d8_102) (by decide) (by decide)) ?_
  show own_R p.tables e below _ T7 (mkF m 115 #[.val (.ref sp), .val (.ref a1), .val (.int (Int32.ofNat f)), .val (.int (Int32.ofNat k))] [])
  refine own_go (fun _ => XS.aloadN X7.here hx rfl (hb hby d8_115) rfl rfl) ?_
  show own_R p.tables e below _ T7 (mkF m 116 #[.val (.ref sp), .val (.ref a1), .val (.int (Int32.ofNat f)), .val (.int (Int32.ofNat k))] [(.ref sp)])
  refine own_go (fun _ => XS.dup X7.here hx rfl (hb hby d8_116) rfl rfl) ?_
  show own_R p.tables e below _ T7 (mkF m 117 #[.val (.ref sp), .val (.ref a1), .val (.int (Int32.ofNat f)), .val (.int (Int32.ofNat k))] [(.ref sp), (.ref sp)])
  obtain ⟨T8, X8, e8, st8⟩ := getF X7 hx hZ hown (host := "") (Or.inl (hw _ (List.mem_of_getElem? (i := 55) rfl))) Via.refl e7 Fs (g := (mkF m 117 #[.val (.ref sp), .val (.ref a1), .val (.int (Int32.ofNat f)), .val (.int (Int32.ofNat k))] [(.ref sp), (.ref sp)])) rfl rfl (hb hby d8_117)
  refine own_go st8 ?_
  show own_R p.tables e below _ T8 (mkF m 120 #[.val (.ref sp), .val (.ref a1), .val (.int (Int32.ofNat f)), .val (.int (Int32.ofNat k))] [(.long (Int64.ofNat n)), (.ref sp)])
  refine own_go (fun _ => XS.iloadN X8.here hx rfl (hb hby d8_120) rfl ) ?_
  show own_R p.tables e below _ T8 (mkF m 121 #[.val (.ref sp), .val (.ref a1), .val (.int (Int32.ofNat f)), .val (.int (Int32.ofNat k))] [(.int (Int32.ofNat k)), (.long (Int64.ofNat n)), (.ref sp)])
  refine own_go (fun _ => XS.i2l X8.here hx rfl (hb hby d8_121) rfl) ?_
  show own_R p.tables e below _ T8 (mkF m 122 #[.val (.ref sp), .val (.ref a1), .val (.int (Int32.ofNat f)), .val (.int (Int32.ofNat k))] [(.long ((Int32.ofNat k).toInt64)), (.long (Int64.ofNat n)), (.ref sp)])
  refine own_go (fun _ => XS.ladd X8.here hx rfl (hb hby d8_122) rfl) ?_
  show own_R p.tables e below _ T8 (mkF m 123 #[.val (.ref sp), .val (.ref a1), .val (.int (Int32.ofNat f)), .val (.int (Int32.ofNat k))] [(.long ((Int64.ofNat n) + ((Int32.ofNat k).toInt64))), (.ref sp)])
  obtain ⟨T9, h9, X9, e9, W9, st9⟩ := putF X8 hx hZ hown (host := "") (Or.inl (hw _ (List.mem_of_getElem? (i := 55) rfl))) Via.refl e8 Fs E (Or.inl (hw _ (List.mem_of_getElem? (i := 56) rfl))) (hw _ (List.mem_of_getElem? (i := 7) rfl)) (ty := .long) (by decide) rfl rfl (g := (mkF m 123 #[.val (.ref sp), .val (.ref a1), .val (.int (Int32.ofNat f)), .val (.int (Int32.ofNat k))] [(.long ((Int64.ofNat n) + ((Int32.ofNat k).toInt64))), (.ref sp)])) rfl rfl (hb hby d8_123)
  refine own_go st9 ?_
  show own_R p.tables e below _ T9 (mkF m 126 #[.val (.ref sp), .val (.ref a1), .val (.int (Int32.ofNat f)), .val (.int (Int32.ofNat k))] [])
  have N9 := Fr.snoc X9 N7 g3
  have Fs9 := Fs.same W9
  rw [own_i2l (by omega), ← Int64.ofNat_add] at Fs9
  have Ff9 := Ff.other W9 (Or.inr (slot_ne (Or.inl (hw _ (List.mem_of_getElem? (i := 53) rfl))) (Or.inl (hw _ (List.mem_of_getElem? (i := 56) rfl))) (by decide) (t := (.object "java/io/OutputStream")) (t' := .long) (by decide) (by decide)))
  have Fm9 := Fm.other W9 (Or.inr (slot_ne (Or.inl (hw _ (List.mem_of_getElem? (i := 42) rfl))) (Or.inl (hw _ (List.mem_of_getElem? (i := 56) rfl))) (by decide) (t := (.object "java/io/ByteArrayOutputStream")) (t' := .long) (by decide) (by decide)))
  have Fi9 := Fi.other W9 (Or.inr (slot_ne (Or.inr (hw _ (List.mem_of_getElem? (i := 44) rfl))) (Or.inl (hw _ (List.mem_of_getElem? (i := 56) rfl))) (by decide) (t := .int) (t' := .long) (by decide) (by decide)))
  have M9 := M7.keep (Keep.of_wr W9) (own_ni ne1) (own_ni ne2)
  have K9 : Keep h0 h9 [sp, bm, ab] := ((Keep.refl h0 [sp, bm, ab]).trans K7 (fun x hx => Or.inl (List.mem_cons_of_mem _ hx))).wr W9 (Or.inl (by simp))
  exact own_end X9 none (fun _ => rfl) hlk (fun fs hr => X9.returnOut hx hret (hb hby d8_126) hr) (by show own_Qp Z sp bm ab cap (n + k) h0 n0 _ T9.heap _; rw [e9]; exact ⟨rfl, N9, K9, E.wr W9, Ff9, Fm9, Fi9, Fs9, M9, ne1, ne2⟩) (by decide) (by decide)
set_option maxRecDepth 65536 in
set_option maxHeartbeats 8000000 in
theorem rmSI (l : Launch) (Z : State) (a0 : Array Value) (hw : ∀ d ∈ tables_1, d.before a0 Z = true) (ws : List Jvm.Cond) (h0 : Heap) (n0 : Nat) (sp bm ab : Addr) (cap by_ : Int32) (n : Nat) (hnk : n + 1 ≤ 32) (M : own_P Z h0 sp bm ab cap n) (gb : n0 ≤ bm) (ga : n0 ≤ ab) (gs : n0 ≤ sp) (Z0 : n0 ≤ h0.size) (hcap : ¬ cap < Int32.ofNat (n + 1)) :
    own_C l Z (⟨"com/example/keepd/keepd/http/Spool", "write", "(I)V"⟩ : MethodName) prog_23_method_2_code 2 none ws ({ frames := 4, cells := 1, slots := 1, locals := 92 } : Room) #[(.ref sp), (.int by_)] h0 (own_Qp Z sp bm ab cap (n + 1) h0 n0) := by
  refine own_body (ls := #[.val (.ref sp), .val (.int by_)]) pn_12 (fun m => by first | (simp [entryFrame, mkF, argsToLocals, Value.category]; done) | rfl) ?_
  intro p e s m below meth c T0 hZ hx hby hml hown hnm hret hlk X0 e0
  replace hml : c.maxLocals = 2 := hml
  have N0 := Fr.nil n0
  refine own_go (fun _ => XS.aloadN X0.here hx rfl (hb hby d12_0) rfl rfl) ?_
  show own_R p.tables e below _ T0 (mkF m 1 #[.val (.ref sp), .val (.int by_)] [(.ref sp)])
  refine own_go (fun _ => XS.iconst X0.here hx rfl (hb hby d12_1)) ?_
  show own_R p.tables e below _ T0 (mkF m 2 #[.val (.ref sp), .val (.int by_)] [(.int (1 : Int32)), (.ref sp)])
  obtain ⟨T1, h1, k1, X1, e1, E1, A1, st1⟩ := newP X0 hx hZ (hw _ (List.mem_of_getElem? (i := 5) rfl)) e0 (g := (mkF m 2 #[.val (.ref sp), .val (.int by_)] [(.int (1 : Int32)), (.ref sp)])) rfl (hb hby d12_2) rfl (by decide) (cap := 1) (by decide) (by decide) (by decide) (by decide)
  obtain ⟨a1, g1⟩ : ∃ z, z = h0.size := ⟨_, rfl⟩
  rw [← g1] at A1 st1
  refine own_go st1 ?_
  show own_R p.tables e below _ T1 (mkF m 4 #[.val (.ref sp), .val (.int by_)] [(.ref a1), (.ref sp)])
  refine own_go (fun _ => XS.dup X1.here hx rfl (hb hby d12_4) rfl rfl) ?_
  show own_R p.tables e below _ T1 (mkF m 5 #[.val (.ref sp), .val (.int by_)] [(.ref a1), (.ref a1), (.ref sp)])
  refine own_go (fun _ => XS.iconst X1.here hx rfl (hb hby d12_5)) ?_
  show own_R p.tables e below _ T1 (mkF m 6 #[.val (.ref sp), .val (.int by_)] [(.int (0 : Int32)), (.ref a1), (.ref a1), (.ref sp)])
  refine own_go (fun _ => XS.iloadN X1.here hx rfl (hb hby d12_6) rfl ) ?_
  show own_R p.tables e below _ T1 (mkF m 7 #[.val (.ref sp), .val (.int by_)] [(.int by_), (.int (0 : Int32)), (.ref a1), (.ref a1), (.ref sp)])
  refine own_go (fun _ => XS.i2b X1.here hx rfl (hb hby d12_7) rfl) ?_
  show own_R p.tables e below _ T1 (mkF m 8 #[.val (.ref sp), .val (.int by_)] [(.int (by_.toInt8.toInt32)), (.int (0 : Int32)), (.ref a1), (.ref a1), (.ref sp)])
  have A1v : Arv Z h1 a1 k1 .byte 1 [.int 0] (.int 0) := (Arv.new A1 (by decide)).pad (fun i => by rcases i with _ | i <;> rfl)
  obtain ⟨cl1, Ar1, qa, qb, qc, qd, qe⟩ := A1v
  obtain ⟨T2, h2, X2, e2, W2, st2⟩ := stB X1 hx hZ e1 Ar1 (j := (0 : Int32)) (by rw [qb]; decide) (g := (mkF m 8 #[.val (.ref sp), .val (.int by_)] [(.int (by_.toInt8.toInt32)), (.int (0 : Int32)), (.ref a1), (.ref a1), (.ref sp)])) rfl rfl (hb hby d12_8)
  have A2v := Arv.set Ar1 qa qb qc qd qe (fits_nar_byte _) W2 0 rfl (by decide)
  refine own_go st2 ?_
  show own_R p.tables e below _ T2 (mkF m 9 #[.val (.ref sp), .val (.int by_)] [(.ref a1), (.ref sp)])
  have N2 := Fr.snoc X2 N0 (by omega : n0 ≤ a1)
  have M1 := M.ext E1
  have KK := Keep.of_wr W2
  obtain ⟨E, Ff, Fm, Fi, Fs, M, ne1, ne2⟩ := M
  have lb : bm < h0.size := M.1.lt
  have ls : sp < h0.size := E.lt
  obtain ⟨_, _, _, _, _, _, _, _, Ab⟩ := M
  have la : ab < h0.size := Ab.lt
  have n1 : a1 ≠ bm := own_ne (Nat.lt_of_lt_of_le lb (Nat.le_of_eq g1.symm))
  have n2 : a1 ≠ sp := own_ne (Nat.lt_of_lt_of_le ls (Nat.le_of_eq g1.symm))
  have n3 : a1 ≠ ab := own_ne (Nat.lt_of_lt_of_le la (Nat.le_of_eq g1.symm))
  obtain ⟨E, Ff, Fm, Fi, Fs, M, -, -⟩ := M1
  have M2 : own_P Z h2 sp bm ab cap n := ⟨E.keep KK, Ff.keep KK (own_ni (Ne.symm n2)), Fm.keep KK (own_ni (Ne.symm n2)), Fi.keep KK (own_ni (Ne.symm n2)), Fs.keep KK (own_ni (Ne.symm n2)), M.keep KK (own_ni (Ne.symm n1)) (own_ni (Ne.symm n3)), ne1, ne2⟩
  refine own_go (fun _ => XS.iconst X2.here hx rfl (hb hby d12_9)) ?_
  show own_R p.tables e below _ T2 (mkF m 10 #[.val (.ref sp), .val (.int by_)] [(.int (0 : Int32)), (.ref a1), (.ref sp)])
  refine own_go (fun _ => XS.iconst X2.here hx rfl (hb hby d12_10)) ?_
  show own_R p.tables e below _ T2 (mkF m 11 #[.val (.ref sp), .val (.int by_)] [(.int (1 : Int32)), (.int (0 : Int32)), (.ref a1), (.ref sp)])
  obtain ⟨v3, T3, L3, X3, Q3, st3⟩ := own_callV X2 hx hZ hown (y := (⟨"com/example/keepd/keepd/http/Spool", "write", "([BII)V"⟩ : MethodName)) (hw _ (List.mem_of_getElem? (i := 96) rfl)) (hw _ (List.mem_of_getElem? (i := 58) rfl)) (hw _ (List.mem_of_getElem? (i := 60) rfl)) (hw _ (List.mem_of_getElem? (i := 59) rfl)) (hw _ (List.mem_of_getElem? (i := 61) rfl)) (hw _ (List.mem_of_getElem? (i := 8) rfl)) (by decide) (rmSW l Z a0 hw [] h2 n0 sp bm ab cap n a1 k1 _ 0 1 1 A2v (by decide) (by decide) hnk M2 gb ga gs n1 hcap) M2.1 (W := 0) (g := (mkF m 11 #[.val (.ref sp), .val (.int by_)] [(.int (1 : Int32)), (.int (0 : Int32)), (.ref a1), (.ref sp)])) rfl (by rw [hml]; rfl) (b := sp) (argsL := [(.ref a1), (.int (0 : Int32)), (.int (1 : Int32))]) (rest := []) (lenOf pd___BII_V rfl) rfl rfl (by show 2 * 0 + _ ≤ _; exact Nat.le_of_eq rfl) (hb hby d12_11) e2 (by decide) (by decide) (by decide) (by decide)
  obtain ⟨rfl, N3q, K3, M3⟩ := Q3
  have N3 := Fr.app N2 N3q
  refine own_go st3 ?_
  show own_R p.tables e below _ T3 (mkF m 14 #[.val (.ref sp), .val (.int by_)] [])
  exact own_end X3 none (fun _ => rfl) hlk (fun fs hr => X3.returnOut hx hret (hb hby d12_14) hr) ⟨rfl, N3, (((Keep.refl h0 [sp, bm, ab]).ext E1).trans KK (fun x hx => Or.inr (by cases List.mem_singleton.mp hx; omega))).trans K3 (fun x hx => Or.inl hx), M3⟩ (by decide) (by decide)
set_option maxRecDepth 65536 in
set_option maxHeartbeats 40000000 in
theorem rm0 (l : Launch) (Z : State) (a0 : Array Value) (hw : ∀ d ∈ tables_1, d.before a0 Z = true) (ws : List Jvm.Cond) (h0 : Heap) (n0 : Nat) (cc n1 n2 ff : Int32) (Z0 : n0 ≤ h0.size) :
    own_CW l Z x code maxLocals ret ws room_1 #[(.int cc), (.int n1), (.int n2), (.int ff)] h0 (own_Q0 n0) := by
  refine own_bodyW (ls := #[.val (.int cc), .val (.int n1), .val (.int n2), .val (.int ff), .unset, .unset, .unset, .unset, .unset, .unset, .unset, .unset, .unset, .unset, .unset, .unset, .unset, .unset, .unset]) pn_0 (fun m => by first | (simp [entryFrame, mkF, argsToLocals, Value.category, maxLocals]; done) | rfl) ?_
  intro p e s m below meth c T0 hZ hx hby hml hown hnm hret hlk X0 e0
  replace hml : c.maxLocals = 19 := hml
  have N0 := Fr.nil n0
  have wS : ∀ a ∈ Bundle.stringAtoms, a.before a0 Z = true := by
    intro a ha
    simp only [Bundle.stringAtoms, List.mem_cons, List.not_mem_nil, or_false] at ha
    rcases ha with rfl | rfl | rfl | rfl | rfl | rfl | rfl
    all_goals first | exact (hw _ (List.mem_of_getElem? (i := 10) rfl)) | exact (hw _ (List.mem_of_getElem? (i := 11) rfl)) | exact (hw _ (List.mem_of_getElem? (i := 5) rfl)) | exact (hw _ (List.mem_of_getElem? (i := 12) rfl)) | exact (hw _ (List.mem_of_getElem? (i := 13) rfl)) | exact (hw _ (List.mem_of_getElem? (i := 14) rfl)) | exact (hw _ (List.mem_of_getElem? (i := 15) rfl))
  obtain ⟨u1, hk1, q1⟩ := own_mask n1
  obtain ⟨u2, hk2, q2⟩ := own_mask n2
  refine own_go (fun _ => XS.iloadN X0.here hx rfl (hb hby at_0) rfl ) ?_
  show own_R p.tables e below _ T0 (mkF m 1 #[.val (.int cc), .val (.int n1), .val (.int n2), .val (.int ff), .unset, .unset, .unset, .unset, .unset, .unset, .unset, .unset, .unset, .unset, .unset, .unset, .unset, .unset, .unset] [(.int n1)])
  refine own_go (fun _ => XS.bipush X0.here hx rfl (hb hby at_1)) ?_
  show own_R p.tables e below _ T0 (mkF m 3 #[.val (.int cc), .val (.int n1), .val (.int n2), .val (.int ff), .unset, .unset, .unset, .unset, .unset, .unset, .unset, .unset, .unset, .unset, .unset, .unset, .unset, .unset, .unset] [(.int (15 : Int32)), (.int n1)])
  refine own_go (fun _ => XS.iand X0.here hx rfl (hb hby at_3) rfl) ?_
  show own_R p.tables e below _ T0 (mkF m 4 #[.val (.int cc), .val (.int n1), .val (.int n2), .val (.int ff), .unset, .unset, .unset, .unset, .unset, .unset, .unset, .unset, .unset, .unset, .unset, .unset, .unset, .unset, .unset] [(.int (n1 &&& (15 : Int32)))])
  rw [q1]
  show own_R p.tables e below _ T0 (mkF m 4 #[.val (.int cc), .val (.int n1), .val (.int n2), .val (.int ff), .unset, .unset, .unset, .unset, .unset, .unset, .unset, .unset, .unset, .unset, .unset, .unset, .unset, .unset, .unset] [(.int (Int32.ofNat u1))])
  refine own_go (fun _ => XS.istore X0.here hx rfl (hb hby at_4) rfl (l' := #[.val (.int cc), .val (.int n1), .val (.int n2), .val (.int ff), .val (.int (Int32.ofNat u1)), .unset, .unset, .unset, .unset, .unset, .unset, .unset, .unset, .unset, .unset, .unset, .unset, .unset, .unset]) rfl) ?_
  show own_R p.tables e below _ T0 (mkF m 6 #[.val (.int cc), .val (.int n1), .val (.int n2), .val (.int ff), .val (.int (Int32.ofNat u1)), .unset, .unset, .unset, .unset, .unset, .unset, .unset, .unset, .unset, .unset, .unset, .unset, .unset, .unset] [])
  refine own_go (fun _ => XS.iloadN X0.here hx rfl (hb hby at_6) rfl ) ?_
  show own_R p.tables e below _ T0 (mkF m 7 #[.val (.int cc), .val (.int n1), .val (.int n2), .val (.int ff), .val (.int (Int32.ofNat u1)), .unset, .unset, .unset, .unset, .unset, .unset, .unset, .unset, .unset, .unset, .unset, .unset, .unset, .unset] [(.int n2)])
  refine own_go (fun _ => XS.bipush X0.here hx rfl (hb hby at_7)) ?_
  show own_R p.tables e below _ T0 (mkF m 9 #[.val (.int cc), .val (.int n1), .val (.int n2), .val (.int ff), .val (.int (Int32.ofNat u1)), .unset, .unset, .unset, .unset, .unset, .unset, .unset, .unset, .unset, .unset, .unset, .unset, .unset, .unset] [(.int (15 : Int32)), (.int n2)])
  refine own_go (fun _ => XS.iand X0.here hx rfl (hb hby at_9) rfl) ?_
  show own_R p.tables e below _ T0 (mkF m 10 #[.val (.int cc), .val (.int n1), .val (.int n2), .val (.int ff), .val (.int (Int32.ofNat u1)), .unset, .unset, .unset, .unset, .unset, .unset, .unset, .unset, .unset, .unset, .unset, .unset, .unset, .unset] [(.int (n2 &&& (15 : Int32)))])
  rw [q2]
  show own_R p.tables e below _ T0 (mkF m 10 #[.val (.int cc), .val (.int n1), .val (.int n2), .val (.int ff), .val (.int (Int32.ofNat u1)), .unset, .unset, .unset, .unset, .unset, .unset, .unset, .unset, .unset, .unset, .unset, .unset, .unset, .unset] [(.int (Int32.ofNat u2))])
  refine own_go (fun _ => XS.istore X0.here hx rfl (hb hby at_10) rfl (l' := #[.val (.int cc), .val (.int n1), .val (.int n2), .val (.int ff), .val (.int (Int32.ofNat u1)), .val (.int (Int32.ofNat u2)), .unset, .unset, .unset, .unset, .unset, .unset, .unset, .unset, .unset, .unset, .unset, .unset, .unset]) rfl) ?_
  show own_R p.tables e below _ T0 (mkF m 12 #[.val (.int cc), .val (.int n1), .val (.int n2), .val (.int ff), .val (.int (Int32.ofNat u1)), .val (.int (Int32.ofNat u2)), .unset, .unset, .unset, .unset, .unset, .unset, .unset, .unset, .unset, .unset, .unset, .unset, .unset] [])
  refine own_go (fun _ => XS.iloadN X0.here hx rfl (hb hby at_12) rfl ) ?_
  show own_R p.tables e below _ T0 (mkF m 13 #[.val (.int cc), .val (.int n1), .val (.int n2), .val (.int ff), .val (.int (Int32.ofNat u1)), .val (.int (Int32.ofNat u2)), .unset, .unset, .unset, .unset, .unset, .unset, .unset, .unset, .unset, .unset, .unset, .unset, .unset] [(.int ff)])
  refine own_go (fun _ => XS.iconst X0.here hx rfl (hb hby at_13)) ?_
  show own_R p.tables e below _ T0 (mkF m 14 #[.val (.int cc), .val (.int n1), .val (.int n2), .val (.int ff), .val (.int (Int32.ofNat u1)), .val (.int (Int32.ofNat u2)), .unset, .unset, .unset, .unset, .unset, .unset, .unset, .unset, .unset, .unset, .unset, .unset, .unset] [(.int (1 : Int32)), (.int ff)])
  refine own_go (fun _ => XS.iand X0.here hx rfl (hb hby at_14) rfl) ?_
  show own_R p.tables e below _ T0 (mkF m 15 #[.val (.int cc), .val (.int n1), .val (.int n2), .val (.int ff), .val (.int (Int32.ofNat u1)), .val (.int (Int32.ofNat u2)), .unset, .unset, .unset, .unset, .unset, .unset, .unset, .unset, .unset, .unset, .unset, .unset, .unset] [(.int (ff &&& (1 : Int32)))])
  by_cases hf : (ff &&& (1 : Int32)) = (0 : Int32)
  · show own_R p.tables e below _ T0 (mkF m 15 #[.val (.int cc), .val (.int n1), .val (.int n2), .val (.int ff), .val (.int (Int32.ofNat u1)), .val (.int (Int32.ofNat u2)), .unset, .unset, .unset, .unset, .unset, .unset, .unset, .unset, .unset, .unset, .unset, .unset, .unset] [(.int (ff &&& (1 : Int32)))])
    refine own_go (fun _ => XS.ifYes X0.here hx rfl (pc0 := 15) (pc' := 22) rfl (hb hby at_15) rfl ((if0 _ _).trans (teq hf).1) (by decide) (by decide)) ?_
    show own_R p.tables e below _ T0 (mkF m 22 #[.val (.int cc), .val (.int n1), .val (.int n2), .val (.int ff), .val (.int (Int32.ofNat u1)), .val (.int (Int32.ofNat u2)), .unset, .unset, .unset, .unset, .unset, .unset, .unset, .unset, .unset, .unset, .unset, .unset, .unset] [])
    refine own_go (fun _ => XS.iconst X0.here hx rfl (hb hby at_22)) ?_
    show own_R p.tables e below _ T0 (mkF m 23 #[.val (.int cc), .val (.int n1), .val (.int n2), .val (.int ff), .val (.int (Int32.ofNat u1)), .val (.int (Int32.ofNat u2)), .unset, .unset, .unset, .unset, .unset, .unset, .unset, .unset, .unset, .unset, .unset, .unset, .unset] [(.int (0 : Int32))])
    refine own_go (fun _ => XS.istore X0.here hx rfl (hb hby at_23) rfl (l' := #[.val (.int cc), .val (.int n1), .val (.int n2), .val (.int ff), .val (.int (Int32.ofNat u1)), .val (.int (Int32.ofNat u2)), .val (.int (0 : Int32)), .unset, .unset, .unset, .unset, .unset, .unset, .unset, .unset, .unset, .unset, .unset, .unset]) rfl) ?_
    show own_R p.tables e below _ T0 (mkF m 25 #[.val (.int cc), .val (.int n1), .val (.int n2), .val (.int ff), .val (.int (Int32.ofNat u1)), .val (.int (Int32.ofNat u2)), .val (.int (0 : Int32)), .unset, .unset, .unset, .unset, .unset, .unset, .unset, .unset, .unset, .unset, .unset, .unset] [])
    refine own_go (fun _ => XS.iload X0.here hx rfl (hb hby at_25) rfl ) ?_
    show own_R p.tables e below _ T0 (mkF m 27 #[.val (.int cc), .val (.int n1), .val (.int n2), .val (.int ff), .val (.int (Int32.ofNat u1)), .val (.int (Int32.ofNat u2)), .val (.int (0 : Int32)), .unset, .unset, .unset, .unset, .unset, .unset, .unset, .unset, .unset, .unset, .unset, .unset] [(.int (0 : Int32))])
    refine own_go (fun _ => XS.ifYes X0.here hx rfl (pc0 := 27) (pc' := 34) rfl (hb hby at_27) rfl ((if0 _ _).trans (teq (by decide : ((0 : Int32) = (0 : Int32)))).1) (by decide) (by decide)) ?_
    show own_R p.tables e below _ T0 (mkF m 34 #[.val (.int cc), .val (.int n1), .val (.int n2), .val (.int ff), .val (.int (Int32.ofNat u1)), .val (.int (Int32.ofNat u2)), .val (.int (0 : Int32)), .unset, .unset, .unset, .unset, .unset, .unset, .unset, .unset, .unset, .unset, .unset, .unset] [])
    refine own_go (fun _ => XS.iconst X0.here hx rfl (hb hby at_34)) ?_
    show own_R p.tables e below _ T0 (mkF m 35 #[.val (.int cc), .val (.int n1), .val (.int n2), .val (.int ff), .val (.int (Int32.ofNat u1)), .val (.int (Int32.ofNat u2)), .val (.int (0 : Int32)), .unset, .unset, .unset, .unset, .unset, .unset, .unset, .unset, .unset, .unset, .unset, .unset] [(.int (0 : Int32))])
    refine own_go (fun _ => XS.istore X0.here hx rfl (hb hby at_35) rfl (l' := #[.val (.int cc), .val (.int n1), .val (.int n2), .val (.int ff), .val (.int (Int32.ofNat u1)), .val (.int (Int32.ofNat u2)), .val (.int (0 : Int32)), .val (.int (0 : Int32)), .unset, .unset, .unset, .unset, .unset, .unset, .unset, .unset, .unset, .unset, .unset]) rfl) ?_
    show own_R p.tables e below _ T0 (mkF m 37 #[.val (.int cc), .val (.int n1), .val (.int n2), .val (.int ff), .val (.int (Int32.ofNat u1)), .val (.int (Int32.ofNat u2)), .val (.int (0 : Int32)), .val (.int (0 : Int32)), .unset, .unset, .unset, .unset, .unset, .unset, .unset, .unset, .unset, .unset, .unset] [])
    refine own_go (fun _ => XS.iload X0.here hx rfl (hb hby at_37) rfl ) ?_
    show own_R p.tables e below _ T0 (mkF m 39 #[.val (.int cc), .val (.int n1), .val (.int n2), .val (.int ff), .val (.int (Int32.ofNat u1)), .val (.int (Int32.ofNat u2)), .val (.int (0 : Int32)), .val (.int (0 : Int32)), .unset, .unset, .unset, .unset, .unset, .unset, .unset, .unset, .unset, .unset, .unset] [(.int (Int32.ofNat u1))])
    refine own_go (fun _ => XS.iload X0.here hx rfl (hb hby at_39) rfl ) ?_
    show own_R p.tables e below _ T0 (mkF m 41 #[.val (.int cc), .val (.int n1), .val (.int n2), .val (.int ff), .val (.int (Int32.ofNat u1)), .val (.int (Int32.ofNat u2)), .val (.int (0 : Int32)), .val (.int (0 : Int32)), .unset, .unset, .unset, .unset, .unset, .unset, .unset, .unset, .unset, .unset, .unset] [(.int (Int32.ofNat u2)), (.int (Int32.ofNat u1))])
    refine own_go (fun _ => XS.iadd X0.here hx rfl (hb hby at_41) rfl) ?_
    show own_R p.tables e below _ T0 (mkF m 42 #[.val (.int cc), .val (.int n1), .val (.int n2), .val (.int ff), .val (.int (Int32.ofNat u1)), .val (.int (Int32.ofNat u2)), .val (.int (0 : Int32)), .val (.int (0 : Int32)), .unset, .unset, .unset, .unset, .unset, .unset, .unset, .unset, .unset, .unset, .unset] [(.int ((Int32.ofNat u1) + (Int32.ofNat u2)))])
    refine own_go (fun _ => XS.iload X0.here hx rfl (hb hby at_42) rfl ) ?_
    show own_R p.tables e below _ T0 (mkF m 44 #[.val (.int cc), .val (.int n1), .val (.int n2), .val (.int ff), .val (.int (Int32.ofNat u1)), .val (.int (Int32.ofNat u2)), .val (.int (0 : Int32)), .val (.int (0 : Int32)), .unset, .unset, .unset, .unset, .unset, .unset, .unset, .unset, .unset, .unset, .unset] [(.int (0 : Int32)), (.int ((Int32.ofNat u1) + (Int32.ofNat u2)))])
    refine own_go (fun _ => XS.iadd X0.here hx rfl (hb hby at_44) rfl) ?_
    show own_R p.tables e below _ T0 (mkF m 45 #[.val (.int cc), .val (.int n1), .val (.int n2), .val (.int ff), .val (.int (Int32.ofNat u1)), .val (.int (Int32.ofNat u2)), .val (.int (0 : Int32)), .val (.int (0 : Int32)), .unset, .unset, .unset, .unset, .unset, .unset, .unset, .unset, .unset, .unset, .unset] [(.int (((Int32.ofNat u1) + (Int32.ofNat u2)) + (0 : Int32)))])
    rw [own_need0 u1 u2]
    show own_R p.tables e below _ T0 (mkF m 45 #[.val (.int cc), .val (.int n1), .val (.int n2), .val (.int ff), .val (.int (Int32.ofNat u1)), .val (.int (Int32.ofNat u2)), .val (.int (0 : Int32)), .val (.int (0 : Int32)), .unset, .unset, .unset, .unset, .unset, .unset, .unset, .unset, .unset, .unset, .unset] [(.int (Int32.ofNat (u1 + u2 + 0)))])
    refine own_go (fun _ => XS.istore X0.here hx rfl (hb hby at_45) rfl (l' := #[.val (.int cc), .val (.int n1), .val (.int n2), .val (.int ff), .val (.int (Int32.ofNat u1)), .val (.int (Int32.ofNat u2)), .val (.int (0 : Int32)), .val (.int (0 : Int32)), .val (.int (Int32.ofNat (u1 + u2 + 0))), .unset, .unset, .unset, .unset, .unset, .unset, .unset, .unset, .unset, .unset]) rfl) ?_
    show own_R p.tables e below _ T0 (mkF m 47 #[.val (.int cc), .val (.int n1), .val (.int n2), .val (.int ff), .val (.int (Int32.ofNat u1)), .val (.int (Int32.ofNat u2)), .val (.int (0 : Int32)), .val (.int (0 : Int32)), .val (.int (Int32.ofNat (u1 + u2 + 0))), .unset, .unset, .unset, .unset, .unset, .unset, .unset, .unset, .unset, .unset] [])
    refine own_go (fun _ => XS.iloadN X0.here hx rfl (hb hby at_47) rfl ) ?_
    show own_R p.tables e below _ T0 (mkF m 48 #[.val (.int cc), .val (.int n1), .val (.int n2), .val (.int ff), .val (.int (Int32.ofNat u1)), .val (.int (Int32.ofNat u2)), .val (.int (0 : Int32)), .val (.int (0 : Int32)), .val (.int (Int32.ofNat (u1 + u2 + 0))), .unset, .unset, .unset, .unset, .unset, .unset, .unset, .unset, .unset, .unset] [(.int cc)])
    refine own_go (X0.ldcInt hx hown (mvT hZ (hw _ (List.mem_of_getElem? (i := 0) rfl))) (g := (mkF m 48 #[.val (.int cc), .val (.int n1), .val (.int n2), .val (.int ff), .val (.int (Int32.ofNat u1)), .val (.int (Int32.ofNat u2)), .val (.int (0 : Int32)), .val (.int (0 : Int32)), .val (.int (Int32.ofNat (u1 + u2 + 0))), .unset, .unset, .unset, .unset, .unset, .unset, .unset, .unset, .unset, .unset] [(.int cc)])) rfl (hb hby at_48)) ?_
    show own_R p.tables e below _ T0 (mkF m 50 #[.val (.int cc), .val (.int n1), .val (.int n2), .val (.int ff), .val (.int (Int32.ofNat u1)), .val (.int (Int32.ofNat u2)), .val (.int (0 : Int32)), .val (.int (0 : Int32)), .val (.int (Int32.ofNat (u1 + u2 + 0))), .unset, .unset, .unset, .unset, .unset, .unset, .unset, .unset, .unset, .unset] [(.int (2147483647 : Int32)), (.int cc)])
    refine own_go (fun _ => XS.iand X0.here hx rfl (hb hby at_50) rfl) ?_
    show own_R p.tables e below _ T0 (mkF m 51 #[.val (.int cc), .val (.int n1), .val (.int n2), .val (.int ff), .val (.int (Int32.ofNat u1)), .val (.int (Int32.ofNat u2)), .val (.int (0 : Int32)), .val (.int (0 : Int32)), .val (.int (Int32.ofNat (u1 + u2 + 0))), .unset, .unset, .unset, .unset, .unset, .unset, .unset, .unset, .unset, .unset] [(.int (cc &&& (2147483647 : Int32)))])
    refine own_go (fun _ => XS.iload X0.here hx rfl (hb hby at_51) rfl ) ?_
    show own_R p.tables e below _ T0 (mkF m 53 #[.val (.int cc), .val (.int n1), .val (.int n2), .val (.int ff), .val (.int (Int32.ofNat u1)), .val (.int (Int32.ofNat u2)), .val (.int (0 : Int32)), .val (.int (0 : Int32)), .val (.int (Int32.ofNat (u1 + u2 + 0))), .unset, .unset, .unset, .unset, .unset, .unset, .unset, .unset, .unset, .unset] [(.int (Int32.ofNat (u1 + u2 + 0))), (.int (cc &&& (2147483647 : Int32)))])
    obtain ⟨v1, T1, L1, X1, Q1, st1⟩ := own_callS X0 hx hZ hown (y := (⟨"java/lang/Math", "max", "(II)I"⟩ : MethodName)) (hw _ (List.mem_of_getElem? (i := 1) rfl)) (hw _ (List.mem_of_getElem? (i := 2) rfl)) (hw _ (List.mem_of_getElem? (i := 3) rfl)) (hw _ (List.mem_of_getElem? (i := 4) rfl)) (by decide) (rmMax l Z a0 hw [] h0 n0 (cc &&& (2147483647 : Int32)) (Int32.ofNat (u1 + u2 + 0))) (W := 0) (g := (mkF m 53 #[.val (.int cc), .val (.int n1), .val (.int n2), .val (.int ff), .val (.int (Int32.ofNat u1)), .val (.int (Int32.ofNat u2)), .val (.int (0 : Int32)), .val (.int (0 : Int32)), .val (.int (Int32.ofNat (u1 + u2 + 0))), .unset, .unset, .unset, .unset, .unset, .unset, .unset, .unset, .unset, .unset] [(.int (Int32.ofNat (u1 + u2 + 0))), (.int (cc &&& (2147483647 : Int32)))])) rfl (by rw [hml]; rfl) (argsL := [(.int (cc &&& (2147483647 : Int32))), (.int (Int32.ofNat (u1 + u2 + 0)))]) (rest := []) (lenOf pd__II_I rfl) rfl rfl (by show 2 * 0 + _ ≤ _; exact Nat.le_of_eq rfl) (hb hby at_53) e0 (by decide) (by decide) (by decide) (by decide)
    obtain ⟨rfl, N1q, e1⟩ := Q1
    have N1 := Fr.app N0 N1q
    have hcap : ∀ m, m ≤ (u1 + u2 + 0) → ¬ own_max (cc &&& (2147483647 : Int32)) (Int32.ofNat (u1 + u2 + 0)) < Int32.ofNat m := fun m hm => own_maxle hm (by omega)
    generalize own_max (cc &&& (2147483647 : Int32)) (Int32.ofNat (u1 + u2 + 0)) = cap at hcap st1
    refine own_go st1 ?_
    show own_R p.tables e below _ T1 (mkF m 56 #[.val (.int cc), .val (.int n1), .val (.int n2), .val (.int ff), .val (.int (Int32.ofNat u1)), .val (.int (Int32.ofNat u2)), .val (.int (0 : Int32)), .val (.int (0 : Int32)), .val (.int (Int32.ofNat (u1 + u2 + 0))), .unset, .unset, .unset, .unset, .unset, .unset, .unset, .unset, .unset, .unset] [(.int cap)])
    refine own_go (fun _ => XS.istore X1.here hx rfl (hb hby at_56) rfl (l' := #[.val (.int cc), .val (.int n1), .val (.int n2), .val (.int ff), .val (.int (Int32.ofNat u1)), .val (.int (Int32.ofNat u2)), .val (.int (0 : Int32)), .val (.int (0 : Int32)), .val (.int (Int32.ofNat (u1 + u2 + 0))), .val (.int cap), .unset, .unset, .unset, .unset, .unset, .unset, .unset, .unset, .unset]) rfl) ?_
    show own_R p.tables e below _ T1 (mkF m 58 #[.val (.int cc), .val (.int n1), .val (.int n2), .val (.int ff), .val (.int (Int32.ofNat u1)), .val (.int (Int32.ofNat u2)), .val (.int (0 : Int32)), .val (.int (0 : Int32)), .val (.int (Int32.ofNat (u1 + u2 + 0))), .val (.int cap), .unset, .unset, .unset, .unset, .unset, .unset, .unset, .unset, .unset] [])
    refine own_go (fun _ => XS.bipush X1.here hx rfl (hb hby at_58)) ?_
    show own_R p.tables e below _ T1 (mkF m 60 #[.val (.int cc), .val (.int n1), .val (.int n2), .val (.int ff), .val (.int (Int32.ofNat u1)), .val (.int (Int32.ofNat u2)), .val (.int (0 : Int32)), .val (.int (0 : Int32)), .val (.int (Int32.ofNat (u1 + u2 + 0))), .val (.int cap), .unset, .unset, .unset, .unset, .unset, .unset, .unset, .unset, .unset] [(.int (16 : Int32))])
    obtain ⟨T2, h2, k2, X2, e2, E2, A2, st2⟩ := newP X1 hx hZ (hw _ (List.mem_of_getElem? (i := 5) rfl)) e1 (g := (mkF m 60 #[.val (.int cc), .val (.int n1), .val (.int n2), .val (.int ff), .val (.int (Int32.ofNat u1)), .val (.int (Int32.ofNat u2)), .val (.int (0 : Int32)), .val (.int (0 : Int32)), .val (.int (Int32.ofNat (u1 + u2 + 0))), .val (.int cap), .unset, .unset, .unset, .unset, .unset, .unset, .unset, .unset, .unset] [(.int (16 : Int32))])) rfl (hb hby at_60) rfl (by decide) (cap := 16) (by decide) (by decide) (by decide) (by decide)
    obtain ⟨a2, g2⟩ : ∃ z, z = h0.size := ⟨_, rfl⟩
    rw [← g2] at A2 st2
    refine own_go st2 ?_
    show own_R p.tables e below _ T2 (mkF m 62 #[.val (.int cc), .val (.int n1), .val (.int n2), .val (.int ff), .val (.int (Int32.ofNat u1)), .val (.int (Int32.ofNat u2)), .val (.int (0 : Int32)), .val (.int (0 : Int32)), .val (.int (Int32.ofNat (u1 + u2 + 0))), .val (.int cap), .unset, .unset, .unset, .unset, .unset, .unset, .unset, .unset, .unset] [(.ref a2)])
    refine own_go (fun _ => XS.astore X2.here hx rfl (hb hby at_62) rfl rfl (l' := #[.val (.int cc), .val (.int n1), .val (.int n2), .val (.int ff), .val (.int (Int32.ofNat u1)), .val (.int (Int32.ofNat u2)), .val (.int (0 : Int32)), .val (.int (0 : Int32)), .val (.int (Int32.ofNat (u1 + u2 + 0))), .val (.int cap), .val (.ref a2), .unset, .unset, .unset, .unset, .unset, .unset, .unset, .unset]) rfl) ?_
    show own_R p.tables e below _ T2 (mkF m 64 #[.val (.int cc), .val (.int n1), .val (.int n2), .val (.int ff), .val (.int (Int32.ofNat u1)), .val (.int (Int32.ofNat u2)), .val (.int (0 : Int32)), .val (.int (0 : Int32)), .val (.int (Int32.ofNat (u1 + u2 + 0))), .val (.int cap), .val (.ref a2), .unset, .unset, .unset, .unset, .unset, .unset, .unset, .unset] [])
    refine own_go (fun _ => XS.bipush X2.here hx rfl (hb hby at_64)) ?_
    show own_R p.tables e below _ T2 (mkF m 66 #[.val (.int cc), .val (.int n1), .val (.int n2), .val (.int ff), .val (.int (Int32.ofNat u1)), .val (.int (Int32.ofNat u2)), .val (.int (0 : Int32)), .val (.int (0 : Int32)), .val (.int (Int32.ofNat (u1 + u2 + 0))), .val (.int cap), .val (.ref a2), .unset, .unset, .unset, .unset, .unset, .unset, .unset, .unset] [(.int (16 : Int32))])
    obtain ⟨T3, h3, k3, X3, e3, E3, A3, st3⟩ := newP X2 hx hZ (hw _ (List.mem_of_getElem? (i := 5) rfl)) e2 (g := (mkF m 66 #[.val (.int cc), .val (.int n1), .val (.int n2), .val (.int ff), .val (.int (Int32.ofNat u1)), .val (.int (Int32.ofNat u2)), .val (.int (0 : Int32)), .val (.int (0 : Int32)), .val (.int (Int32.ofNat (u1 + u2 + 0))), .val (.int cap), .val (.ref a2), .unset, .unset, .unset, .unset, .unset, .unset, .unset, .unset] [(.int (16 : Int32))])) rfl (hb hby at_66) rfl (by decide) (cap := 16) (by decide) (by decide) (by decide) (by decide)
    obtain ⟨a3, g3⟩ : ∃ z, z = h2.size := ⟨_, rfl⟩
    rw [← g3] at A3 st3
    refine own_go st3 ?_
    show own_R p.tables e below _ T3 (mkF m 68 #[.val (.int cc), .val (.int n1), .val (.int n2), .val (.int ff), .val (.int (Int32.ofNat u1)), .val (.int (Int32.ofNat u2)), .val (.int (0 : Int32)), .val (.int (0 : Int32)), .val (.int (Int32.ofNat (u1 + u2 + 0))), .val (.int cap), .val (.ref a2), .unset, .unset, .unset, .unset, .unset, .unset, .unset, .unset] [(.ref a3)])
    have B1 : Arv Z h3 a2 k2 .byte (Int32.ofNat 16) [] (.int 0) := (Arv.new A2 (by decide)).ext E3
    have B2 : Arv Z h3 a3 k3 .byte (Int32.ofNat 16) [] (.int 0) := Arv.new A3 (by decide)
    refine own_go (fun _ => XS.astore X3.here hx rfl (hb hby at_68) rfl rfl (l' := #[.val (.int cc), .val (.int n1), .val (.int n2), .val (.int ff), .val (.int (Int32.ofNat u1)), .val (.int (Int32.ofNat u2)), .val (.int (0 : Int32)), .val (.int (0 : Int32)), .val (.int (Int32.ofNat (u1 + u2 + 0))), .val (.int cap), .val (.ref a2), .val (.ref a3), .unset, .unset, .unset, .unset, .unset, .unset, .unset]) rfl) ?_
    show own_R p.tables e below _ T3 (mkF m 70 #[.val (.int cc), .val (.int n1), .val (.int n2), .val (.int ff), .val (.int (Int32.ofNat u1)), .val (.int (Int32.ofNat u2)), .val (.int (0 : Int32)), .val (.int (0 : Int32)), .val (.int (Int32.ofNat (u1 + u2 + 0))), .val (.int cap), .val (.ref a2), .val (.ref a3), .unset, .unset, .unset, .unset, .unset, .unset, .unset] [])
    obtain ⟨T4, h4, X4, e4, E4, A4, D4, -, st4⟩ := newO X3 hx hZ hown (hw _ (List.mem_of_getElem? (i := 6) rfl)) (hw _ (List.mem_of_getElem? (i := 7) rfl)) (hw _ (List.mem_of_getElem? (i := 8) rfl)) e3 (g := (mkF m 70 #[.val (.int cc), .val (.int n1), .val (.int n2), .val (.int ff), .val (.int (Int32.ofNat u1)), .val (.int (Int32.ofNat u2)), .val (.int (0 : Int32)), .val (.int (0 : Int32)), .val (.int (Int32.ofNat (u1 + u2 + 0))), .val (.int cap), .val (.ref a2), .val (.ref a3), .unset, .unset, .unset, .unset, .unset, .unset, .unset] [])) rfl (hb hby at_70) (by decide) (by decide)
    obtain ⟨a4, g4⟩ : ∃ z, z = h3.size := ⟨_, rfl⟩
    rw [← g4] at A4 D4 st4
    refine own_go st4 ?_
    show own_R p.tables e below _ T4 (mkF m 73 #[.val (.int cc), .val (.int n1), .val (.int n2), .val (.int ff), .val (.int (Int32.ofNat u1)), .val (.int (Int32.ofNat u2)), .val (.int (0 : Int32)), .val (.int (0 : Int32)), .val (.int (Int32.ofNat (u1 + u2 + 0))), .val (.int cap), .val (.ref a2), .val (.ref a3), .unset, .unset, .unset, .unset, .unset, .unset, .unset] [(.ref a4)])
    refine own_go (fun _ => XS.dup X4.here hx rfl (hb hby at_73) rfl rfl) ?_
    show own_R p.tables e below _ T4 (mkF m 74 #[.val (.int cc), .val (.int n1), .val (.int n2), .val (.int ff), .val (.int (Int32.ofNat u1)), .val (.int (Int32.ofNat u2)), .val (.int (0 : Int32)), .val (.int (0 : Int32)), .val (.int (Int32.ofNat (u1 + u2 + 0))), .val (.int cap), .val (.ref a2), .val (.ref a3), .unset, .unset, .unset, .unset, .unset, .unset, .unset] [(.ref a4), (.ref a4)])
    refine own_go (fun _ => XS.iload X4.here hx rfl (hb hby at_74) rfl ) ?_
    show own_R p.tables e below _ T4 (mkF m 76 #[.val (.int cc), .val (.int n1), .val (.int n2), .val (.int ff), .val (.int (Int32.ofNat u1)), .val (.int (Int32.ofNat u2)), .val (.int (0 : Int32)), .val (.int (0 : Int32)), .val (.int (Int32.ofNat (u1 + u2 + 0))), .val (.int cap), .val (.ref a2), .val (.ref a3), .unset, .unset, .unset, .unset, .unset, .unset, .unset] [(.int cap), (.ref a4), (.ref a4)])
    obtain ⟨a5, T5, h5, X5, e5, E5, S5, hZ, hown, st5⟩ := own_ldc X4 hx hZ hown (hw _ (List.mem_of_getElem? (i := 9) rfl)) wS e4 (g := (mkF m 76 #[.val (.int cc), .val (.int n1), .val (.int n2), .val (.int ff), .val (.int (Int32.ofNat u1)), .val (.int (Int32.ofNat u2)), .val (.int (0 : Int32)), .val (.int (0 : Int32)), .val (.int (Int32.ofNat (u1 + u2 + 0))), .val (.int cap), .val (.ref a2), .val (.ref a3), .unset, .unset, .unset, .unset, .unset, .unset, .unset] [(.int cap), (.ref a4), (.ref a4)])) rfl (hb hby at_76) (n := 4) (by decide) (by decide) (by decide) (by decide)
    refine own_go st5 ?_
    show own_R p.tables e below _ T5 (mkF m 78 #[.val (.int cc), .val (.int n1), .val (.int n2), .val (.int ff), .val (.int (Int32.ofNat u1)), .val (.int (Int32.ofNat u2)), .val (.int (0 : Int32)), .val (.int (0 : Int32)), .val (.int (Int32.ofNat (u1 + u2 + 0))), .val (.int cap), .val (.ref a2), .val (.ref a3), .unset, .unset, .unset, .unset, .unset, .unset, .unset] [(.ref a5), (.int cap), (.ref a4), (.ref a4)])
    have ge4 : n0 ≤ a4 := by have := E2.1; have := E3.1; omega
    have Z5 : n0 ≤ h5.size := by have := E2.1; have := E3.1; have := E4.1; have := E5.1; omega
    obtain ⟨v6, T6, L6, X6, Q6, st6⟩ := own_callI X5 hx hZ hown (y := (⟨"com/example/keepd/keepd/http/Spool", "<init>", "(ILjava/lang/String;)V"⟩ : MethodName)) rfl (hw _ (List.mem_of_getElem? (i := 16) rfl)) (hw _ (List.mem_of_getElem? (i := 17) rfl)) (hw _ (List.mem_of_getElem? (i := 18) rfl)) (hw _ (List.mem_of_getElem? (i := 8) rfl)) (by decide) (rmSp l Z a0 hw [] h5 n0 a4 a5 cap ge4 Z5 (A4.ext E5) ((D4 (Or.inl (hw _ (List.mem_of_getElem? (i := 53) rfl))) (ty := (.object "java/io/OutputStream")) (by decide)).ext E5) ((D4 (Or.inl (hw _ (List.mem_of_getElem? (i := 42) rfl))) (ty := (.object "java/io/ByteArrayOutputStream")) (by decide)).ext E5) ((D4 (Or.inr (hw _ (List.mem_of_getElem? (i := 44) rfl))) (ty := .int) (by decide)).ext E5) ((D4 (Or.inr (hw _ (List.mem_of_getElem? (i := 46) rfl))) (ty := (.object "java/lang/String")) (by decide)).ext E5) ((D4 (Or.inl (hw _ (List.mem_of_getElem? (i := 56) rfl))) (ty := .long) (by decide)).ext E5)) (W := 1) (g := (mkF m 78 #[.val (.int cc), .val (.int n1), .val (.int n2), .val (.int ff), .val (.int (Int32.ofNat u1)), .val (.int (Int32.ofNat u2)), .val (.int (0 : Int32)), .val (.int (0 : Int32)), .val (.int (Int32.ofNat (u1 + u2 + 0))), .val (.int cap), .val (.ref a2), .val (.ref a3), .unset, .unset, .unset, .unset, .unset, .unset, .unset] [(.ref a5), (.int cap), (.ref a4), (.ref a4)])) rfl (by rw [hml]; rfl) (a := a4) (argsL := [(.int cap), (.ref a5)]) (rest := [(.ref a4)]) (lenOf pd__ILjava_lang_String__V rfl) rfl rfl (by show 2 * 0 + _ ≤ _; exact Nat.le_of_eq rfl) (hb hby at_78) e5 (by decide) (by decide) (by decide) (by decide)
    obtain ⟨rfl, N6q, K6, bm, ab, gbm, gab, P6⟩ := Q6
    have N6 := Fr.app N1 N6q
    have gb : n0 ≤ bm := Nat.le_trans Z5 gbm
    have ga : n0 ≤ ab := Nat.le_trans Z5 gab
    have lt2 : a2 < h5.size := by have := E3.1; have := E4.1; have := E5.1; have : @LT.lt Nat instLTNat a2 (Array.size h2) := A2.lt; omega
    have lt3 : a3 < h5.size := by have := E4.1; have := E5.1; have : @LT.lt Nat instLTNat a3 (Array.size h3) := A3.lt; omega
    have lt4 : a4 < h5.size := (A4.ext E5).lt
    have n24 : a2 ≠ a4 := Ne.symm (own_ne (by have := E3.1; have : @LT.lt Nat instLTNat a2 (Array.size h2) := A2.lt; omega))
    have n34 : a3 ≠ a4 := Ne.symm (own_ne (by have : @LT.lt Nat instLTNat a3 (Array.size h3) := A3.lt; omega))
    have n2b : a2 ≠ bm := Ne.symm (own_ne (Nat.lt_of_lt_of_le lt2 gbm))
    have n3b : a3 ≠ bm := Ne.symm (own_ne (Nat.lt_of_lt_of_le lt3 gbm))
    have n3a : a3 ≠ ab := Ne.symm (own_ne (Nat.lt_of_lt_of_le lt3 gab))
    have C1 := ((B1.ext E4).ext E5).keep K6 (own_ni n24)
    have C2 := ((B2.ext E4).ext E5).keep K6 (own_ni n34)
    have z6 : h5.size ≤ T6.heap.size := K6.1
    refine own_go st6 ?_
    show own_R p.tables e below _ T6 (mkF m 81 #[.val (.int cc), .val (.int n1), .val (.int n2), .val (.int ff), .val (.int (Int32.ofNat u1)), .val (.int (Int32.ofNat u2)), .val (.int (0 : Int32)), .val (.int (0 : Int32)), .val (.int (Int32.ofNat (u1 + u2 + 0))), .val (.int cap), .val (.ref a2), .val (.ref a3), .unset, .unset, .unset, .unset, .unset, .unset, .unset] [(.ref a4)])
    refine own_go (fun _ => XS.astore X6.here hx rfl (hb hby at_81) rfl rfl (l' := #[.val (.int cc), .val (.int n1), .val (.int n2), .val (.int ff), .val (.int (Int32.ofNat u1)), .val (.int (Int32.ofNat u2)), .val (.int (0 : Int32)), .val (.int (0 : Int32)), .val (.int (Int32.ofNat (u1 + u2 + 0))), .val (.int cap), .val (.ref a2), .val (.ref a3), .val (.ref a4), .unset, .unset, .unset, .unset, .unset, .unset]) rfl) ?_
    show own_R p.tables e below _ T6 (mkF m 83 #[.val (.int cc), .val (.int n1), .val (.int n2), .val (.int ff), .val (.int (Int32.ofNat u1)), .val (.int (Int32.ofNat u2)), .val (.int (0 : Int32)), .val (.int (0 : Int32)), .val (.int (Int32.ofNat (u1 + u2 + 0))), .val (.int cap), .val (.ref a2), .val (.ref a3), .val (.ref a4), .unset, .unset, .unset, .unset, .unset, .unset] [])
    refine own_go (fun _ => XS.aload X6.here hx rfl (hb hby at_83) rfl rfl) ?_
    show own_R p.tables e below _ T6 (mkF m 85 #[.val (.int cc), .val (.int n1), .val (.int n2), .val (.int ff), .val (.int (Int32.ofNat u1)), .val (.int (Int32.ofNat u2)), .val (.int (0 : Int32)), .val (.int (0 : Int32)), .val (.int (Int32.ofNat (u1 + u2 + 0))), .val (.int cap), .val (.ref a2), .val (.ref a3), .val (.ref a4), .unset, .unset, .unset, .unset, .unset, .unset] [(.ref a4)])
    obtain ⟨v7, T7, L7, X7, Q7, st7⟩ := own_callV X6 hx hZ hown (y := (⟨"com/example/keepd/keepd/http/Spool", "heldBytes", "()J"⟩ : MethodName)) (hw _ (List.mem_of_getElem? (i := 47) rfl)) (hw _ (List.mem_of_getElem? (i := 48) rfl)) (hw _ (List.mem_of_getElem? (i := 50) rfl)) (hw _ (List.mem_of_getElem? (i := 49) rfl)) (hw _ (List.mem_of_getElem? (i := 51) rfl)) (hw _ (List.mem_of_getElem? (i := 8) rfl)) (by decide) (rmHeld l Z a0 hw [] T6.heap n0 a4 0 P6.2.1 P6.2.2.2.2.1) P6.1 (W := 0) (g := (mkF m 85 #[.val (.int cc), .val (.int n1), .val (.int n2), .val (.int ff), .val (.int (Int32.ofNat u1)), .val (.int (Int32.ofNat u2)), .val (.int (0 : Int32)), .val (.int (0 : Int32)), .val (.int (Int32.ofNat (u1 + u2 + 0))), .val (.int cap), .val (.ref a2), .val (.ref a3), .val (.ref a4), .unset, .unset, .unset, .unset, .unset, .unset] [(.ref a4)])) rfl (by rw [hml]; rfl) (b := a4) (argsL := []) (rest := []) (lenOf pd___J rfl) rfl rfl (by show 2 * 0 + _ ≤ _; exact Nat.le_of_eq rfl) (hb hby at_85) rfl (by decide) (by decide) (by decide) (by decide)
    obtain ⟨rfl, N7q, e7⟩ := Q7
    have N7 := Fr.app N6 N7q
    have P7 := P6
    rw [← e7] at P7
    have C27 := C2
    rw [← e7] at C27
    have C17 := C1
    rw [← e7] at C17
    have z7 : h5.size ≤ T7.heap.size := by rw [e7]; exact z6
    refine own_go st7 ?_
    show own_R p.tables e below _ T7 (mkF m 88 #[.val (.int cc), .val (.int n1), .val (.int n2), .val (.int ff), .val (.int (Int32.ofNat u1)), .val (.int (Int32.ofNat u2)), .val (.int (0 : Int32)), .val (.int (0 : Int32)), .val (.int (Int32.ofNat (u1 + u2 + 0))), .val (.int cap), .val (.ref a2), .val (.ref a3), .val (.ref a4), .unset, .unset, .unset, .unset, .unset, .unset] [(.long ((2 : Int64) * Int64.ofNat 0))])
    refine own_go (fun _ => XS.lstore X7.here hx rfl (hb hby at_88) rfl (l' := #[.val (.int cc), .val (.int n1), .val (.int n2), .val (.int ff), .val (.int (Int32.ofNat u1)), .val (.int (Int32.ofNat u2)), .val (.int (0 : Int32)), .val (.int (0 : Int32)), .val (.int (Int32.ofNat (u1 + u2 + 0))), .val (.int cap), .val (.ref a2), .val (.ref a3), .val (.ref a4), .val (.long ((2 : Int64) * Int64.ofNat 0)), .second, .unset, .unset, .unset, .unset]) rfl) ?_
    show own_R p.tables e below _ T7 (mkF m 90 #[.val (.int cc), .val (.int n1), .val (.int n2), .val (.int ff), .val (.int (Int32.ofNat u1)), .val (.int (Int32.ofNat u2)), .val (.int (0 : Int32)), .val (.int (0 : Int32)), .val (.int (Int32.ofNat (u1 + u2 + 0))), .val (.int cap), .val (.ref a2), .val (.ref a3), .val (.ref a4), .val (.long ((2 : Int64) * Int64.ofNat 0)), .second, .unset, .unset, .unset, .unset] [])
    refine own_go (fun _ => XS.aload X7.here hx rfl (hb hby at_90) rfl rfl) ?_
    show own_R p.tables e below _ T7 (mkF m 92 #[.val (.int cc), .val (.int n1), .val (.int n2), .val (.int ff), .val (.int (Int32.ofNat u1)), .val (.int (Int32.ofNat u2)), .val (.int (0 : Int32)), .val (.int (0 : Int32)), .val (.int (Int32.ofNat (u1 + u2 + 0))), .val (.int cap), .val (.ref a2), .val (.ref a3), .val (.ref a4), .val (.long ((2 : Int64) * Int64.ofNat 0)), .second, .unset, .unset, .unset, .unset] [(.ref a4)])
    refine own_go (fun _ => XS.aload X7.here hx rfl (hb hby at_92) rfl rfl) ?_
    show own_R p.tables e below _ T7 (mkF m 94 #[.val (.int cc), .val (.int n1), .val (.int n2), .val (.int ff), .val (.int (Int32.ofNat u1)), .val (.int (Int32.ofNat u2)), .val (.int (0 : Int32)), .val (.int (0 : Int32)), .val (.int (Int32.ofNat (u1 + u2 + 0))), .val (.int cap), .val (.ref a2), .val (.ref a3), .val (.ref a4), .val (.long ((2 : Int64) * Int64.ofNat 0)), .second, .unset, .unset, .unset, .unset] [(.ref a2), (.ref a4)])
    refine own_go (fun _ => XS.bipush X7.here hx rfl (hb hby at_94)) ?_
    show own_R p.tables e below _ T7 (mkF m 96 #[.val (.int cc), .val (.int n1), .val (.int n2), .val (.int ff), .val (.int (Int32.ofNat u1)), .val (.int (Int32.ofNat u2)), .val (.int (0 : Int32)), .val (.int (0 : Int32)), .val (.int (Int32.ofNat (u1 + u2 + 0))), .val (.int cap), .val (.ref a2), .val (.ref a3), .val (.ref a4), .val (.long ((2 : Int64) * Int64.ofNat 0)), .second, .unset, .unset, .unset, .unset] [(.int (16 : Int32)), (.ref a2), (.ref a4)])
    refine own_go (fun _ => XS.iload X7.here hx rfl (hb hby at_96) rfl ) ?_
    show own_R p.tables e below _ T7 (mkF m 98 #[.val (.int cc), .val (.int n1), .val (.int n2), .val (.int ff), .val (.int (Int32.ofNat u1)), .val (.int (Int32.ofNat u2)), .val (.int (0 : Int32)), .val (.int (0 : Int32)), .val (.int (Int32.ofNat (u1 + u2 + 0))), .val (.int cap), .val (.ref a2), .val (.ref a3), .val (.ref a4), .val (.long ((2 : Int64) * Int64.ofNat 0)), .second, .unset, .unset, .unset, .unset] [(.int (Int32.ofNat u1)), (.int (16 : Int32)), (.ref a2), (.ref a4)])
    refine own_go (fun _ => XS.isub X7.here hx rfl (hb hby at_98) rfl) ?_
    show own_R p.tables e below _ T7 (mkF m 99 #[.val (.int cc), .val (.int n1), .val (.int n2), .val (.int ff), .val (.int (Int32.ofNat u1)), .val (.int (Int32.ofNat u2)), .val (.int (0 : Int32)), .val (.int (0 : Int32)), .val (.int (Int32.ofNat (u1 + u2 + 0))), .val (.int cap), .val (.ref a2), .val (.ref a3), .val (.ref a4), .val (.long ((2 : Int64) * Int64.ofNat 0)), .second, .unset, .unset, .unset, .unset] [(.int ((16 : Int32) - (Int32.ofNat u1))), (.ref a2), (.ref a4)])
    refine own_go (fun _ => XS.iload X7.here hx rfl (hb hby at_99) rfl ) ?_
    show own_R p.tables e below _ T7 (mkF m 101 #[.val (.int cc), .val (.int n1), .val (.int n2), .val (.int ff), .val (.int (Int32.ofNat u1)), .val (.int (Int32.ofNat u2)), .val (.int (0 : Int32)), .val (.int (0 : Int32)), .val (.int (Int32.ofNat (u1 + u2 + 0))), .val (.int cap), .val (.ref a2), .val (.ref a3), .val (.ref a4), .val (.long ((2 : Int64) * Int64.ofNat 0)), .second, .unset, .unset, .unset, .unset] [(.int (Int32.ofNat u1)), (.int ((16 : Int32) - (Int32.ofNat u1))), (.ref a2), (.ref a4)])
    rw [own_16 (by omega : u1 ≤ 16)]
    show own_R p.tables e below _ T7 (mkF m 101 #[.val (.int cc), .val (.int n1), .val (.int n2), .val (.int ff), .val (.int (Int32.ofNat u1)), .val (.int (Int32.ofNat u2)), .val (.int (0 : Int32)), .val (.int (0 : Int32)), .val (.int (Int32.ofNat (u1 + u2 + 0))), .val (.int cap), .val (.ref a2), .val (.ref a3), .val (.ref a4), .val (.long ((2 : Int64) * Int64.ofNat 0)), .second, .unset, .unset, .unset, .unset] [(.int (Int32.ofNat u1)), (.int (Int32.ofNat (16 - u1))), (.ref a2), (.ref a4)])
    obtain ⟨v8, T8, L8, X8, Q8, st8⟩ := own_callV X7 hx hZ hown (y := (⟨"com/example/keepd/keepd/http/Spool", "write", "([BII)V"⟩ : MethodName)) (hw _ (List.mem_of_getElem? (i := 57) rfl)) (hw _ (List.mem_of_getElem? (i := 58) rfl)) (hw _ (List.mem_of_getElem? (i := 60) rfl)) (hw _ (List.mem_of_getElem? (i := 59) rfl)) (hw _ (List.mem_of_getElem? (i := 61) rfl)) (hw _ (List.mem_of_getElem? (i := 8) rfl)) (by decide) (rmSW l Z a0 hw [] T7.heap n0 a4 bm ab cap 0 a2 k2 [] (16 - u1) u1 16 C17 (by omega) (by decide) (by omega) P7 gb ga ge4 n2b (hcap _ (by omega))) P7.1 (W := 0) (g := (mkF m 101 #[.val (.int cc), .val (.int n1), .val (.int n2), .val (.int ff), .val (.int (Int32.ofNat u1)), .val (.int (Int32.ofNat u2)), .val (.int (0 : Int32)), .val (.int (0 : Int32)), .val (.int (Int32.ofNat (u1 + u2 + 0))), .val (.int cap), .val (.ref a2), .val (.ref a3), .val (.ref a4), .val (.long ((2 : Int64) * Int64.ofNat 0)), .second, .unset, .unset, .unset, .unset] [(.int (Int32.ofNat u1)), (.int (Int32.ofNat (16 - u1))), (.ref a2), (.ref a4)])) rfl (by rw [hml]; rfl) (b := a4) (argsL := [(.ref a2), (.int (Int32.ofNat (16 - u1))), (.int (Int32.ofNat u1))]) (rest := []) (lenOf pd___BII_V rfl) rfl rfl (by show 2 * 0 + _ ≤ _; exact Nat.le_of_eq rfl) (hb hby at_101) rfl (by decide) (by decide) (by decide) (by decide)
    obtain ⟨rfl, N8q, K8, P8⟩ := Q8
    have N8 := Fr.app N7 N8q
    have C28 := C27.keep K8 (by simp [n34, n3b, n3a])
    have z8 : h5.size ≤ T8.heap.size := Nat.le_trans z7 K8.1
    refine own_go st8 ?_
    show own_R p.tables e below _ T8 (mkF m 104 #[.val (.int cc), .val (.int n1), .val (.int n2), .val (.int ff), .val (.int (Int32.ofNat u1)), .val (.int (Int32.ofNat u2)), .val (.int (0 : Int32)), .val (.int (0 : Int32)), .val (.int (Int32.ofNat (u1 + u2 + 0))), .val (.int cap), .val (.ref a2), .val (.ref a3), .val (.ref a4), .val (.long ((2 : Int64) * Int64.ofNat 0)), .second, .unset, .unset, .unset, .unset] [])
    refine own_go (fun _ => XS.aload X8.here hx rfl (hb hby at_104) rfl rfl) ?_
    show own_R p.tables e below _ T8 (mkF m 106 #[.val (.int cc), .val (.int n1), .val (.int n2), .val (.int ff), .val (.int (Int32.ofNat u1)), .val (.int (Int32.ofNat u2)), .val (.int (0 : Int32)), .val (.int (0 : Int32)), .val (.int (Int32.ofNat (u1 + u2 + 0))), .val (.int cap), .val (.ref a2), .val (.ref a3), .val (.ref a4), .val (.long ((2 : Int64) * Int64.ofNat 0)), .second, .unset, .unset, .unset, .unset] [(.ref a4)])
    obtain ⟨v9, T9, L9, X9, Q9, st9⟩ := own_callV X8 hx hZ hown (y := (⟨"com/example/keepd/keepd/http/Spool", "heldBytes", "()J"⟩ : MethodName)) (hw _ (List.mem_of_getElem? (i := 47) rfl)) (hw _ (List.mem_of_getElem? (i := 48) rfl)) (hw _ (List.mem_of_getElem? (i := 50) rfl)) (hw _ (List.mem_of_getElem? (i := 49) rfl)) (hw _ (List.mem_of_getElem? (i := 51) rfl)) (hw _ (List.mem_of_getElem? (i := 8) rfl)) (by decide) (rmHeld l Z a0 hw [] T8.heap n0 a4 (0 + u1) P8.2.1 P8.2.2.2.2.1) P8.1 (W := 0) (g := (mkF m 106 #[.val (.int cc), .val (.int n1), .val (.int n2), .val (.int ff), .val (.int (Int32.ofNat u1)), .val (.int (Int32.ofNat u2)), .val (.int (0 : Int32)), .val (.int (0 : Int32)), .val (.int (Int32.ofNat (u1 + u2 + 0))), .val (.int cap), .val (.ref a2), .val (.ref a3), .val (.ref a4), .val (.long ((2 : Int64) * Int64.ofNat 0)), .second, .unset, .unset, .unset, .unset] [(.ref a4)])) rfl (by rw [hml]; rfl) (b := a4) (argsL := []) (rest := []) (lenOf pd___J rfl) rfl rfl (by show 2 * 0 + _ ≤ _; exact Nat.le_of_eq rfl) (hb hby at_106) rfl (by decide) (by decide) (by decide) (by decide)
    obtain ⟨rfl, N9q, e9⟩ := Q9
    have N9 := Fr.app N8 N9q
    have P9 := P8
    rw [← e9] at P9
    have C29 := C28
    rw [← e9] at C29
    have z9 : h5.size ≤ T9.heap.size := by rw [e9]; exact z8
    refine own_go st9 ?_
    show own_R p.tables e below _ T9 (mkF m 109 #[.val (.int cc), .val (.int n1), .val (.int n2), .val (.int ff), .val (.int (Int32.ofNat u1)), .val (.int (Int32.ofNat u2)), .val (.int (0 : Int32)), .val (.int (0 : Int32)), .val (.int (Int32.ofNat (u1 + u2 + 0))), .val (.int cap), .val (.ref a2), .val (.ref a3), .val (.ref a4), .val (.long ((2 : Int64) * Int64.ofNat 0)), .second, .unset, .unset, .unset, .unset] [(.long ((2 : Int64) * Int64.ofNat (0 + u1)))])
    refine own_go (fun _ => XS.lstore X9.here hx rfl (hb hby at_109) rfl (l' := #[.val (.int cc), .val (.int n1), .val (.int n2), .val (.int ff), .val (.int (Int32.ofNat u1)), .val (.int (Int32.ofNat u2)), .val (.int (0 : Int32)), .val (.int (0 : Int32)), .val (.int (Int32.ofNat (u1 + u2 + 0))), .val (.int cap), .val (.ref a2), .val (.ref a3), .val (.ref a4), .val (.long ((2 : Int64) * Int64.ofNat 0)), .second, .val (.long ((2 : Int64) * Int64.ofNat (0 + u1))), .second, .unset, .unset]) rfl) ?_
    show own_R p.tables e below _ T9 (mkF m 111 #[.val (.int cc), .val (.int n1), .val (.int n2), .val (.int ff), .val (.int (Int32.ofNat u1)), .val (.int (Int32.ofNat u2)), .val (.int (0 : Int32)), .val (.int (0 : Int32)), .val (.int (Int32.ofNat (u1 + u2 + 0))), .val (.int cap), .val (.ref a2), .val (.ref a3), .val (.ref a4), .val (.long ((2 : Int64) * Int64.ofNat 0)), .second, .val (.long ((2 : Int64) * Int64.ofNat (0 + u1))), .second, .unset, .unset] [])
    refine own_go (fun _ => XS.iload X9.here hx rfl (hb hby at_111) rfl ) ?_
    show own_R p.tables e below _ T9 (mkF m 113 #[.val (.int cc), .val (.int n1), .val (.int n2), .val (.int ff), .val (.int (Int32.ofNat u1)), .val (.int (Int32.ofNat u2)), .val (.int (0 : Int32)), .val (.int (0 : Int32)), .val (.int (Int32.ofNat (u1 + u2 + 0))), .val (.int cap), .val (.ref a2), .val (.ref a3), .val (.ref a4), .val (.long ((2 : Int64) * Int64.ofNat 0)), .second, .val (.long ((2 : Int64) * Int64.ofNat (0 + u1))), .second, .unset, .unset] [(.int (0 : Int32))])
    refine own_go (fun _ => XS.ifYes X9.here hx rfl (pc0 := 113) (pc' := 122) rfl (hb hby at_113) rfl ((if0 _ _).trans (teq (by decide : ((0 : Int32) = (0 : Int32)))).1) (by decide) (by decide)) ?_
    show own_R p.tables e below _ T9 (mkF m 122 #[.val (.int cc), .val (.int n1), .val (.int n2), .val (.int ff), .val (.int (Int32.ofNat u1)), .val (.int (Int32.ofNat u2)), .val (.int (0 : Int32)), .val (.int (0 : Int32)), .val (.int (Int32.ofNat (u1 + u2 + 0))), .val (.int cap), .val (.ref a2), .val (.ref a3), .val (.ref a4), .val (.long ((2 : Int64) * Int64.ofNat 0)), .second, .val (.long ((2 : Int64) * Int64.ofNat (0 + u1))), .second, .unset, .unset] [])
    refine own_go (fun _ => XS.aload X9.here hx rfl (hb hby at_122) rfl rfl) ?_
    show own_R p.tables e below _ T9 (mkF m 124 #[.val (.int cc), .val (.int n1), .val (.int n2), .val (.int ff), .val (.int (Int32.ofNat u1)), .val (.int (Int32.ofNat u2)), .val (.int (0 : Int32)), .val (.int (0 : Int32)), .val (.int (Int32.ofNat (u1 + u2 + 0))), .val (.int cap), .val (.ref a2), .val (.ref a3), .val (.ref a4), .val (.long ((2 : Int64) * Int64.ofNat 0)), .second, .val (.long ((2 : Int64) * Int64.ofNat (0 + u1))), .second, .unset, .unset] [(.ref a4)])
    refine own_go (fun _ => XS.aload X9.here hx rfl (hb hby at_124) rfl rfl) ?_
    show own_R p.tables e below _ T9 (mkF m 126 #[.val (.int cc), .val (.int n1), .val (.int n2), .val (.int ff), .val (.int (Int32.ofNat u1)), .val (.int (Int32.ofNat u2)), .val (.int (0 : Int32)), .val (.int (0 : Int32)), .val (.int (Int32.ofNat (u1 + u2 + 0))), .val (.int cap), .val (.ref a2), .val (.ref a3), .val (.ref a4), .val (.long ((2 : Int64) * Int64.ofNat 0)), .second, .val (.long ((2 : Int64) * Int64.ofNat (0 + u1))), .second, .unset, .unset] [(.ref a3), (.ref a4)])
    refine own_go (fun _ => XS.iconst X9.here hx rfl (hb hby at_126)) ?_
    show own_R p.tables e below _ T9 (mkF m 127 #[.val (.int cc), .val (.int n1), .val (.int n2), .val (.int ff), .val (.int (Int32.ofNat u1)), .val (.int (Int32.ofNat u2)), .val (.int (0 : Int32)), .val (.int (0 : Int32)), .val (.int (Int32.ofNat (u1 + u2 + 0))), .val (.int cap), .val (.ref a2), .val (.ref a3), .val (.ref a4), .val (.long ((2 : Int64) * Int64.ofNat 0)), .second, .val (.long ((2 : Int64) * Int64.ofNat (0 + u1))), .second, .unset, .unset] [(.int (0 : Int32)), (.ref a3), (.ref a4)])
    refine own_go (fun _ => XS.iload X9.here hx rfl (hb hby at_127) rfl ) ?_
    show own_R p.tables e below _ T9 (mkF m 129 #[.val (.int cc), .val (.int n1), .val (.int n2), .val (.int ff), .val (.int (Int32.ofNat u1)), .val (.int (Int32.ofNat u2)), .val (.int (0 : Int32)), .val (.int (0 : Int32)), .val (.int (Int32.ofNat (u1 + u2 + 0))), .val (.int cap), .val (.ref a2), .val (.ref a3), .val (.ref a4), .val (.long ((2 : Int64) * Int64.ofNat 0)), .second, .val (.long ((2 : Int64) * Int64.ofNat (0 + u1))), .second, .unset, .unset] [(.int (Int32.ofNat u2)), (.int (0 : Int32)), (.ref a3), (.ref a4)])
    obtain ⟨v11, T11, L11, X11, Q11, st11⟩ := own_callV X9 hx hZ hown (y := (⟨"com/example/keepd/keepd/http/Spool", "write", "([BII)V"⟩ : MethodName)) (hw _ (List.mem_of_getElem? (i := 57) rfl)) (hw _ (List.mem_of_getElem? (i := 58) rfl)) (hw _ (List.mem_of_getElem? (i := 60) rfl)) (hw _ (List.mem_of_getElem? (i := 59) rfl)) (hw _ (List.mem_of_getElem? (i := 61) rfl)) (hw _ (List.mem_of_getElem? (i := 8) rfl)) (by decide) (rmSW l Z a0 hw [] T9.heap n0 a4 bm ab cap (0 + u1) a3 k3 [] 0 u2 16 C29 (by omega) (by decide) (by omega) P9 gb ga ge4 n3b (hcap _ (by omega))) P9.1 (W := 0) (g := (mkF m 129 #[.val (.int cc), .val (.int n1), .val (.int n2), .val (.int ff), .val (.int (Int32.ofNat u1)), .val (.int (Int32.ofNat u2)), .val (.int (0 : Int32)), .val (.int (0 : Int32)), .val (.int (Int32.ofNat (u1 + u2 + 0))), .val (.int cap), .val (.ref a2), .val (.ref a3), .val (.ref a4), .val (.long ((2 : Int64) * Int64.ofNat 0)), .second, .val (.long ((2 : Int64) * Int64.ofNat (0 + u1))), .second, .unset, .unset] [(.int (Int32.ofNat u2)), (.int (0 : Int32)), (.ref a3), (.ref a4)])) rfl (by rw [hml]; rfl) (b := a4) (argsL := [(.ref a3), (.int (0 : Int32)), (.int (Int32.ofNat u2))]) (rest := []) (lenOf pd___BII_V rfl) rfl rfl (by show 2 * 0 + _ ≤ _; exact Nat.le_of_eq rfl) (hb hby at_129) rfl (by decide) (by decide) (by decide) (by decide)
    obtain ⟨rfl, N11q, K11, P11⟩ := Q11
    have N11 := Fr.app N9 N11q
    have z11 : h5.size ≤ T11.heap.size := Nat.le_trans z9 K11.1
    refine own_go st11 ?_
    show own_R p.tables e below _ T11 (mkF m 132 #[.val (.int cc), .val (.int n1), .val (.int n2), .val (.int ff), .val (.int (Int32.ofNat u1)), .val (.int (Int32.ofNat u2)), .val (.int (0 : Int32)), .val (.int (0 : Int32)), .val (.int (Int32.ofNat (u1 + u2 + 0))), .val (.int cap), .val (.ref a2), .val (.ref a3), .val (.ref a4), .val (.long ((2 : Int64) * Int64.ofNat 0)), .second, .val (.long ((2 : Int64) * Int64.ofNat (0 + u1))), .second, .unset, .unset] [])
    refine own_go (fun _ => XS.aload X11.here hx rfl (hb hby at_132) rfl rfl) ?_
    show own_R p.tables e below _ T11 (mkF m 134 #[.val (.int cc), .val (.int n1), .val (.int n2), .val (.int ff), .val (.int (Int32.ofNat u1)), .val (.int (Int32.ofNat u2)), .val (.int (0 : Int32)), .val (.int (0 : Int32)), .val (.int (Int32.ofNat (u1 + u2 + 0))), .val (.int cap), .val (.ref a2), .val (.ref a3), .val (.ref a4), .val (.long ((2 : Int64) * Int64.ofNat 0)), .second, .val (.long ((2 : Int64) * Int64.ofNat (0 + u1))), .second, .unset, .unset] [(.ref a4)])
    obtain ⟨v12, T12, L12, X12, Q12, st12⟩ := own_callV X11 hx hZ hown (y := (⟨"com/example/keepd/keepd/http/Spool", "heldBytes", "()J"⟩ : MethodName)) (hw _ (List.mem_of_getElem? (i := 47) rfl)) (hw _ (List.mem_of_getElem? (i := 48) rfl)) (hw _ (List.mem_of_getElem? (i := 50) rfl)) (hw _ (List.mem_of_getElem? (i := 49) rfl)) (hw _ (List.mem_of_getElem? (i := 51) rfl)) (hw _ (List.mem_of_getElem? (i := 8) rfl)) (by decide) (rmHeld l Z a0 hw [] T11.heap n0 a4 ((0 + u1) + u2) P11.2.1 P11.2.2.2.2.1) P11.1 (W := 0) (g := (mkF m 134 #[.val (.int cc), .val (.int n1), .val (.int n2), .val (.int ff), .val (.int (Int32.ofNat u1)), .val (.int (Int32.ofNat u2)), .val (.int (0 : Int32)), .val (.int (0 : Int32)), .val (.int (Int32.ofNat (u1 + u2 + 0))), .val (.int cap), .val (.ref a2), .val (.ref a3), .val (.ref a4), .val (.long ((2 : Int64) * Int64.ofNat 0)), .second, .val (.long ((2 : Int64) * Int64.ofNat (0 + u1))), .second, .unset, .unset] [(.ref a4)])) rfl (by rw [hml]; rfl) (b := a4) (argsL := []) (rest := []) (lenOf pd___J rfl) rfl rfl (by show 2 * 0 + _ ≤ _; exact Nat.le_of_eq rfl) (hb hby at_134) rfl (by decide) (by decide) (by decide) (by decide)
    obtain ⟨rfl, N12q, e12⟩ := Q12
    have N12 := Fr.app N11 N12q
    have z12 : h5.size ≤ T12.heap.size := by rw [e12]; exact z11
    refine own_go st12 ?_
    show own_R p.tables e below _ T12 (mkF m 137 #[.val (.int cc), .val (.int n1), .val (.int n2), .val (.int ff), .val (.int (Int32.ofNat u1)), .val (.int (Int32.ofNat u2)), .val (.int (0 : Int32)), .val (.int (0 : Int32)), .val (.int (Int32.ofNat (u1 + u2 + 0))), .val (.int cap), .val (.ref a2), .val (.ref a3), .val (.ref a4), .val (.long ((2 : Int64) * Int64.ofNat 0)), .second, .val (.long ((2 : Int64) * Int64.ofNat (0 + u1))), .second, .unset, .unset] [(.long ((2 : Int64) * Int64.ofNat ((0 + u1) + u2)))])
    refine own_go (fun _ => XS.lstore X12.here hx rfl (hb hby at_137) rfl (l' := #[.val (.int cc), .val (.int n1), .val (.int n2), .val (.int ff), .val (.int (Int32.ofNat u1)), .val (.int (Int32.ofNat u2)), .val (.int (0 : Int32)), .val (.int (0 : Int32)), .val (.int (Int32.ofNat (u1 + u2 + 0))), .val (.int cap), .val (.ref a2), .val (.ref a3), .val (.ref a4), .val (.long ((2 : Int64) * Int64.ofNat 0)), .second, .val (.long ((2 : Int64) * Int64.ofNat (0 + u1))), .second, .val (.long ((2 : Int64) * Int64.ofNat ((0 + u1) + u2))), .second]) rfl) ?_
    show own_R p.tables e below _ T12 (mkF m 139 #[.val (.int cc), .val (.int n1), .val (.int n2), .val (.int ff), .val (.int (Int32.ofNat u1)), .val (.int (Int32.ofNat u2)), .val (.int (0 : Int32)), .val (.int (0 : Int32)), .val (.int (Int32.ofNat (u1 + u2 + 0))), .val (.int cap), .val (.ref a2), .val (.ref a3), .val (.ref a4), .val (.long ((2 : Int64) * Int64.ofNat 0)), .second, .val (.long ((2 : Int64) * Int64.ofNat (0 + u1))), .second, .val (.long ((2 : Int64) * Int64.ofNat ((0 + u1) + u2))), .second] [])
    refine own_go (fun _ => XS.lload X12.here hx rfl (hb hby at_139) rfl ) ?_
    show own_R p.tables e below _ T12 (mkF m 141 #[.val (.int cc), .val (.int n1), .val (.int n2), .val (.int ff), .val (.int (Int32.ofNat u1)), .val (.int (Int32.ofNat u2)), .val (.int (0 : Int32)), .val (.int (0 : Int32)), .val (.int (Int32.ofNat (u1 + u2 + 0))), .val (.int cap), .val (.ref a2), .val (.ref a3), .val (.ref a4), .val (.long ((2 : Int64) * Int64.ofNat 0)), .second, .val (.long ((2 : Int64) * Int64.ofNat (0 + u1))), .second, .val (.long ((2 : Int64) * Int64.ofNat ((0 + u1) + u2))), .second] [(.long ((2 : Int64) * Int64.ofNat 0))])
    refine own_go (fun _ => XS.lconst X12.here hx rfl (hb hby at_141)) ?_
    show own_R p.tables e below _ T12 (mkF m 142 #[.val (.int cc), .val (.int n1), .val (.int n2), .val (.int ff), .val (.int (Int32.ofNat u1)), .val (.int (Int32.ofNat u2)), .val (.int (0 : Int32)), .val (.int (0 : Int32)), .val (.int (Int32.ofNat (u1 + u2 + 0))), .val (.int cap), .val (.ref a2), .val (.ref a3), .val (.ref a4), .val (.long ((2 : Int64) * Int64.ofNat 0)), .second, .val (.long ((2 : Int64) * Int64.ofNat (0 + u1))), .second, .val (.long ((2 : Int64) * Int64.ofNat ((0 + u1) + u2))), .second] [(.long (0 : Int64)), (.long ((2 : Int64) * Int64.ofNat 0))])
    refine own_go (fun _ => XS.lcmp X12.here hx rfl (hb hby at_142) rfl) ?_
    show own_R p.tables e below _ T12 (mkF m 143 #[.val (.int cc), .val (.int n1), .val (.int n2), .val (.int ff), .val (.int (Int32.ofNat u1)), .val (.int (Int32.ofNat u2)), .val (.int (0 : Int32)), .val (.int (0 : Int32)), .val (.int (Int32.ofNat (u1 + u2 + 0))), .val (.int cap), .val (.ref a2), .val (.ref a3), .val (.ref a4), .val (.long ((2 : Int64) * Int64.ofNat 0)), .second, .val (.long ((2 : Int64) * Int64.ofNat (0 + u1))), .second, .val (.long ((2 : Int64) * Int64.ofNat ((0 + u1) + u2))), .second] [(.int (lcmpW ((2 : Int64) * Int64.ofNat 0) (0 : Int64)))])
    refine own_go (fun _ => XS.ifNo X12.here hx rfl (hb hby at_143) rfl ((if0 _ _).trans (teq (own_lc (by decide))).2)) ?_
    show own_R p.tables e below _ T12 (mkF m 146 #[.val (.int cc), .val (.int n1), .val (.int n2), .val (.int ff), .val (.int (Int32.ofNat u1)), .val (.int (Int32.ofNat u2)), .val (.int (0 : Int32)), .val (.int (0 : Int32)), .val (.int (Int32.ofNat (u1 + u2 + 0))), .val (.int cap), .val (.ref a2), .val (.ref a3), .val (.ref a4), .val (.long ((2 : Int64) * Int64.ofNat 0)), .second, .val (.long ((2 : Int64) * Int64.ofNat (0 + u1))), .second, .val (.long ((2 : Int64) * Int64.ofNat ((0 + u1) + u2))), .second] [])
    refine own_go (fun _ => XS.lload X12.here hx rfl (hb hby at_146) rfl ) ?_
    show own_R p.tables e below _ T12 (mkF m 148 #[.val (.int cc), .val (.int n1), .val (.int n2), .val (.int ff), .val (.int (Int32.ofNat u1)), .val (.int (Int32.ofNat u2)), .val (.int (0 : Int32)), .val (.int (0 : Int32)), .val (.int (Int32.ofNat (u1 + u2 + 0))), .val (.int cap), .val (.ref a2), .val (.ref a3), .val (.ref a4), .val (.long ((2 : Int64) * Int64.ofNat 0)), .second, .val (.long ((2 : Int64) * Int64.ofNat (0 + u1))), .second, .val (.long ((2 : Int64) * Int64.ofNat ((0 + u1) + u2))), .second] [(.long ((2 : Int64) * Int64.ofNat (0 + u1)))])
    refine own_go (X12.ldc2Long hx hown (mvT hZ (hw _ (List.mem_of_getElem? (i := 97) rfl))) (g := (mkF m 148 #[.val (.int cc), .val (.int n1), .val (.int n2), .val (.int ff), .val (.int (Int32.ofNat u1)), .val (.int (Int32.ofNat u2)), .val (.int (0 : Int32)), .val (.int (0 : Int32)), .val (.int (Int32.ofNat (u1 + u2 + 0))), .val (.int cap), .val (.ref a2), .val (.ref a3), .val (.ref a4), .val (.long ((2 : Int64) * Int64.ofNat 0)), .second, .val (.long ((2 : Int64) * Int64.ofNat (0 + u1))), .second, .val (.long ((2 : Int64) * Int64.ofNat ((0 + u1) + u2))), .second] [(.long ((2 : Int64) * Int64.ofNat (0 + u1)))])) rfl (hb hby at_148)) ?_
    show own_R p.tables e below _ T12 (mkF m 151 #[.val (.int cc), .val (.int n1), .val (.int n2), .val (.int ff), .val (.int (Int32.ofNat u1)), .val (.int (Int32.ofNat u2)), .val (.int (0 : Int32)), .val (.int (0 : Int32)), .val (.int (Int32.ofNat (u1 + u2 + 0))), .val (.int cap), .val (.ref a2), .val (.ref a3), .val (.ref a4), .val (.long ((2 : Int64) * Int64.ofNat 0)), .second, .val (.long ((2 : Int64) * Int64.ofNat (0 + u1))), .second, .val (.long ((2 : Int64) * Int64.ofNat ((0 + u1) + u2))), .second] [(.long (2 : Int64)), (.long ((2 : Int64) * Int64.ofNat (0 + u1)))])
    refine own_go (fun _ => XS.iload X12.here hx rfl (hb hby at_151) rfl ) ?_
    show own_R p.tables e below _ T12 (mkF m 153 #[.val (.int cc), .val (.int n1), .val (.int n2), .val (.int ff), .val (.int (Int32.ofNat u1)), .val (.int (Int32.ofNat u2)), .val (.int (0 : Int32)), .val (.int (0 : Int32)), .val (.int (Int32.ofNat (u1 + u2 + 0))), .val (.int cap), .val (.ref a2), .val (.ref a3), .val (.ref a4), .val (.long ((2 : Int64) * Int64.ofNat 0)), .second, .val (.long ((2 : Int64) * Int64.ofNat (0 + u1))), .second, .val (.long ((2 : Int64) * Int64.ofNat ((0 + u1) + u2))), .second] [(.int (Int32.ofNat u1)), (.long (2 : Int64)), (.long ((2 : Int64) * Int64.ofNat (0 + u1)))])
    refine own_go (fun _ => XS.i2l X12.here hx rfl (hb hby at_153) rfl) ?_
    show own_R p.tables e below _ T12 (mkF m 154 #[.val (.int cc), .val (.int n1), .val (.int n2), .val (.int ff), .val (.int (Int32.ofNat u1)), .val (.int (Int32.ofNat u2)), .val (.int (0 : Int32)), .val (.int (0 : Int32)), .val (.int (Int32.ofNat (u1 + u2 + 0))), .val (.int cap), .val (.ref a2), .val (.ref a3), .val (.ref a4), .val (.long ((2 : Int64) * Int64.ofNat 0)), .second, .val (.long ((2 : Int64) * Int64.ofNat (0 + u1))), .second, .val (.long ((2 : Int64) * Int64.ofNat ((0 + u1) + u2))), .second] [(.long ((Int32.ofNat u1).toInt64)), (.long (2 : Int64)), (.long ((2 : Int64) * Int64.ofNat (0 + u1)))])
    refine own_go (fun _ => XS.lmul X12.here hx rfl (hb hby at_154) rfl) ?_
    show own_R p.tables e below _ T12 (mkF m 155 #[.val (.int cc), .val (.int n1), .val (.int n2), .val (.int ff), .val (.int (Int32.ofNat u1)), .val (.int (Int32.ofNat u2)), .val (.int (0 : Int32)), .val (.int (0 : Int32)), .val (.int (Int32.ofNat (u1 + u2 + 0))), .val (.int cap), .val (.ref a2), .val (.ref a3), .val (.ref a4), .val (.long ((2 : Int64) * Int64.ofNat 0)), .second, .val (.long ((2 : Int64) * Int64.ofNat (0 + u1))), .second, .val (.long ((2 : Int64) * Int64.ofNat ((0 + u1) + u2))), .second] [(.long ((2 : Int64) * ((Int32.ofNat u1).toInt64))), (.long ((2 : Int64) * Int64.ofNat (0 + u1)))])
    refine own_go (fun _ => XS.lcmp X12.here hx rfl (hb hby at_155) rfl) ?_
    show own_R p.tables e below _ T12 (mkF m 156 #[.val (.int cc), .val (.int n1), .val (.int n2), .val (.int ff), .val (.int (Int32.ofNat u1)), .val (.int (Int32.ofNat u2)), .val (.int (0 : Int32)), .val (.int (0 : Int32)), .val (.int (Int32.ofNat (u1 + u2 + 0))), .val (.int cap), .val (.ref a2), .val (.ref a3), .val (.ref a4), .val (.long ((2 : Int64) * Int64.ofNat 0)), .second, .val (.long ((2 : Int64) * Int64.ofNat (0 + u1))), .second, .val (.long ((2 : Int64) * Int64.ofNat ((0 + u1) + u2))), .second] [(.int (lcmpW ((2 : Int64) * Int64.ofNat (0 + u1)) ((2 : Int64) * ((Int32.ofNat u1).toInt64))))])
    refine own_go (fun _ => XS.ifNo X12.here hx rfl (hb hby at_156) rfl ((if0 _ _).trans (teq (own_lc (by rw [own_i2l (by omega), Nat.zero_add]))).2)) ?_
    show own_R p.tables e below _ T12 (mkF m 159 #[.val (.int cc), .val (.int n1), .val (.int n2), .val (.int ff), .val (.int (Int32.ofNat u1)), .val (.int (Int32.ofNat u2)), .val (.int (0 : Int32)), .val (.int (0 : Int32)), .val (.int (Int32.ofNat (u1 + u2 + 0))), .val (.int cap), .val (.ref a2), .val (.ref a3), .val (.ref a4), .val (.long ((2 : Int64) * Int64.ofNat 0)), .second, .val (.long ((2 : Int64) * Int64.ofNat (0 + u1))), .second, .val (.long ((2 : Int64) * Int64.ofNat ((0 + u1) + u2))), .second] [])
    refine own_go (fun _ => XS.lload X12.here hx rfl (hb hby at_159) rfl ) ?_
    show own_R p.tables e below _ T12 (mkF m 161 #[.val (.int cc), .val (.int n1), .val (.int n2), .val (.int ff), .val (.int (Int32.ofNat u1)), .val (.int (Int32.ofNat u2)), .val (.int (0 : Int32)), .val (.int (0 : Int32)), .val (.int (Int32.ofNat (u1 + u2 + 0))), .val (.int cap), .val (.ref a2), .val (.ref a3), .val (.ref a4), .val (.long ((2 : Int64) * Int64.ofNat 0)), .second, .val (.long ((2 : Int64) * Int64.ofNat (0 + u1))), .second, .val (.long ((2 : Int64) * Int64.ofNat ((0 + u1) + u2))), .second] [(.long ((2 : Int64) * Int64.ofNat ((0 + u1) + u2)))])
    refine own_go (X12.ldc2Long hx hown (mvT hZ (hw _ (List.mem_of_getElem? (i := 97) rfl))) (g := (mkF m 161 #[.val (.int cc), .val (.int n1), .val (.int n2), .val (.int ff), .val (.int (Int32.ofNat u1)), .val (.int (Int32.ofNat u2)), .val (.int (0 : Int32)), .val (.int (0 : Int32)), .val (.int (Int32.ofNat (u1 + u2 + 0))), .val (.int cap), .val (.ref a2), .val (.ref a3), .val (.ref a4), .val (.long ((2 : Int64) * Int64.ofNat 0)), .second, .val (.long ((2 : Int64) * Int64.ofNat (0 + u1))), .second, .val (.long ((2 : Int64) * Int64.ofNat ((0 + u1) + u2))), .second] [(.long ((2 : Int64) * Int64.ofNat ((0 + u1) + u2)))])) rfl (hb hby at_161)) ?_
    show own_R p.tables e below _ T12 (mkF m 164 #[.val (.int cc), .val (.int n1), .val (.int n2), .val (.int ff), .val (.int (Int32.ofNat u1)), .val (.int (Int32.ofNat u2)), .val (.int (0 : Int32)), .val (.int (0 : Int32)), .val (.int (Int32.ofNat (u1 + u2 + 0))), .val (.int cap), .val (.ref a2), .val (.ref a3), .val (.ref a4), .val (.long ((2 : Int64) * Int64.ofNat 0)), .second, .val (.long ((2 : Int64) * Int64.ofNat (0 + u1))), .second, .val (.long ((2 : Int64) * Int64.ofNat ((0 + u1) + u2))), .second] [(.long (2 : Int64)), (.long ((2 : Int64) * Int64.ofNat ((0 + u1) + u2)))])
    refine own_go (fun _ => XS.iload X12.here hx rfl (hb hby at_164) rfl ) ?_
    show own_R p.tables e below _ T12 (mkF m 166 #[.val (.int cc), .val (.int n1), .val (.int n2), .val (.int ff), .val (.int (Int32.ofNat u1)), .val (.int (Int32.ofNat u2)), .val (.int (0 : Int32)), .val (.int (0 : Int32)), .val (.int (Int32.ofNat (u1 + u2 + 0))), .val (.int cap), .val (.ref a2), .val (.ref a3), .val (.ref a4), .val (.long ((2 : Int64) * Int64.ofNat 0)), .second, .val (.long ((2 : Int64) * Int64.ofNat (0 + u1))), .second, .val (.long ((2 : Int64) * Int64.ofNat ((0 + u1) + u2))), .second] [(.int (Int32.ofNat (u1 + u2 + 0))), (.long (2 : Int64)), (.long ((2 : Int64) * Int64.ofNat ((0 + u1) + u2)))])
    refine own_go (fun _ => XS.i2l X12.here hx rfl (hb hby at_166) rfl) ?_
    show own_R p.tables e below _ T12 (mkF m 167 #[.val (.int cc), .val (.int n1), .val (.int n2), .val (.int ff), .val (.int (Int32.ofNat u1)), .val (.int (Int32.ofNat u2)), .val (.int (0 : Int32)), .val (.int (0 : Int32)), .val (.int (Int32.ofNat (u1 + u2 + 0))), .val (.int cap), .val (.ref a2), .val (.ref a3), .val (.ref a4), .val (.long ((2 : Int64) * Int64.ofNat 0)), .second, .val (.long ((2 : Int64) * Int64.ofNat (0 + u1))), .second, .val (.long ((2 : Int64) * Int64.ofNat ((0 + u1) + u2))), .second] [(.long ((Int32.ofNat (u1 + u2 + 0)).toInt64)), (.long (2 : Int64)), (.long ((2 : Int64) * Int64.ofNat ((0 + u1) + u2)))])
    refine own_go (fun _ => XS.lmul X12.here hx rfl (hb hby at_167) rfl) ?_
    show own_R p.tables e below _ T12 (mkF m 168 #[.val (.int cc), .val (.int n1), .val (.int n2), .val (.int ff), .val (.int (Int32.ofNat u1)), .val (.int (Int32.ofNat u2)), .val (.int (0 : Int32)), .val (.int (0 : Int32)), .val (.int (Int32.ofNat (u1 + u2 + 0))), .val (.int cap), .val (.ref a2), .val (.ref a3), .val (.ref a4), .val (.long ((2 : Int64) * Int64.ofNat 0)), .second, .val (.long ((2 : Int64) * Int64.ofNat (0 + u1))), .second, .val (.long ((2 : Int64) * Int64.ofNat ((0 + u1) + u2))), .second] [(.long ((2 : Int64) * ((Int32.ofNat (u1 + u2 + 0)).toInt64))), (.long ((2 : Int64) * Int64.ofNat ((0 + u1) + u2)))])
    refine own_go (fun _ => XS.lcmp X12.here hx rfl (hb hby at_168) rfl) ?_
    show own_R p.tables e below _ T12 (mkF m 169 #[.val (.int cc), .val (.int n1), .val (.int n2), .val (.int ff), .val (.int (Int32.ofNat u1)), .val (.int (Int32.ofNat u2)), .val (.int (0 : Int32)), .val (.int (0 : Int32)), .val (.int (Int32.ofNat (u1 + u2 + 0))), .val (.int cap), .val (.ref a2), .val (.ref a3), .val (.ref a4), .val (.long ((2 : Int64) * Int64.ofNat 0)), .second, .val (.long ((2 : Int64) * Int64.ofNat (0 + u1))), .second, .val (.long ((2 : Int64) * Int64.ofNat ((0 + u1) + u2))), .second] [(.int (lcmpW ((2 : Int64) * Int64.ofNat ((0 + u1) + u2)) ((2 : Int64) * ((Int32.ofNat (u1 + u2 + 0)).toInt64))))])
    refine own_go (fun _ => XS.ifNo X12.here hx rfl (hb hby at_169) rfl ((if0 _ _).trans (teq (own_lc (by rw [own_i2l (by omega)]; congr 2; omega))).2)) ?_
    show own_R p.tables e below _ T12 (mkF m 172 #[.val (.int cc), .val (.int n1), .val (.int n2), .val (.int ff), .val (.int (Int32.ofNat u1)), .val (.int (Int32.ofNat u2)), .val (.int (0 : Int32)), .val (.int (0 : Int32)), .val (.int (Int32.ofNat (u1 + u2 + 0))), .val (.int cap), .val (.ref a2), .val (.ref a3), .val (.ref a4), .val (.long ((2 : Int64) * Int64.ofNat 0)), .second, .val (.long ((2 : Int64) * Int64.ofNat (0 + u1))), .second, .val (.long ((2 : Int64) * Int64.ofNat ((0 + u1) + u2))), .second] [])
    refine own_go (fun _ => XS.iconst X12.here hx rfl (hb hby at_172)) ?_
    show own_R p.tables e below _ T12 (mkF m 173 #[.val (.int cc), .val (.int n1), .val (.int n2), .val (.int ff), .val (.int (Int32.ofNat u1)), .val (.int (Int32.ofNat u2)), .val (.int (0 : Int32)), .val (.int (0 : Int32)), .val (.int (Int32.ofNat (u1 + u2 + 0))), .val (.int cap), .val (.ref a2), .val (.ref a3), .val (.ref a4), .val (.long ((2 : Int64) * Int64.ofNat 0)), .second, .val (.long ((2 : Int64) * Int64.ofNat (0 + u1))), .second, .val (.long ((2 : Int64) * Int64.ofNat ((0 + u1) + u2))), .second] [(.int (1 : Int32))])
    refine own_go (fun _ => XS.goto X12.here hx rfl (pc0 := 173) (pc' := 177) rfl (hb hby at_173) (by decide) (by decide)) ?_
    show own_R p.tables e below _ T12 (mkF m 177 #[.val (.int cc), .val (.int n1), .val (.int n2), .val (.int ff), .val (.int (Int32.ofNat u1)), .val (.int (Int32.ofNat u2)), .val (.int (0 : Int32)), .val (.int (0 : Int32)), .val (.int (Int32.ofNat (u1 + u2 + 0))), .val (.int cap), .val (.ref a2), .val (.ref a3), .val (.ref a4), .val (.long ((2 : Int64) * Int64.ofNat 0)), .second, .val (.long ((2 : Int64) * Int64.ofNat (0 + u1))), .second, .val (.long ((2 : Int64) * Int64.ofNat ((0 + u1) + u2))), .second] [(.int (1 : Int32))])
    exact own_endW X12 S5 z12 (some (.int (1 : Int32))) (fun h => by rw [hret] at h; cases h) hlk (fun fs hr => retN X12 hx (t := .boolean) hret (by simp) (hb hby at_177) hr) ⟨rfl, N12⟩ (by decide) (by decide)
  · show own_R p.tables e below _ T0 (mkF m 15 #[.val (.int cc), .val (.int n1), .val (.int n2), .val (.int ff), .val (.int (Int32.ofNat u1)), .val (.int (Int32.ofNat u2)), .unset, .unset, .unset, .unset, .unset, .unset, .unset, .unset, .unset, .unset, .unset, .unset, .unset] [(.int (ff &&& (1 : Int32)))])
    refine own_go (fun _ => XS.ifNo X0.here hx rfl (hb hby at_15) rfl ((if0 _ _).trans (feq hf).1)) ?_
    show own_R p.tables e below _ T0 (mkF m 18 #[.val (.int cc), .val (.int n1), .val (.int n2), .val (.int ff), .val (.int (Int32.ofNat u1)), .val (.int (Int32.ofNat u2)), .unset, .unset, .unset, .unset, .unset, .unset, .unset, .unset, .unset, .unset, .unset, .unset, .unset] [])
    refine own_go (fun _ => XS.iconst X0.here hx rfl (hb hby at_18)) ?_
    show own_R p.tables e below _ T0 (mkF m 19 #[.val (.int cc), .val (.int n1), .val (.int n2), .val (.int ff), .val (.int (Int32.ofNat u1)), .val (.int (Int32.ofNat u2)), .unset, .unset, .unset, .unset, .unset, .unset, .unset, .unset, .unset, .unset, .unset, .unset, .unset] [(.int (1 : Int32))])
    refine own_go (fun _ => XS.goto X0.here hx rfl (pc0 := 19) (pc' := 23) rfl (hb hby at_19) (by decide) (by decide)) ?_
    show own_R p.tables e below _ T0 (mkF m 23 #[.val (.int cc), .val (.int n1), .val (.int n2), .val (.int ff), .val (.int (Int32.ofNat u1)), .val (.int (Int32.ofNat u2)), .unset, .unset, .unset, .unset, .unset, .unset, .unset, .unset, .unset, .unset, .unset, .unset, .unset] [(.int (1 : Int32))])
    refine own_go (fun _ => XS.istore X0.here hx rfl (hb hby at_23) rfl (l' := #[.val (.int cc), .val (.int n1), .val (.int n2), .val (.int ff), .val (.int (Int32.ofNat u1)), .val (.int (Int32.ofNat u2)), .val (.int (1 : Int32)), .unset, .unset, .unset, .unset, .unset, .unset, .unset, .unset, .unset, .unset, .unset, .unset]) rfl) ?_
    show own_R p.tables e below _ T0 (mkF m 25 #[.val (.int cc), .val (.int n1), .val (.int n2), .val (.int ff), .val (.int (Int32.ofNat u1)), .val (.int (Int32.ofNat u2)), .val (.int (1 : Int32)), .unset, .unset, .unset, .unset, .unset, .unset, .unset, .unset, .unset, .unset, .unset, .unset] [])
    refine own_go (fun _ => XS.iload X0.here hx rfl (hb hby at_25) rfl ) ?_
    show own_R p.tables e below _ T0 (mkF m 27 #[.val (.int cc), .val (.int n1), .val (.int n2), .val (.int ff), .val (.int (Int32.ofNat u1)), .val (.int (Int32.ofNat u2)), .val (.int (1 : Int32)), .unset, .unset, .unset, .unset, .unset, .unset, .unset, .unset, .unset, .unset, .unset, .unset] [(.int (1 : Int32))])
    refine own_go (fun _ => XS.ifNo X0.here hx rfl (hb hby at_27) rfl ((if0 _ _).trans (feq (by decide : ¬ ((1 : Int32) = (0 : Int32)))).1)) ?_
    show own_R p.tables e below _ T0 (mkF m 30 #[.val (.int cc), .val (.int n1), .val (.int n2), .val (.int ff), .val (.int (Int32.ofNat u1)), .val (.int (Int32.ofNat u2)), .val (.int (1 : Int32)), .unset, .unset, .unset, .unset, .unset, .unset, .unset, .unset, .unset, .unset, .unset, .unset] [])
    refine own_go (fun _ => XS.iconst X0.here hx rfl (hb hby at_30)) ?_
    show own_R p.tables e below _ T0 (mkF m 31 #[.val (.int cc), .val (.int n1), .val (.int n2), .val (.int ff), .val (.int (Int32.ofNat u1)), .val (.int (Int32.ofNat u2)), .val (.int (1 : Int32)), .unset, .unset, .unset, .unset, .unset, .unset, .unset, .unset, .unset, .unset, .unset, .unset] [(.int (1 : Int32))])
    refine own_go (fun _ => XS.goto X0.here hx rfl (pc0 := 31) (pc' := 35) rfl (hb hby at_31) (by decide) (by decide)) ?_
    show own_R p.tables e below _ T0 (mkF m 35 #[.val (.int cc), .val (.int n1), .val (.int n2), .val (.int ff), .val (.int (Int32.ofNat u1)), .val (.int (Int32.ofNat u2)), .val (.int (1 : Int32)), .unset, .unset, .unset, .unset, .unset, .unset, .unset, .unset, .unset, .unset, .unset, .unset] [(.int (1 : Int32))])
    refine own_go (fun _ => XS.istore X0.here hx rfl (hb hby at_35) rfl (l' := #[.val (.int cc), .val (.int n1), .val (.int n2), .val (.int ff), .val (.int (Int32.ofNat u1)), .val (.int (Int32.ofNat u2)), .val (.int (1 : Int32)), .val (.int (1 : Int32)), .unset, .unset, .unset, .unset, .unset, .unset, .unset, .unset, .unset, .unset, .unset]) rfl) ?_
    show own_R p.tables e below _ T0 (mkF m 37 #[.val (.int cc), .val (.int n1), .val (.int n2), .val (.int ff), .val (.int (Int32.ofNat u1)), .val (.int (Int32.ofNat u2)), .val (.int (1 : Int32)), .val (.int (1 : Int32)), .unset, .unset, .unset, .unset, .unset, .unset, .unset, .unset, .unset, .unset, .unset] [])
    refine own_go (fun _ => XS.iload X0.here hx rfl (hb hby at_37) rfl ) ?_
    show own_R p.tables e below _ T0 (mkF m 39 #[.val (.int cc), .val (.int n1), .val (.int n2), .val (.int ff), .val (.int (Int32.ofNat u1)), .val (.int (Int32.ofNat u2)), .val (.int (1 : Int32)), .val (.int (1 : Int32)), .unset, .unset, .unset, .unset, .unset, .unset, .unset, .unset, .unset, .unset, .unset] [(.int (Int32.ofNat u1))])
    refine own_go (fun _ => XS.iload X0.here hx rfl (hb hby at_39) rfl ) ?_
    show own_R p.tables e below _ T0 (mkF m 41 #[.val (.int cc), .val (.int n1), .val (.int n2), .val (.int ff), .val (.int (Int32.ofNat u1)), .val (.int (Int32.ofNat u2)), .val (.int (1 : Int32)), .val (.int (1 : Int32)), .unset, .unset, .unset, .unset, .unset, .unset, .unset, .unset, .unset, .unset, .unset] [(.int (Int32.ofNat u2)), (.int (Int32.ofNat u1))])
    refine own_go (fun _ => XS.iadd X0.here hx rfl (hb hby at_41) rfl) ?_
    show own_R p.tables e below _ T0 (mkF m 42 #[.val (.int cc), .val (.int n1), .val (.int n2), .val (.int ff), .val (.int (Int32.ofNat u1)), .val (.int (Int32.ofNat u2)), .val (.int (1 : Int32)), .val (.int (1 : Int32)), .unset, .unset, .unset, .unset, .unset, .unset, .unset, .unset, .unset, .unset, .unset] [(.int ((Int32.ofNat u1) + (Int32.ofNat u2)))])
    refine own_go (fun _ => XS.iload X0.here hx rfl (hb hby at_42) rfl ) ?_
    show own_R p.tables e below _ T0 (mkF m 44 #[.val (.int cc), .val (.int n1), .val (.int n2), .val (.int ff), .val (.int (Int32.ofNat u1)), .val (.int (Int32.ofNat u2)), .val (.int (1 : Int32)), .val (.int (1 : Int32)), .unset, .unset, .unset, .unset, .unset, .unset, .unset, .unset, .unset, .unset, .unset] [(.int (1 : Int32)), (.int ((Int32.ofNat u1) + (Int32.ofNat u2)))])
    refine own_go (fun _ => XS.iadd X0.here hx rfl (hb hby at_44) rfl) ?_
    show own_R p.tables e below _ T0 (mkF m 45 #[.val (.int cc), .val (.int n1), .val (.int n2), .val (.int ff), .val (.int (Int32.ofNat u1)), .val (.int (Int32.ofNat u2)), .val (.int (1 : Int32)), .val (.int (1 : Int32)), .unset, .unset, .unset, .unset, .unset, .unset, .unset, .unset, .unset, .unset, .unset] [(.int (((Int32.ofNat u1) + (Int32.ofNat u2)) + (1 : Int32)))])
    rw [own_need1 u1 u2]
    show own_R p.tables e below _ T0 (mkF m 45 #[.val (.int cc), .val (.int n1), .val (.int n2), .val (.int ff), .val (.int (Int32.ofNat u1)), .val (.int (Int32.ofNat u2)), .val (.int (1 : Int32)), .val (.int (1 : Int32)), .unset, .unset, .unset, .unset, .unset, .unset, .unset, .unset, .unset, .unset, .unset] [(.int (Int32.ofNat (u1 + u2 + 1)))])
    refine own_go (fun _ => XS.istore X0.here hx rfl (hb hby at_45) rfl (l' := #[.val (.int cc), .val (.int n1), .val (.int n2), .val (.int ff), .val (.int (Int32.ofNat u1)), .val (.int (Int32.ofNat u2)), .val (.int (1 : Int32)), .val (.int (1 : Int32)), .val (.int (Int32.ofNat (u1 + u2 + 1))), .unset, .unset, .unset, .unset, .unset, .unset, .unset, .unset, .unset, .unset]) rfl) ?_
    show own_R p.tables e below _ T0 (mkF m 47 #[.val (.int cc), .val (.int n1), .val (.int n2), .val (.int ff), .val (.int (Int32.ofNat u1)), .val (.int (Int32.ofNat u2)), .val (.int (1 : Int32)), .val (.int (1 : Int32)), .val (.int (Int32.ofNat (u1 + u2 + 1))), .unset, .unset, .unset, .unset, .unset, .unset, .unset, .unset, .unset, .unset] [])
    refine own_go (fun _ => XS.iloadN X0.here hx rfl (hb hby at_47) rfl ) ?_
    show own_R p.tables e below _ T0 (mkF m 48 #[.val (.int cc), .val (.int n1), .val (.int n2), .val (.int ff), .val (.int (Int32.ofNat u1)), .val (.int (Int32.ofNat u2)), .val (.int (1 : Int32)), .val (.int (1 : Int32)), .val (.int (Int32.ofNat (u1 + u2 + 1))), .unset, .unset, .unset, .unset, .unset, .unset, .unset, .unset, .unset, .unset] [(.int cc)])
    refine own_go (X0.ldcInt hx hown (mvT hZ (hw _ (List.mem_of_getElem? (i := 0) rfl))) (g := (mkF m 48 #[.val (.int cc), .val (.int n1), .val (.int n2), .val (.int ff), .val (.int (Int32.ofNat u1)), .val (.int (Int32.ofNat u2)), .val (.int (1 : Int32)), .val (.int (1 : Int32)), .val (.int (Int32.ofNat (u1 + u2 + 1))), .unset, .unset, .unset, .unset, .unset, .unset, .unset, .unset, .unset, .unset] [(.int cc)])) rfl (hb hby at_48)) ?_
    show own_R p.tables e below _ T0 (mkF m 50 #[.val (.int cc), .val (.int n1), .val (.int n2), .val (.int ff), .val (.int (Int32.ofNat u1)), .val (.int (Int32.ofNat u2)), .val (.int (1 : Int32)), .val (.int (1 : Int32)), .val (.int (Int32.ofNat (u1 + u2 + 1))), .unset, .unset, .unset, .unset, .unset, .unset, .unset, .unset, .unset, .unset] [(.int (2147483647 : Int32)), (.int cc)])
    refine own_go (fun _ => XS.iand X0.here hx rfl (hb hby at_50) rfl) ?_
    show own_R p.tables e below _ T0 (mkF m 51 #[.val (.int cc), .val (.int n1), .val (.int n2), .val (.int ff), .val (.int (Int32.ofNat u1)), .val (.int (Int32.ofNat u2)), .val (.int (1 : Int32)), .val (.int (1 : Int32)), .val (.int (Int32.ofNat (u1 + u2 + 1))), .unset, .unset, .unset, .unset, .unset, .unset, .unset, .unset, .unset, .unset] [(.int (cc &&& (2147483647 : Int32)))])
    refine own_go (fun _ => XS.iload X0.here hx rfl (hb hby at_51) rfl ) ?_
    show own_R p.tables e below _ T0 (mkF m 53 #[.val (.int cc), .val (.int n1), .val (.int n2), .val (.int ff), .val (.int (Int32.ofNat u1)), .val (.int (Int32.ofNat u2)), .val (.int (1 : Int32)), .val (.int (1 : Int32)), .val (.int (Int32.ofNat (u1 + u2 + 1))), .unset, .unset, .unset, .unset, .unset, .unset, .unset, .unset, .unset, .unset] [(.int (Int32.ofNat (u1 + u2 + 1))), (.int (cc &&& (2147483647 : Int32)))])
    obtain ⟨v1, T1, L1, X1, Q1, st1⟩ := own_callS X0 hx hZ hown (y := (⟨"java/lang/Math", "max", "(II)I"⟩ : MethodName)) (hw _ (List.mem_of_getElem? (i := 1) rfl)) (hw _ (List.mem_of_getElem? (i := 2) rfl)) (hw _ (List.mem_of_getElem? (i := 3) rfl)) (hw _ (List.mem_of_getElem? (i := 4) rfl)) (by decide) (rmMax l Z a0 hw [] h0 n0 (cc &&& (2147483647 : Int32)) (Int32.ofNat (u1 + u2 + 1))) (W := 0) (g := (mkF m 53 #[.val (.int cc), .val (.int n1), .val (.int n2), .val (.int ff), .val (.int (Int32.ofNat u1)), .val (.int (Int32.ofNat u2)), .val (.int (1 : Int32)), .val (.int (1 : Int32)), .val (.int (Int32.ofNat (u1 + u2 + 1))), .unset, .unset, .unset, .unset, .unset, .unset, .unset, .unset, .unset, .unset] [(.int (Int32.ofNat (u1 + u2 + 1))), (.int (cc &&& (2147483647 : Int32)))])) rfl (by rw [hml]; rfl) (argsL := [(.int (cc &&& (2147483647 : Int32))), (.int (Int32.ofNat (u1 + u2 + 1)))]) (rest := []) (lenOf pd__II_I rfl) rfl rfl (by show 2 * 0 + _ ≤ _; exact Nat.le_of_eq rfl) (hb hby at_53) e0 (by decide) (by decide) (by decide) (by decide)
    obtain ⟨rfl, N1q, e1⟩ := Q1
    have N1 := Fr.app N0 N1q
    have hcap : ∀ m, m ≤ (u1 + u2 + 1) → ¬ own_max (cc &&& (2147483647 : Int32)) (Int32.ofNat (u1 + u2 + 1)) < Int32.ofNat m := fun m hm => own_maxle hm (by omega)
    generalize own_max (cc &&& (2147483647 : Int32)) (Int32.ofNat (u1 + u2 + 1)) = cap at hcap st1
    refine own_go st1 ?_
    show own_R p.tables e below _ T1 (mkF m 56 #[.val (.int cc), .val (.int n1), .val (.int n2), .val (.int ff), .val (.int (Int32.ofNat u1)), .val (.int (Int32.ofNat u2)), .val (.int (1 : Int32)), .val (.int (1 : Int32)), .val (.int (Int32.ofNat (u1 + u2 + 1))), .unset, .unset, .unset, .unset, .unset, .unset, .unset, .unset, .unset, .unset] [(.int cap)])
    refine own_go (fun _ => XS.istore X1.here hx rfl (hb hby at_56) rfl (l' := #[.val (.int cc), .val (.int n1), .val (.int n2), .val (.int ff), .val (.int (Int32.ofNat u1)), .val (.int (Int32.ofNat u2)), .val (.int (1 : Int32)), .val (.int (1 : Int32)), .val (.int (Int32.ofNat (u1 + u2 + 1))), .val (.int cap), .unset, .unset, .unset, .unset, .unset, .unset, .unset, .unset, .unset]) rfl) ?_
    show own_R p.tables e below _ T1 (mkF m 58 #[.val (.int cc), .val (.int n1), .val (.int n2), .val (.int ff), .val (.int (Int32.ofNat u1)), .val (.int (Int32.ofNat u2)), .val (.int (1 : Int32)), .val (.int (1 : Int32)), .val (.int (Int32.ofNat (u1 + u2 + 1))), .val (.int cap), .unset, .unset, .unset, .unset, .unset, .unset, .unset, .unset, .unset] [])
    refine own_go (fun _ => XS.bipush X1.here hx rfl (hb hby at_58)) ?_
    show own_R p.tables e below _ T1 (mkF m 60 #[.val (.int cc), .val (.int n1), .val (.int n2), .val (.int ff), .val (.int (Int32.ofNat u1)), .val (.int (Int32.ofNat u2)), .val (.int (1 : Int32)), .val (.int (1 : Int32)), .val (.int (Int32.ofNat (u1 + u2 + 1))), .val (.int cap), .unset, .unset, .unset, .unset, .unset, .unset, .unset, .unset, .unset] [(.int (16 : Int32))])
    obtain ⟨T2, h2, k2, X2, e2, E2, A2, st2⟩ := newP X1 hx hZ (hw _ (List.mem_of_getElem? (i := 5) rfl)) e1 (g := (mkF m 60 #[.val (.int cc), .val (.int n1), .val (.int n2), .val (.int ff), .val (.int (Int32.ofNat u1)), .val (.int (Int32.ofNat u2)), .val (.int (1 : Int32)), .val (.int (1 : Int32)), .val (.int (Int32.ofNat (u1 + u2 + 1))), .val (.int cap), .unset, .unset, .unset, .unset, .unset, .unset, .unset, .unset, .unset] [(.int (16 : Int32))])) rfl (hb hby at_60) rfl (by decide) (cap := 16) (by decide) (by decide) (by decide) (by decide)
    obtain ⟨a2, g2⟩ : ∃ z, z = h0.size := ⟨_, rfl⟩
    rw [← g2] at A2 st2
    refine own_go st2 ?_
    show own_R p.tables e below _ T2 (mkF m 62 #[.val (.int cc), .val (.int n1), .val (.int n2), .val (.int ff), .val (.int (Int32.ofNat u1)), .val (.int (Int32.ofNat u2)), .val (.int (1 : Int32)), .val (.int (1 : Int32)), .val (.int (Int32.ofNat (u1 + u2 + 1))), .val (.int cap), .unset, .unset, .unset, .unset, .unset, .unset, .unset, .unset, .unset] [(.ref a2)])
    refine own_go (fun _ => XS.astore X2.here hx rfl (hb hby at_62) rfl rfl (l' := #[.val (.int cc), .val (.int n1), .val (.int n2), .val (.int ff), .val (.int (Int32.ofNat u1)), .val (.int (Int32.ofNat u2)), .val (.int (1 : Int32)), .val (.int (1 : Int32)), .val (.int (Int32.ofNat (u1 + u2 + 1))), .val (.int cap), .val (.ref a2), .unset, .unset, .unset, .unset, .unset, .unset, .unset, .unset]) rfl) ?_
    show own_R p.tables e below _ T2 (mkF m 64 #[.val (.int cc), .val (.int n1), .val (.int n2), .val (.int ff), .val (.int (Int32.ofNat u1)), .val (.int (Int32.ofNat u2)), .val (.int (1 : Int32)), .val (.int (1 : Int32)), .val (.int (Int32.ofNat (u1 + u2 + 1))), .val (.int cap), .val (.ref a2), .unset, .unset, .unset, .unset, .unset, .unset, .unset, .unset] [])
    refine own_go (fun _ => XS.bipush X2.here hx rfl (hb hby at_64)) ?_
    show own_R p.tables e below _ T2 (mkF m 66 #[.val (.int cc), .val (.int n1), .val (.int n2), .val (.int ff), .val (.int (Int32.ofNat u1)), .val (.int (Int32.ofNat u2)), .val (.int (1 : Int32)), .val (.int (1 : Int32)), .val (.int (Int32.ofNat (u1 + u2 + 1))), .val (.int cap), .val (.ref a2), .unset, .unset, .unset, .unset, .unset, .unset, .unset, .unset] [(.int (16 : Int32))])
    obtain ⟨T3, h3, k3, X3, e3, E3, A3, st3⟩ := newP X2 hx hZ (hw _ (List.mem_of_getElem? (i := 5) rfl)) e2 (g := (mkF m 66 #[.val (.int cc), .val (.int n1), .val (.int n2), .val (.int ff), .val (.int (Int32.ofNat u1)), .val (.int (Int32.ofNat u2)), .val (.int (1 : Int32)), .val (.int (1 : Int32)), .val (.int (Int32.ofNat (u1 + u2 + 1))), .val (.int cap), .val (.ref a2), .unset, .unset, .unset, .unset, .unset, .unset, .unset, .unset] [(.int (16 : Int32))])) rfl (hb hby at_66) rfl (by decide) (cap := 16) (by decide) (by decide) (by decide) (by decide)
    obtain ⟨a3, g3⟩ : ∃ z, z = h2.size := ⟨_, rfl⟩
    rw [← g3] at A3 st3
    refine own_go st3 ?_
    show own_R p.tables e below _ T3 (mkF m 68 #[.val (.int cc), .val (.int n1), .val (.int n2), .val (.int ff), .val (.int (Int32.ofNat u1)), .val (.int (Int32.ofNat u2)), .val (.int (1 : Int32)), .val (.int (1 : Int32)), .val (.int (Int32.ofNat (u1 + u2 + 1))), .val (.int cap), .val (.ref a2), .unset, .unset, .unset, .unset, .unset, .unset, .unset, .unset] [(.ref a3)])
    have B1 : Arv Z h3 a2 k2 .byte (Int32.ofNat 16) [] (.int 0) := (Arv.new A2 (by decide)).ext E3
    have B2 : Arv Z h3 a3 k3 .byte (Int32.ofNat 16) [] (.int 0) := Arv.new A3 (by decide)
    refine own_go (fun _ => XS.astore X3.here hx rfl (hb hby at_68) rfl rfl (l' := #[.val (.int cc), .val (.int n1), .val (.int n2), .val (.int ff), .val (.int (Int32.ofNat u1)), .val (.int (Int32.ofNat u2)), .val (.int (1 : Int32)), .val (.int (1 : Int32)), .val (.int (Int32.ofNat (u1 + u2 + 1))), .val (.int cap), .val (.ref a2), .val (.ref a3), .unset, .unset, .unset, .unset, .unset, .unset, .unset]) rfl) ?_
    show own_R p.tables e below _ T3 (mkF m 70 #[.val (.int cc), .val (.int n1), .val (.int n2), .val (.int ff), .val (.int (Int32.ofNat u1)), .val (.int (Int32.ofNat u2)), .val (.int (1 : Int32)), .val (.int (1 : Int32)), .val (.int (Int32.ofNat (u1 + u2 + 1))), .val (.int cap), .val (.ref a2), .val (.ref a3), .unset, .unset, .unset, .unset, .unset, .unset, .unset] [])
    obtain ⟨T4, h4, X4, e4, E4, A4, D4, -, st4⟩ := newO X3 hx hZ hown (hw _ (List.mem_of_getElem? (i := 6) rfl)) (hw _ (List.mem_of_getElem? (i := 7) rfl)) (hw _ (List.mem_of_getElem? (i := 8) rfl)) e3 (g := (mkF m 70 #[.val (.int cc), .val (.int n1), .val (.int n2), .val (.int ff), .val (.int (Int32.ofNat u1)), .val (.int (Int32.ofNat u2)), .val (.int (1 : Int32)), .val (.int (1 : Int32)), .val (.int (Int32.ofNat (u1 + u2 + 1))), .val (.int cap), .val (.ref a2), .val (.ref a3), .unset, .unset, .unset, .unset, .unset, .unset, .unset] [])) rfl (hb hby at_70) (by decide) (by decide)
    obtain ⟨a4, g4⟩ : ∃ z, z = h3.size := ⟨_, rfl⟩
    rw [← g4] at A4 D4 st4
    refine own_go st4 ?_
    show own_R p.tables e below _ T4 (mkF m 73 #[.val (.int cc), .val (.int n1), .val (.int n2), .val (.int ff), .val (.int (Int32.ofNat u1)), .val (.int (Int32.ofNat u2)), .val (.int (1 : Int32)), .val (.int (1 : Int32)), .val (.int (Int32.ofNat (u1 + u2 + 1))), .val (.int cap), .val (.ref a2), .val (.ref a3), .unset, .unset, .unset, .unset, .unset, .unset, .unset] [(.ref a4)])
    refine own_go (fun _ => XS.dup X4.here hx rfl (hb hby at_73) rfl rfl) ?_
    show own_R p.tables e below _ T4 (mkF m 74 #[.val (.int cc), .val (.int n1), .val (.int n2), .val (.int ff), .val (.int (Int32.ofNat u1)), .val (.int (Int32.ofNat u2)), .val (.int (1 : Int32)), .val (.int (1 : Int32)), .val (.int (Int32.ofNat (u1 + u2 + 1))), .val (.int cap), .val (.ref a2), .val (.ref a3), .unset, .unset, .unset, .unset, .unset, .unset, .unset] [(.ref a4), (.ref a4)])
    refine own_go (fun _ => XS.iload X4.here hx rfl (hb hby at_74) rfl ) ?_
    show own_R p.tables e below _ T4 (mkF m 76 #[.val (.int cc), .val (.int n1), .val (.int n2), .val (.int ff), .val (.int (Int32.ofNat u1)), .val (.int (Int32.ofNat u2)), .val (.int (1 : Int32)), .val (.int (1 : Int32)), .val (.int (Int32.ofNat (u1 + u2 + 1))), .val (.int cap), .val (.ref a2), .val (.ref a3), .unset, .unset, .unset, .unset, .unset, .unset, .unset] [(.int cap), (.ref a4), (.ref a4)])
    obtain ⟨a5, T5, h5, X5, e5, E5, S5, hZ, hown, st5⟩ := own_ldc X4 hx hZ hown (hw _ (List.mem_of_getElem? (i := 9) rfl)) wS e4 (g := (mkF m 76 #[.val (.int cc), .val (.int n1), .val (.int n2), .val (.int ff), .val (.int (Int32.ofNat u1)), .val (.int (Int32.ofNat u2)), .val (.int (1 : Int32)), .val (.int (1 : Int32)), .val (.int (Int32.ofNat (u1 + u2 + 1))), .val (.int cap), .val (.ref a2), .val (.ref a3), .unset, .unset, .unset, .unset, .unset, .unset, .unset] [(.int cap), (.ref a4), (.ref a4)])) rfl (hb hby at_76) (n := 4) (by decide) (by decide) (by decide) (by decide)
    refine own_go st5 ?_
    show own_R p.tables e below _ T5 (mkF m 78 #[.val (.int cc), .val (.int n1), .val (.int n2), .val (.int ff), .val (.int (Int32.ofNat u1)), .val (.int (Int32.ofNat u2)), .val (.int (1 : Int32)), .val (.int (1 : Int32)), .val (.int (Int32.ofNat (u1 + u2 + 1))), .val (.int cap), .val (.ref a2), .val (.ref a3), .unset, .unset, .unset, .unset, .unset, .unset, .unset] [(.ref a5), (.int cap), (.ref a4), (.ref a4)])
    have ge4 : n0 ≤ a4 := by have := E2.1; have := E3.1; omega
    have Z5 : n0 ≤ h5.size := by have := E2.1; have := E3.1; have := E4.1; have := E5.1; omega
    obtain ⟨v6, T6, L6, X6, Q6, st6⟩ := own_callI X5 hx hZ hown (y := (⟨"com/example/keepd/keepd/http/Spool", "<init>", "(ILjava/lang/String;)V"⟩ : MethodName)) rfl (hw _ (List.mem_of_getElem? (i := 16) rfl)) (hw _ (List.mem_of_getElem? (i := 17) rfl)) (hw _ (List.mem_of_getElem? (i := 18) rfl)) (hw _ (List.mem_of_getElem? (i := 8) rfl)) (by decide) (rmSp l Z a0 hw [] h5 n0 a4 a5 cap ge4 Z5 (A4.ext E5) ((D4 (Or.inl (hw _ (List.mem_of_getElem? (i := 53) rfl))) (ty := (.object "java/io/OutputStream")) (by decide)).ext E5) ((D4 (Or.inl (hw _ (List.mem_of_getElem? (i := 42) rfl))) (ty := (.object "java/io/ByteArrayOutputStream")) (by decide)).ext E5) ((D4 (Or.inr (hw _ (List.mem_of_getElem? (i := 44) rfl))) (ty := .int) (by decide)).ext E5) ((D4 (Or.inr (hw _ (List.mem_of_getElem? (i := 46) rfl))) (ty := (.object "java/lang/String")) (by decide)).ext E5) ((D4 (Or.inl (hw _ (List.mem_of_getElem? (i := 56) rfl))) (ty := .long) (by decide)).ext E5)) (W := 1) (g := (mkF m 78 #[.val (.int cc), .val (.int n1), .val (.int n2), .val (.int ff), .val (.int (Int32.ofNat u1)), .val (.int (Int32.ofNat u2)), .val (.int (1 : Int32)), .val (.int (1 : Int32)), .val (.int (Int32.ofNat (u1 + u2 + 1))), .val (.int cap), .val (.ref a2), .val (.ref a3), .unset, .unset, .unset, .unset, .unset, .unset, .unset] [(.ref a5), (.int cap), (.ref a4), (.ref a4)])) rfl (by rw [hml]; rfl) (a := a4) (argsL := [(.int cap), (.ref a5)]) (rest := [(.ref a4)]) (lenOf pd__ILjava_lang_String__V rfl) rfl rfl (by show 2 * 0 + _ ≤ _; exact Nat.le_of_eq rfl) (hb hby at_78) e5 (by decide) (by decide) (by decide) (by decide)
    obtain ⟨rfl, N6q, K6, bm, ab, gbm, gab, P6⟩ := Q6
    have N6 := Fr.app N1 N6q
    have gb : n0 ≤ bm := Nat.le_trans Z5 gbm
    have ga : n0 ≤ ab := Nat.le_trans Z5 gab
    have lt2 : a2 < h5.size := by have := E3.1; have := E4.1; have := E5.1; have : @LT.lt Nat instLTNat a2 (Array.size h2) := A2.lt; omega
    have lt3 : a3 < h5.size := by have := E4.1; have := E5.1; have : @LT.lt Nat instLTNat a3 (Array.size h3) := A3.lt; omega
    have lt4 : a4 < h5.size := (A4.ext E5).lt
    have n24 : a2 ≠ a4 := Ne.symm (own_ne (by have := E3.1; have : @LT.lt Nat instLTNat a2 (Array.size h2) := A2.lt; omega))
    have n34 : a3 ≠ a4 := Ne.symm (own_ne (by have : @LT.lt Nat instLTNat a3 (Array.size h3) := A3.lt; omega))
    have n2b : a2 ≠ bm := Ne.symm (own_ne (Nat.lt_of_lt_of_le lt2 gbm))
    have n3b : a3 ≠ bm := Ne.symm (own_ne (Nat.lt_of_lt_of_le lt3 gbm))
    have n3a : a3 ≠ ab := Ne.symm (own_ne (Nat.lt_of_lt_of_le lt3 gab))
    have C1 := ((B1.ext E4).ext E5).keep K6 (own_ni n24)
    have C2 := ((B2.ext E4).ext E5).keep K6 (own_ni n34)
    have z6 : h5.size ≤ T6.heap.size := K6.1
    refine own_go st6 ?_
    show own_R p.tables e below _ T6 (mkF m 81 #[.val (.int cc), .val (.int n1), .val (.int n2), .val (.int ff), .val (.int (Int32.ofNat u1)), .val (.int (Int32.ofNat u2)), .val (.int (1 : Int32)), .val (.int (1 : Int32)), .val (.int (Int32.ofNat (u1 + u2 + 1))), .val (.int cap), .val (.ref a2), .val (.ref a3), .unset, .unset, .unset, .unset, .unset, .unset, .unset] [(.ref a4)])
    refine own_go (fun _ => XS.astore X6.here hx rfl (hb hby at_81) rfl rfl (l' := #[.val (.int cc), .val (.int n1), .val (.int n2), .val (.int ff), .val (.int (Int32.ofNat u1)), .val (.int (Int32.ofNat u2)), .val (.int (1 : Int32)), .val (.int (1 : Int32)), .val (.int (Int32.ofNat (u1 + u2 + 1))), .val (.int cap), .val (.ref a2), .val (.ref a3), .val (.ref a4), .unset, .unset, .unset, .unset, .unset, .unset]) rfl) ?_
    show own_R p.tables e below _ T6 (mkF m 83 #[.val (.int cc), .val (.int n1), .val (.int n2), .val (.int ff), .val (.int (Int32.ofNat u1)), .val (.int (Int32.ofNat u2)), .val (.int (1 : Int32)), .val (.int (1 : Int32)), .val (.int (Int32.ofNat (u1 + u2 + 1))), .val (.int cap), .val (.ref a2), .val (.ref a3), .val (.ref a4), .unset, .unset, .unset, .unset, .unset, .unset] [])
    refine own_go (fun _ => XS.aload X6.here hx rfl (hb hby at_83) rfl rfl) ?_
    show own_R p.tables e below _ T6 (mkF m 85 #[.val (.int cc), .val (.int n1), .val (.int n2), .val (.int ff), .val (.int (Int32.ofNat u1)), .val (.int (Int32.ofNat u2)), .val (.int (1 : Int32)), .val (.int (1 : Int32)), .val (.int (Int32.ofNat (u1 + u2 + 1))), .val (.int cap), .val (.ref a2), .val (.ref a3), .val (.ref a4), .unset, .unset, .unset, .unset, .unset, .unset] [(.ref a4)])
    obtain ⟨v7, T7, L7, X7, Q7, st7⟩ := own_callV X6 hx hZ hown (y := (⟨"com/example/keepd/keepd/http/Spool", "heldBytes", "()J"⟩ : MethodName)) (hw _ (List.mem_of_getElem? (i := 47) rfl)) (hw _ (List.mem_of_getElem? (i := 48) rfl)) (hw _ (List.mem_of_getElem? (i := 50) rfl)) (hw _ (List.mem_of_getElem? (i := 49) rfl)) (hw _ (List.mem_of_getElem? (i := 51) rfl)) (hw _ (List.mem_of_getElem? (i := 8) rfl)) (by decide) (rmHeld l Z a0 hw [] T6.heap n0 a4 0 P6.2.1 P6.2.2.2.2.1) P6.1 (W := 0) (g := (mkF m 85 #[.val (.int cc), .val (.int n1), .val (.int n2), .val (.int ff), .val (.int (Int32.ofNat u1)), .val (.int (Int32.ofNat u2)), .val (.int (1 : Int32)), .val (.int (1 : Int32)), .val (.int (Int32.ofNat (u1 + u2 + 1))), .val (.int cap), .val (.ref a2), .val (.ref a3), .val (.ref a4), .unset, .unset, .unset, .unset, .unset, .unset] [(.ref a4)])) rfl (by rw [hml]; rfl) (b := a4) (argsL := []) (rest := []) (lenOf pd___J rfl) rfl rfl (by show 2 * 0 + _ ≤ _; exact Nat.le_of_eq rfl) (hb hby at_85) rfl (by decide) (by decide) (by decide) (by decide)
    obtain ⟨rfl, N7q, e7⟩ := Q7
    have N7 := Fr.app N6 N7q
    have P7 := P6
    rw [← e7] at P7
    have C27 := C2
    rw [← e7] at C27
    have C17 := C1
    rw [← e7] at C17
    have z7 : h5.size ≤ T7.heap.size := by rw [e7]; exact z6
    refine own_go st7 ?_
    show own_R p.tables e below _ T7 (mkF m 88 #[.val (.int cc), .val (.int n1), .val (.int n2), .val (.int ff), .val (.int (Int32.ofNat u1)), .val (.int (Int32.ofNat u2)), .val (.int (1 : Int32)), .val (.int (1 : Int32)), .val (.int (Int32.ofNat (u1 + u2 + 1))), .val (.int cap), .val (.ref a2), .val (.ref a3), .val (.ref a4), .unset, .unset, .unset, .unset, .unset, .unset] [(.long ((2 : Int64) * Int64.ofNat 0))])
    refine own_go (fun _ => XS.lstore X7.here hx rfl (hb hby at_88) rfl (l' := #[.val (.int cc), .val (.int n1), .val (.int n2), .val (.int ff), .val (.int (Int32.ofNat u1)), .val (.int (Int32.ofNat u2)), .val (.int (1 : Int32)), .val (.int (1 : Int32)), .val (.int (Int32.ofNat (u1 + u2 + 1))), .val (.int cap), .val (.ref a2), .val (.ref a3), .val (.ref a4), .val (.long ((2 : Int64) * Int64.ofNat 0)), .second, .unset, .unset, .unset, .unset]) rfl) ?_
    show own_R p.tables e below _ T7 (mkF m 90 #[.val (.int cc), .val (.int n1), .val (.int n2), .val (.int ff), .val (.int (Int32.ofNat u1)), .val (.int (Int32.ofNat u2)), .val (.int (1 : Int32)), .val (.int (1 : Int32)), .val (.int (Int32.ofNat (u1 + u2 + 1))), .val (.int cap), .val (.ref a2), .val (.ref a3), .val (.ref a4), .val (.long ((2 : Int64) * Int64.ofNat 0)), .second, .unset, .unset, .unset, .unset] [])
    refine own_go (fun _ => XS.aload X7.here hx rfl (hb hby at_90) rfl rfl) ?_
    show own_R p.tables e below _ T7 (mkF m 92 #[.val (.int cc), .val (.int n1), .val (.int n2), .val (.int ff), .val (.int (Int32.ofNat u1)), .val (.int (Int32.ofNat u2)), .val (.int (1 : Int32)), .val (.int (1 : Int32)), .val (.int (Int32.ofNat (u1 + u2 + 1))), .val (.int cap), .val (.ref a2), .val (.ref a3), .val (.ref a4), .val (.long ((2 : Int64) * Int64.ofNat 0)), .second, .unset, .unset, .unset, .unset] [(.ref a4)])
    refine own_go (fun _ => XS.aload X7.here hx rfl (hb hby at_92) rfl rfl) ?_
    show own_R p.tables e below _ T7 (mkF m 94 #[.val (.int cc), .val (.int n1), .val (.int n2), .val (.int ff), .val (.int (Int32.ofNat u1)), .val (.int (Int32.ofNat u2)), .val (.int (1 : Int32)), .val (.int (1 : Int32)), .val (.int (Int32.ofNat (u1 + u2 + 1))), .val (.int cap), .val (.ref a2), .val (.ref a3), .val (.ref a4), .val (.long ((2 : Int64) * Int64.ofNat 0)), .second, .unset, .unset, .unset, .unset] [(.ref a2), (.ref a4)])
    refine own_go (fun _ => XS.bipush X7.here hx rfl (hb hby at_94)) ?_
    show own_R p.tables e below _ T7 (mkF m 96 #[.val (.int cc), .val (.int n1), .val (.int n2), .val (.int ff), .val (.int (Int32.ofNat u1)), .val (.int (Int32.ofNat u2)), .val (.int (1 : Int32)), .val (.int (1 : Int32)), .val (.int (Int32.ofNat (u1 + u2 + 1))), .val (.int cap), .val (.ref a2), .val (.ref a3), .val (.ref a4), .val (.long ((2 : Int64) * Int64.ofNat 0)), .second, .unset, .unset, .unset, .unset] [(.int (16 : Int32)), (.ref a2), (.ref a4)])
    refine own_go (fun _ => XS.iload X7.here hx rfl (hb hby at_96) rfl ) ?_
    show own_R p.tables e below _ T7 (mkF m 98 #[.val (.int cc), .val (.int n1), .val (.int n2), .val (.int ff), .val (.int (Int32.ofNat u1)), .val (.int (Int32.ofNat u2)), .val (.int (1 : Int32)), .val (.int (1 : Int32)), .val (.int (Int32.ofNat (u1 + u2 + 1))), .val (.int cap), .val (.ref a2), .val (.ref a3), .val (.ref a4), .val (.long ((2 : Int64) * Int64.ofNat 0)), .second, .unset, .unset, .unset, .unset] [(.int (Int32.ofNat u1)), (.int (16 : Int32)), (.ref a2), (.ref a4)])
    refine own_go (fun _ => XS.isub X7.here hx rfl (hb hby at_98) rfl) ?_
    show own_R p.tables e below _ T7 (mkF m 99 #[.val (.int cc), .val (.int n1), .val (.int n2), .val (.int ff), .val (.int (Int32.ofNat u1)), .val (.int (Int32.ofNat u2)), .val (.int (1 : Int32)), .val (.int (1 : Int32)), .val (.int (Int32.ofNat (u1 + u2 + 1))), .val (.int cap), .val (.ref a2), .val (.ref a3), .val (.ref a4), .val (.long ((2 : Int64) * Int64.ofNat 0)), .second, .unset, .unset, .unset, .unset] [(.int ((16 : Int32) - (Int32.ofNat u1))), (.ref a2), (.ref a4)])
    refine own_go (fun _ => XS.iload X7.here hx rfl (hb hby at_99) rfl ) ?_
    show own_R p.tables e below _ T7 (mkF m 101 #[.val (.int cc), .val (.int n1), .val (.int n2), .val (.int ff), .val (.int (Int32.ofNat u1)), .val (.int (Int32.ofNat u2)), .val (.int (1 : Int32)), .val (.int (1 : Int32)), .val (.int (Int32.ofNat (u1 + u2 + 1))), .val (.int cap), .val (.ref a2), .val (.ref a3), .val (.ref a4), .val (.long ((2 : Int64) * Int64.ofNat 0)), .second, .unset, .unset, .unset, .unset] [(.int (Int32.ofNat u1)), (.int ((16 : Int32) - (Int32.ofNat u1))), (.ref a2), (.ref a4)])
    rw [own_16 (by omega : u1 ≤ 16)]
    show own_R p.tables e below _ T7 (mkF m 101 #[.val (.int cc), .val (.int n1), .val (.int n2), .val (.int ff), .val (.int (Int32.ofNat u1)), .val (.int (Int32.ofNat u2)), .val (.int (1 : Int32)), .val (.int (1 : Int32)), .val (.int (Int32.ofNat (u1 + u2 + 1))), .val (.int cap), .val (.ref a2), .val (.ref a3), .val (.ref a4), .val (.long ((2 : Int64) * Int64.ofNat 0)), .second, .unset, .unset, .unset, .unset] [(.int (Int32.ofNat u1)), (.int (Int32.ofNat (16 - u1))), (.ref a2), (.ref a4)])
    obtain ⟨v8, T8, L8, X8, Q8, st8⟩ := own_callV X7 hx hZ hown (y := (⟨"com/example/keepd/keepd/http/Spool", "write", "([BII)V"⟩ : MethodName)) (hw _ (List.mem_of_getElem? (i := 57) rfl)) (hw _ (List.mem_of_getElem? (i := 58) rfl)) (hw _ (List.mem_of_getElem? (i := 60) rfl)) (hw _ (List.mem_of_getElem? (i := 59) rfl)) (hw _ (List.mem_of_getElem? (i := 61) rfl)) (hw _ (List.mem_of_getElem? (i := 8) rfl)) (by decide) (rmSW l Z a0 hw [] T7.heap n0 a4 bm ab cap 0 a2 k2 [] (16 - u1) u1 16 C17 (by omega) (by decide) (by omega) P7 gb ga ge4 n2b (hcap _ (by omega))) P7.1 (W := 0) (g := (mkF m 101 #[.val (.int cc), .val (.int n1), .val (.int n2), .val (.int ff), .val (.int (Int32.ofNat u1)), .val (.int (Int32.ofNat u2)), .val (.int (1 : Int32)), .val (.int (1 : Int32)), .val (.int (Int32.ofNat (u1 + u2 + 1))), .val (.int cap), .val (.ref a2), .val (.ref a3), .val (.ref a4), .val (.long ((2 : Int64) * Int64.ofNat 0)), .second, .unset, .unset, .unset, .unset] [(.int (Int32.ofNat u1)), (.int (Int32.ofNat (16 - u1))), (.ref a2), (.ref a4)])) rfl (by rw [hml]; rfl) (b := a4) (argsL := [(.ref a2), (.int (Int32.ofNat (16 - u1))), (.int (Int32.ofNat u1))]) (rest := []) (lenOf pd___BII_V rfl) rfl rfl (by show 2 * 0 + _ ≤ _; exact Nat.le_of_eq rfl) (hb hby at_101) rfl (by decide) (by decide) (by decide) (by decide)
    obtain ⟨rfl, N8q, K8, P8⟩ := Q8
    have N8 := Fr.app N7 N8q
    have C28 := C27.keep K8 (by simp [n34, n3b, n3a])
    have z8 : h5.size ≤ T8.heap.size := Nat.le_trans z7 K8.1
    refine own_go st8 ?_
    show own_R p.tables e below _ T8 (mkF m 104 #[.val (.int cc), .val (.int n1), .val (.int n2), .val (.int ff), .val (.int (Int32.ofNat u1)), .val (.int (Int32.ofNat u2)), .val (.int (1 : Int32)), .val (.int (1 : Int32)), .val (.int (Int32.ofNat (u1 + u2 + 1))), .val (.int cap), .val (.ref a2), .val (.ref a3), .val (.ref a4), .val (.long ((2 : Int64) * Int64.ofNat 0)), .second, .unset, .unset, .unset, .unset] [])
    refine own_go (fun _ => XS.aload X8.here hx rfl (hb hby at_104) rfl rfl) ?_
    show own_R p.tables e below _ T8 (mkF m 106 #[.val (.int cc), .val (.int n1), .val (.int n2), .val (.int ff), .val (.int (Int32.ofNat u1)), .val (.int (Int32.ofNat u2)), .val (.int (1 : Int32)), .val (.int (1 : Int32)), .val (.int (Int32.ofNat (u1 + u2 + 1))), .val (.int cap), .val (.ref a2), .val (.ref a3), .val (.ref a4), .val (.long ((2 : Int64) * Int64.ofNat 0)), .second, .unset, .unset, .unset, .unset] [(.ref a4)])
    obtain ⟨v9, T9, L9, X9, Q9, st9⟩ := own_callV X8 hx hZ hown (y := (⟨"com/example/keepd/keepd/http/Spool", "heldBytes", "()J"⟩ : MethodName)) (hw _ (List.mem_of_getElem? (i := 47) rfl)) (hw _ (List.mem_of_getElem? (i := 48) rfl)) (hw _ (List.mem_of_getElem? (i := 50) rfl)) (hw _ (List.mem_of_getElem? (i := 49) rfl)) (hw _ (List.mem_of_getElem? (i := 51) rfl)) (hw _ (List.mem_of_getElem? (i := 8) rfl)) (by decide) (rmHeld l Z a0 hw [] T8.heap n0 a4 (0 + u1) P8.2.1 P8.2.2.2.2.1) P8.1 (W := 0) (g := (mkF m 106 #[.val (.int cc), .val (.int n1), .val (.int n2), .val (.int ff), .val (.int (Int32.ofNat u1)), .val (.int (Int32.ofNat u2)), .val (.int (1 : Int32)), .val (.int (1 : Int32)), .val (.int (Int32.ofNat (u1 + u2 + 1))), .val (.int cap), .val (.ref a2), .val (.ref a3), .val (.ref a4), .val (.long ((2 : Int64) * Int64.ofNat 0)), .second, .unset, .unset, .unset, .unset] [(.ref a4)])) rfl (by rw [hml]; rfl) (b := a4) (argsL := []) (rest := []) (lenOf pd___J rfl) rfl rfl (by show 2 * 0 + _ ≤ _; exact Nat.le_of_eq rfl) (hb hby at_106) rfl (by decide) (by decide) (by decide) (by decide)
    obtain ⟨rfl, N9q, e9⟩ := Q9
    have N9 := Fr.app N8 N9q
    have P9 := P8
    rw [← e9] at P9
    have C29 := C28
    rw [← e9] at C29
    have z9 : h5.size ≤ T9.heap.size := by rw [e9]; exact z8
    refine own_go st9 ?_
    show own_R p.tables e below _ T9 (mkF m 109 #[.val (.int cc), .val (.int n1), .val (.int n2), .val (.int ff), .val (.int (Int32.ofNat u1)), .val (.int (Int32.ofNat u2)), .val (.int (1 : Int32)), .val (.int (1 : Int32)), .val (.int (Int32.ofNat (u1 + u2 + 1))), .val (.int cap), .val (.ref a2), .val (.ref a3), .val (.ref a4), .val (.long ((2 : Int64) * Int64.ofNat 0)), .second, .unset, .unset, .unset, .unset] [(.long ((2 : Int64) * Int64.ofNat (0 + u1)))])
    refine own_go (fun _ => XS.lstore X9.here hx rfl (hb hby at_109) rfl (l' := #[.val (.int cc), .val (.int n1), .val (.int n2), .val (.int ff), .val (.int (Int32.ofNat u1)), .val (.int (Int32.ofNat u2)), .val (.int (1 : Int32)), .val (.int (1 : Int32)), .val (.int (Int32.ofNat (u1 + u2 + 1))), .val (.int cap), .val (.ref a2), .val (.ref a3), .val (.ref a4), .val (.long ((2 : Int64) * Int64.ofNat 0)), .second, .val (.long ((2 : Int64) * Int64.ofNat (0 + u1))), .second, .unset, .unset]) rfl) ?_
    show own_R p.tables e below _ T9 (mkF m 111 #[.val (.int cc), .val (.int n1), .val (.int n2), .val (.int ff), .val (.int (Int32.ofNat u1)), .val (.int (Int32.ofNat u2)), .val (.int (1 : Int32)), .val (.int (1 : Int32)), .val (.int (Int32.ofNat (u1 + u2 + 1))), .val (.int cap), .val (.ref a2), .val (.ref a3), .val (.ref a4), .val (.long ((2 : Int64) * Int64.ofNat 0)), .second, .val (.long ((2 : Int64) * Int64.ofNat (0 + u1))), .second, .unset, .unset] [])
    refine own_go (fun _ => XS.iload X9.here hx rfl (hb hby at_111) rfl ) ?_
    show own_R p.tables e below _ T9 (mkF m 113 #[.val (.int cc), .val (.int n1), .val (.int n2), .val (.int ff), .val (.int (Int32.ofNat u1)), .val (.int (Int32.ofNat u2)), .val (.int (1 : Int32)), .val (.int (1 : Int32)), .val (.int (Int32.ofNat (u1 + u2 + 1))), .val (.int cap), .val (.ref a2), .val (.ref a3), .val (.ref a4), .val (.long ((2 : Int64) * Int64.ofNat 0)), .second, .val (.long ((2 : Int64) * Int64.ofNat (0 + u1))), .second, .unset, .unset] [(.int (1 : Int32))])
    refine own_go (fun _ => XS.ifNo X9.here hx rfl (hb hby at_113) rfl ((if0 _ _).trans (feq (by decide : ¬ ((1 : Int32) = (0 : Int32)))).1)) ?_
    show own_R p.tables e below _ T9 (mkF m 116 #[.val (.int cc), .val (.int n1), .val (.int n2), .val (.int ff), .val (.int (Int32.ofNat u1)), .val (.int (Int32.ofNat u2)), .val (.int (1 : Int32)), .val (.int (1 : Int32)), .val (.int (Int32.ofNat (u1 + u2 + 1))), .val (.int cap), .val (.ref a2), .val (.ref a3), .val (.ref a4), .val (.long ((2 : Int64) * Int64.ofNat 0)), .second, .val (.long ((2 : Int64) * Int64.ofNat (0 + u1))), .second, .unset, .unset] [])
    refine own_go (fun _ => XS.aload X9.here hx rfl (hb hby at_116) rfl rfl) ?_
    show own_R p.tables e below _ T9 (mkF m 118 #[.val (.int cc), .val (.int n1), .val (.int n2), .val (.int ff), .val (.int (Int32.ofNat u1)), .val (.int (Int32.ofNat u2)), .val (.int (1 : Int32)), .val (.int (1 : Int32)), .val (.int (Int32.ofNat (u1 + u2 + 1))), .val (.int cap), .val (.ref a2), .val (.ref a3), .val (.ref a4), .val (.long ((2 : Int64) * Int64.ofNat 0)), .second, .val (.long ((2 : Int64) * Int64.ofNat (0 + u1))), .second, .unset, .unset] [(.ref a4)])
    refine own_go (fun _ => XS.iloadN X9.here hx rfl (hb hby at_118) rfl ) ?_
    show own_R p.tables e below _ T9 (mkF m 119 #[.val (.int cc), .val (.int n1), .val (.int n2), .val (.int ff), .val (.int (Int32.ofNat u1)), .val (.int (Int32.ofNat u2)), .val (.int (1 : Int32)), .val (.int (1 : Int32)), .val (.int (Int32.ofNat (u1 + u2 + 1))), .val (.int cap), .val (.ref a2), .val (.ref a3), .val (.ref a4), .val (.long ((2 : Int64) * Int64.ofNat 0)), .second, .val (.long ((2 : Int64) * Int64.ofNat (0 + u1))), .second, .unset, .unset] [(.int ff), (.ref a4)])
    obtain ⟨v10, T10, L10, X10, Q10, st10⟩ := own_callV X9 hx hZ hown (y := (⟨"com/example/keepd/keepd/http/Spool", "write", "(I)V"⟩ : MethodName)) (hw _ (List.mem_of_getElem? (i := 91) rfl)) (hw _ (List.mem_of_getElem? (i := 92) rfl)) (hw _ (List.mem_of_getElem? (i := 94) rfl)) (hw _ (List.mem_of_getElem? (i := 93) rfl)) (hw _ (List.mem_of_getElem? (i := 95) rfl)) (hw _ (List.mem_of_getElem? (i := 8) rfl)) (by decide) (rmSI l Z a0 hw [] T9.heap n0 a4 bm ab cap ff (0 + u1) (by omega) P9 gb ga ge4 (Nat.le_trans Z5 z9) (hcap _ (by omega))) P9.1 (W := 0) (g := (mkF m 119 #[.val (.int cc), .val (.int n1), .val (.int n2), .val (.int ff), .val (.int (Int32.ofNat u1)), .val (.int (Int32.ofNat u2)), .val (.int (1 : Int32)), .val (.int (1 : Int32)), .val (.int (Int32.ofNat (u1 + u2 + 1))), .val (.int cap), .val (.ref a2), .val (.ref a3), .val (.ref a4), .val (.long ((2 : Int64) * Int64.ofNat 0)), .second, .val (.long ((2 : Int64) * Int64.ofNat (0 + u1))), .second, .unset, .unset] [(.int ff), (.ref a4)])) rfl (by rw [hml]; rfl) (b := a4) (argsL := [(.int ff)]) (rest := []) (lenOf pd__I_V rfl) rfl rfl (by show 2 * 0 + _ ≤ _; exact Nat.le_of_eq rfl) (hb hby at_119) rfl (by decide) (by decide) (by decide) (by decide)
    obtain ⟨rfl, N10q, K10, P10⟩ := Q10
    have N10 := Fr.app N9 N10q
    have C210 := C29.keep K10 (by simp [n34, n3b, n3a])
    have z10 : h5.size ≤ T10.heap.size := Nat.le_trans z9 K10.1
    refine own_go st10 ?_
    show own_R p.tables e below _ T10 (mkF m 122 #[.val (.int cc), .val (.int n1), .val (.int n2), .val (.int ff), .val (.int (Int32.ofNat u1)), .val (.int (Int32.ofNat u2)), .val (.int (1 : Int32)), .val (.int (1 : Int32)), .val (.int (Int32.ofNat (u1 + u2 + 1))), .val (.int cap), .val (.ref a2), .val (.ref a3), .val (.ref a4), .val (.long ((2 : Int64) * Int64.ofNat 0)), .second, .val (.long ((2 : Int64) * Int64.ofNat (0 + u1))), .second, .unset, .unset] [])
    refine own_go (fun _ => XS.aload X10.here hx rfl (hb hby at_122) rfl rfl) ?_
    show own_R p.tables e below _ T10 (mkF m 124 #[.val (.int cc), .val (.int n1), .val (.int n2), .val (.int ff), .val (.int (Int32.ofNat u1)), .val (.int (Int32.ofNat u2)), .val (.int (1 : Int32)), .val (.int (1 : Int32)), .val (.int (Int32.ofNat (u1 + u2 + 1))), .val (.int cap), .val (.ref a2), .val (.ref a3), .val (.ref a4), .val (.long ((2 : Int64) * Int64.ofNat 0)), .second, .val (.long ((2 : Int64) * Int64.ofNat (0 + u1))), .second, .unset, .unset] [(.ref a4)])
    refine own_go (fun _ => XS.aload X10.here hx rfl (hb hby at_124) rfl rfl) ?_
    show own_R p.tables e below _ T10 (mkF m 126 #[.val (.int cc), .val (.int n1), .val (.int n2), .val (.int ff), .val (.int (Int32.ofNat u1)), .val (.int (Int32.ofNat u2)), .val (.int (1 : Int32)), .val (.int (1 : Int32)), .val (.int (Int32.ofNat (u1 + u2 + 1))), .val (.int cap), .val (.ref a2), .val (.ref a3), .val (.ref a4), .val (.long ((2 : Int64) * Int64.ofNat 0)), .second, .val (.long ((2 : Int64) * Int64.ofNat (0 + u1))), .second, .unset, .unset] [(.ref a3), (.ref a4)])
    refine own_go (fun _ => XS.iconst X10.here hx rfl (hb hby at_126)) ?_
    show own_R p.tables e below _ T10 (mkF m 127 #[.val (.int cc), .val (.int n1), .val (.int n2), .val (.int ff), .val (.int (Int32.ofNat u1)), .val (.int (Int32.ofNat u2)), .val (.int (1 : Int32)), .val (.int (1 : Int32)), .val (.int (Int32.ofNat (u1 + u2 + 1))), .val (.int cap), .val (.ref a2), .val (.ref a3), .val (.ref a4), .val (.long ((2 : Int64) * Int64.ofNat 0)), .second, .val (.long ((2 : Int64) * Int64.ofNat (0 + u1))), .second, .unset, .unset] [(.int (0 : Int32)), (.ref a3), (.ref a4)])
    refine own_go (fun _ => XS.iload X10.here hx rfl (hb hby at_127) rfl ) ?_
    show own_R p.tables e below _ T10 (mkF m 129 #[.val (.int cc), .val (.int n1), .val (.int n2), .val (.int ff), .val (.int (Int32.ofNat u1)), .val (.int (Int32.ofNat u2)), .val (.int (1 : Int32)), .val (.int (1 : Int32)), .val (.int (Int32.ofNat (u1 + u2 + 1))), .val (.int cap), .val (.ref a2), .val (.ref a3), .val (.ref a4), .val (.long ((2 : Int64) * Int64.ofNat 0)), .second, .val (.long ((2 : Int64) * Int64.ofNat (0 + u1))), .second, .unset, .unset] [(.int (Int32.ofNat u2)), (.int (0 : Int32)), (.ref a3), (.ref a4)])
    obtain ⟨v11, T11, L11, X11, Q11, st11⟩ := own_callV X10 hx hZ hown (y := (⟨"com/example/keepd/keepd/http/Spool", "write", "([BII)V"⟩ : MethodName)) (hw _ (List.mem_of_getElem? (i := 57) rfl)) (hw _ (List.mem_of_getElem? (i := 58) rfl)) (hw _ (List.mem_of_getElem? (i := 60) rfl)) (hw _ (List.mem_of_getElem? (i := 59) rfl)) (hw _ (List.mem_of_getElem? (i := 61) rfl)) (hw _ (List.mem_of_getElem? (i := 8) rfl)) (by decide) (rmSW l Z a0 hw [] T10.heap n0 a4 bm ab cap (0 + u1 + 1) a3 k3 [] 0 u2 16 C210 (by omega) (by decide) (by omega) P10 gb ga ge4 n3b (hcap _ (by omega))) P10.1 (W := 0) (g := (mkF m 129 #[.val (.int cc), .val (.int n1), .val (.int n2), .val (.int ff), .val (.int (Int32.ofNat u1)), .val (.int (Int32.ofNat u2)), .val (.int (1 : Int32)), .val (.int (1 : Int32)), .val (.int (Int32.ofNat (u1 + u2 + 1))), .val (.int cap), .val (.ref a2), .val (.ref a3), .val (.ref a4), .val (.long ((2 : Int64) * Int64.ofNat 0)), .second, .val (.long ((2 : Int64) * Int64.ofNat (0 + u1))), .second, .unset, .unset] [(.int (Int32.ofNat u2)), (.int (0 : Int32)), (.ref a3), (.ref a4)])) rfl (by rw [hml]; rfl) (b := a4) (argsL := [(.ref a3), (.int (0 : Int32)), (.int (Int32.ofNat u2))]) (rest := []) (lenOf pd___BII_V rfl) rfl rfl (by show 2 * 0 + _ ≤ _; exact Nat.le_of_eq rfl) (hb hby at_129) rfl (by decide) (by decide) (by decide) (by decide)
    obtain ⟨rfl, N11q, K11, P11⟩ := Q11
    have N11 := Fr.app N10 N11q
    have z11 : h5.size ≤ T11.heap.size := Nat.le_trans z10 K11.1
    refine own_go st11 ?_
    show own_R p.tables e below _ T11 (mkF m 132 #[.val (.int cc), .val (.int n1), .val (.int n2), .val (.int ff), .val (.int (Int32.ofNat u1)), .val (.int (Int32.ofNat u2)), .val (.int (1 : Int32)), .val (.int (1 : Int32)), .val (.int (Int32.ofNat (u1 + u2 + 1))), .val (.int cap), .val (.ref a2), .val (.ref a3), .val (.ref a4), .val (.long ((2 : Int64) * Int64.ofNat 0)), .second, .val (.long ((2 : Int64) * Int64.ofNat (0 + u1))), .second, .unset, .unset] [])
    refine own_go (fun _ => XS.aload X11.here hx rfl (hb hby at_132) rfl rfl) ?_
    show own_R p.tables e below _ T11 (mkF m 134 #[.val (.int cc), .val (.int n1), .val (.int n2), .val (.int ff), .val (.int (Int32.ofNat u1)), .val (.int (Int32.ofNat u2)), .val (.int (1 : Int32)), .val (.int (1 : Int32)), .val (.int (Int32.ofNat (u1 + u2 + 1))), .val (.int cap), .val (.ref a2), .val (.ref a3), .val (.ref a4), .val (.long ((2 : Int64) * Int64.ofNat 0)), .second, .val (.long ((2 : Int64) * Int64.ofNat (0 + u1))), .second, .unset, .unset] [(.ref a4)])
    obtain ⟨v12, T12, L12, X12, Q12, st12⟩ := own_callV X11 hx hZ hown (y := (⟨"com/example/keepd/keepd/http/Spool", "heldBytes", "()J"⟩ : MethodName)) (hw _ (List.mem_of_getElem? (i := 47) rfl)) (hw _ (List.mem_of_getElem? (i := 48) rfl)) (hw _ (List.mem_of_getElem? (i := 50) rfl)) (hw _ (List.mem_of_getElem? (i := 49) rfl)) (hw _ (List.mem_of_getElem? (i := 51) rfl)) (hw _ (List.mem_of_getElem? (i := 8) rfl)) (by decide) (rmHeld l Z a0 hw [] T11.heap n0 a4 ((0 + u1 + 1) + u2) P11.2.1 P11.2.2.2.2.1) P11.1 (W := 0) (g := (mkF m 134 #[.val (.int cc), .val (.int n1), .val (.int n2), .val (.int ff), .val (.int (Int32.ofNat u1)), .val (.int (Int32.ofNat u2)), .val (.int (1 : Int32)), .val (.int (1 : Int32)), .val (.int (Int32.ofNat (u1 + u2 + 1))), .val (.int cap), .val (.ref a2), .val (.ref a3), .val (.ref a4), .val (.long ((2 : Int64) * Int64.ofNat 0)), .second, .val (.long ((2 : Int64) * Int64.ofNat (0 + u1))), .second, .unset, .unset] [(.ref a4)])) rfl (by rw [hml]; rfl) (b := a4) (argsL := []) (rest := []) (lenOf pd___J rfl) rfl rfl (by show 2 * 0 + _ ≤ _; exact Nat.le_of_eq rfl) (hb hby at_134) rfl (by decide) (by decide) (by decide) (by decide)
    obtain ⟨rfl, N12q, e12⟩ := Q12
    have N12 := Fr.app N11 N12q
    have z12 : h5.size ≤ T12.heap.size := by rw [e12]; exact z11
    refine own_go st12 ?_
    show own_R p.tables e below _ T12 (mkF m 137 #[.val (.int cc), .val (.int n1), .val (.int n2), .val (.int ff), .val (.int (Int32.ofNat u1)), .val (.int (Int32.ofNat u2)), .val (.int (1 : Int32)), .val (.int (1 : Int32)), .val (.int (Int32.ofNat (u1 + u2 + 1))), .val (.int cap), .val (.ref a2), .val (.ref a3), .val (.ref a4), .val (.long ((2 : Int64) * Int64.ofNat 0)), .second, .val (.long ((2 : Int64) * Int64.ofNat (0 + u1))), .second, .unset, .unset] [(.long ((2 : Int64) * Int64.ofNat ((0 + u1 + 1) + u2)))])
    refine own_go (fun _ => XS.lstore X12.here hx rfl (hb hby at_137) rfl (l' := #[.val (.int cc), .val (.int n1), .val (.int n2), .val (.int ff), .val (.int (Int32.ofNat u1)), .val (.int (Int32.ofNat u2)), .val (.int (1 : Int32)), .val (.int (1 : Int32)), .val (.int (Int32.ofNat (u1 + u2 + 1))), .val (.int cap), .val (.ref a2), .val (.ref a3), .val (.ref a4), .val (.long ((2 : Int64) * Int64.ofNat 0)), .second, .val (.long ((2 : Int64) * Int64.ofNat (0 + u1))), .second, .val (.long ((2 : Int64) * Int64.ofNat ((0 + u1 + 1) + u2))), .second]) rfl) ?_
    show own_R p.tables e below _ T12 (mkF m 139 #[.val (.int cc), .val (.int n1), .val (.int n2), .val (.int ff), .val (.int (Int32.ofNat u1)), .val (.int (Int32.ofNat u2)), .val (.int (1 : Int32)), .val (.int (1 : Int32)), .val (.int (Int32.ofNat (u1 + u2 + 1))), .val (.int cap), .val (.ref a2), .val (.ref a3), .val (.ref a4), .val (.long ((2 : Int64) * Int64.ofNat 0)), .second, .val (.long ((2 : Int64) * Int64.ofNat (0 + u1))), .second, .val (.long ((2 : Int64) * Int64.ofNat ((0 + u1 + 1) + u2))), .second] [])
    refine own_go (fun _ => XS.lload X12.here hx rfl (hb hby at_139) rfl ) ?_
    show own_R p.tables e below _ T12 (mkF m 141 #[.val (.int cc), .val (.int n1), .val (.int n2), .val (.int ff), .val (.int (Int32.ofNat u1)), .val (.int (Int32.ofNat u2)), .val (.int (1 : Int32)), .val (.int (1 : Int32)), .val (.int (Int32.ofNat (u1 + u2 + 1))), .val (.int cap), .val (.ref a2), .val (.ref a3), .val (.ref a4), .val (.long ((2 : Int64) * Int64.ofNat 0)), .second, .val (.long ((2 : Int64) * Int64.ofNat (0 + u1))), .second, .val (.long ((2 : Int64) * Int64.ofNat ((0 + u1 + 1) + u2))), .second] [(.long ((2 : Int64) * Int64.ofNat 0))])
    refine own_go (fun _ => XS.lconst X12.here hx rfl (hb hby at_141)) ?_
    show own_R p.tables e below _ T12 (mkF m 142 #[.val (.int cc), .val (.int n1), .val (.int n2), .val (.int ff), .val (.int (Int32.ofNat u1)), .val (.int (Int32.ofNat u2)), .val (.int (1 : Int32)), .val (.int (1 : Int32)), .val (.int (Int32.ofNat (u1 + u2 + 1))), .val (.int cap), .val (.ref a2), .val (.ref a3), .val (.ref a4), .val (.long ((2 : Int64) * Int64.ofNat 0)), .second, .val (.long ((2 : Int64) * Int64.ofNat (0 + u1))), .second, .val (.long ((2 : Int64) * Int64.ofNat ((0 + u1 + 1) + u2))), .second] [(.long (0 : Int64)), (.long ((2 : Int64) * Int64.ofNat 0))])
    refine own_go (fun _ => XS.lcmp X12.here hx rfl (hb hby at_142) rfl) ?_
    show own_R p.tables e below _ T12 (mkF m 143 #[.val (.int cc), .val (.int n1), .val (.int n2), .val (.int ff), .val (.int (Int32.ofNat u1)), .val (.int (Int32.ofNat u2)), .val (.int (1 : Int32)), .val (.int (1 : Int32)), .val (.int (Int32.ofNat (u1 + u2 + 1))), .val (.int cap), .val (.ref a2), .val (.ref a3), .val (.ref a4), .val (.long ((2 : Int64) * Int64.ofNat 0)), .second, .val (.long ((2 : Int64) * Int64.ofNat (0 + u1))), .second, .val (.long ((2 : Int64) * Int64.ofNat ((0 + u1 + 1) + u2))), .second] [(.int (lcmpW ((2 : Int64) * Int64.ofNat 0) (0 : Int64)))])
    refine own_go (fun _ => XS.ifNo X12.here hx rfl (hb hby at_143) rfl ((if0 _ _).trans (teq (own_lc (by decide))).2)) ?_
    show own_R p.tables e below _ T12 (mkF m 146 #[.val (.int cc), .val (.int n1), .val (.int n2), .val (.int ff), .val (.int (Int32.ofNat u1)), .val (.int (Int32.ofNat u2)), .val (.int (1 : Int32)), .val (.int (1 : Int32)), .val (.int (Int32.ofNat (u1 + u2 + 1))), .val (.int cap), .val (.ref a2), .val (.ref a3), .val (.ref a4), .val (.long ((2 : Int64) * Int64.ofNat 0)), .second, .val (.long ((2 : Int64) * Int64.ofNat (0 + u1))), .second, .val (.long ((2 : Int64) * Int64.ofNat ((0 + u1 + 1) + u2))), .second] [])
    refine own_go (fun _ => XS.lload X12.here hx rfl (hb hby at_146) rfl ) ?_
    show own_R p.tables e below _ T12 (mkF m 148 #[.val (.int cc), .val (.int n1), .val (.int n2), .val (.int ff), .val (.int (Int32.ofNat u1)), .val (.int (Int32.ofNat u2)), .val (.int (1 : Int32)), .val (.int (1 : Int32)), .val (.int (Int32.ofNat (u1 + u2 + 1))), .val (.int cap), .val (.ref a2), .val (.ref a3), .val (.ref a4), .val (.long ((2 : Int64) * Int64.ofNat 0)), .second, .val (.long ((2 : Int64) * Int64.ofNat (0 + u1))), .second, .val (.long ((2 : Int64) * Int64.ofNat ((0 + u1 + 1) + u2))), .second] [(.long ((2 : Int64) * Int64.ofNat (0 + u1)))])
    refine own_go (X12.ldc2Long hx hown (mvT hZ (hw _ (List.mem_of_getElem? (i := 97) rfl))) (g := (mkF m 148 #[.val (.int cc), .val (.int n1), .val (.int n2), .val (.int ff), .val (.int (Int32.ofNat u1)), .val (.int (Int32.ofNat u2)), .val (.int (1 : Int32)), .val (.int (1 : Int32)), .val (.int (Int32.ofNat (u1 + u2 + 1))), .val (.int cap), .val (.ref a2), .val (.ref a3), .val (.ref a4), .val (.long ((2 : Int64) * Int64.ofNat 0)), .second, .val (.long ((2 : Int64) * Int64.ofNat (0 + u1))), .second, .val (.long ((2 : Int64) * Int64.ofNat ((0 + u1 + 1) + u2))), .second] [(.long ((2 : Int64) * Int64.ofNat (0 + u1)))])) rfl (hb hby at_148)) ?_
    show own_R p.tables e below _ T12 (mkF m 151 #[.val (.int cc), .val (.int n1), .val (.int n2), .val (.int ff), .val (.int (Int32.ofNat u1)), .val (.int (Int32.ofNat u2)), .val (.int (1 : Int32)), .val (.int (1 : Int32)), .val (.int (Int32.ofNat (u1 + u2 + 1))), .val (.int cap), .val (.ref a2), .val (.ref a3), .val (.ref a4), .val (.long ((2 : Int64) * Int64.ofNat 0)), .second, .val (.long ((2 : Int64) * Int64.ofNat (0 + u1))), .second, .val (.long ((2 : Int64) * Int64.ofNat ((0 + u1 + 1) + u2))), .second] [(.long (2 : Int64)), (.long ((2 : Int64) * Int64.ofNat (0 + u1)))])
    refine own_go (fun _ => XS.iload X12.here hx rfl (hb hby at_151) rfl ) ?_
    show own_R p.tables e below _ T12 (mkF m 153 #[.val (.int cc), .val (.int n1), .val (.int n2), .val (.int ff), .val (.int (Int32.ofNat u1)), .val (.int (Int32.ofNat u2)), .val (.int (1 : Int32)), .val (.int (1 : Int32)), .val (.int (Int32.ofNat (u1 + u2 + 1))), .val (.int cap), .val (.ref a2), .val (.ref a3), .val (.ref a4), .val (.long ((2 : Int64) * Int64.ofNat 0)), .second, .val (.long ((2 : Int64) * Int64.ofNat (0 + u1))), .second, .val (.long ((2 : Int64) * Int64.ofNat ((0 + u1 + 1) + u2))), .second] [(.int (Int32.ofNat u1)), (.long (2 : Int64)), (.long ((2 : Int64) * Int64.ofNat (0 + u1)))])
    refine own_go (fun _ => XS.i2l X12.here hx rfl (hb hby at_153) rfl) ?_
    show own_R p.tables e below _ T12 (mkF m 154 #[.val (.int cc), .val (.int n1), .val (.int n2), .val (.int ff), .val (.int (Int32.ofNat u1)), .val (.int (Int32.ofNat u2)), .val (.int (1 : Int32)), .val (.int (1 : Int32)), .val (.int (Int32.ofNat (u1 + u2 + 1))), .val (.int cap), .val (.ref a2), .val (.ref a3), .val (.ref a4), .val (.long ((2 : Int64) * Int64.ofNat 0)), .second, .val (.long ((2 : Int64) * Int64.ofNat (0 + u1))), .second, .val (.long ((2 : Int64) * Int64.ofNat ((0 + u1 + 1) + u2))), .second] [(.long ((Int32.ofNat u1).toInt64)), (.long (2 : Int64)), (.long ((2 : Int64) * Int64.ofNat (0 + u1)))])
    refine own_go (fun _ => XS.lmul X12.here hx rfl (hb hby at_154) rfl) ?_
    show own_R p.tables e below _ T12 (mkF m 155 #[.val (.int cc), .val (.int n1), .val (.int n2), .val (.int ff), .val (.int (Int32.ofNat u1)), .val (.int (Int32.ofNat u2)), .val (.int (1 : Int32)), .val (.int (1 : Int32)), .val (.int (Int32.ofNat (u1 + u2 + 1))), .val (.int cap), .val (.ref a2), .val (.ref a3), .val (.ref a4), .val (.long ((2 : Int64) * Int64.ofNat 0)), .second, .val (.long ((2 : Int64) * Int64.ofNat (0 + u1))), .second, .val (.long ((2 : Int64) * Int64.ofNat ((0 + u1 + 1) + u2))), .second] [(.long ((2 : Int64) * ((Int32.ofNat u1).toInt64))), (.long ((2 : Int64) * Int64.ofNat (0 + u1)))])
    refine own_go (fun _ => XS.lcmp X12.here hx rfl (hb hby at_155) rfl) ?_
    show own_R p.tables e below _ T12 (mkF m 156 #[.val (.int cc), .val (.int n1), .val (.int n2), .val (.int ff), .val (.int (Int32.ofNat u1)), .val (.int (Int32.ofNat u2)), .val (.int (1 : Int32)), .val (.int (1 : Int32)), .val (.int (Int32.ofNat (u1 + u2 + 1))), .val (.int cap), .val (.ref a2), .val (.ref a3), .val (.ref a4), .val (.long ((2 : Int64) * Int64.ofNat 0)), .second, .val (.long ((2 : Int64) * Int64.ofNat (0 + u1))), .second, .val (.long ((2 : Int64) * Int64.ofNat ((0 + u1 + 1) + u2))), .second] [(.int (lcmpW ((2 : Int64) * Int64.ofNat (0 + u1)) ((2 : Int64) * ((Int32.ofNat u1).toInt64))))])
    refine own_go (fun _ => XS.ifNo X12.here hx rfl (hb hby at_156) rfl ((if0 _ _).trans (teq (own_lc (by rw [own_i2l (by omega), Nat.zero_add]))).2)) ?_
    show own_R p.tables e below _ T12 (mkF m 159 #[.val (.int cc), .val (.int n1), .val (.int n2), .val (.int ff), .val (.int (Int32.ofNat u1)), .val (.int (Int32.ofNat u2)), .val (.int (1 : Int32)), .val (.int (1 : Int32)), .val (.int (Int32.ofNat (u1 + u2 + 1))), .val (.int cap), .val (.ref a2), .val (.ref a3), .val (.ref a4), .val (.long ((2 : Int64) * Int64.ofNat 0)), .second, .val (.long ((2 : Int64) * Int64.ofNat (0 + u1))), .second, .val (.long ((2 : Int64) * Int64.ofNat ((0 + u1 + 1) + u2))), .second] [])
    refine own_go (fun _ => XS.lload X12.here hx rfl (hb hby at_159) rfl ) ?_
    show own_R p.tables e below _ T12 (mkF m 161 #[.val (.int cc), .val (.int n1), .val (.int n2), .val (.int ff), .val (.int (Int32.ofNat u1)), .val (.int (Int32.ofNat u2)), .val (.int (1 : Int32)), .val (.int (1 : Int32)), .val (.int (Int32.ofNat (u1 + u2 + 1))), .val (.int cap), .val (.ref a2), .val (.ref a3), .val (.ref a4), .val (.long ((2 : Int64) * Int64.ofNat 0)), .second, .val (.long ((2 : Int64) * Int64.ofNat (0 + u1))), .second, .val (.long ((2 : Int64) * Int64.ofNat ((0 + u1 + 1) + u2))), .second] [(.long ((2 : Int64) * Int64.ofNat ((0 + u1 + 1) + u2)))])
    refine own_go (X12.ldc2Long hx hown (mvT hZ (hw _ (List.mem_of_getElem? (i := 97) rfl))) (g := (mkF m 161 #[.val (.int cc), .val (.int n1), .val (.int n2), .val (.int ff), .val (.int (Int32.ofNat u1)), .val (.int (Int32.ofNat u2)), .val (.int (1 : Int32)), .val (.int (1 : Int32)), .val (.int (Int32.ofNat (u1 + u2 + 1))), .val (.int cap), .val (.ref a2), .val (.ref a3), .val (.ref a4), .val (.long ((2 : Int64) * Int64.ofNat 0)), .second, .val (.long ((2 : Int64) * Int64.ofNat (0 + u1))), .second, .val (.long ((2 : Int64) * Int64.ofNat ((0 + u1 + 1) + u2))), .second] [(.long ((2 : Int64) * Int64.ofNat ((0 + u1 + 1) + u2)))])) rfl (hb hby at_161)) ?_
    show own_R p.tables e below _ T12 (mkF m 164 #[.val (.int cc), .val (.int n1), .val (.int n2), .val (.int ff), .val (.int (Int32.ofNat u1)), .val (.int (Int32.ofNat u2)), .val (.int (1 : Int32)), .val (.int (1 : Int32)), .val (.int (Int32.ofNat (u1 + u2 + 1))), .val (.int cap), .val (.ref a2), .val (.ref a3), .val (.ref a4), .val (.long ((2 : Int64) * Int64.ofNat 0)), .second, .val (.long ((2 : Int64) * Int64.ofNat (0 + u1))), .second, .val (.long ((2 : Int64) * Int64.ofNat ((0 + u1 + 1) + u2))), .second] [(.long (2 : Int64)), (.long ((2 : Int64) * Int64.ofNat ((0 + u1 + 1) + u2)))])
    refine own_go (fun _ => XS.iload X12.here hx rfl (hb hby at_164) rfl ) ?_
    show own_R p.tables e below _ T12 (mkF m 166 #[.val (.int cc), .val (.int n1), .val (.int n2), .val (.int ff), .val (.int (Int32.ofNat u1)), .val (.int (Int32.ofNat u2)), .val (.int (1 : Int32)), .val (.int (1 : Int32)), .val (.int (Int32.ofNat (u1 + u2 + 1))), .val (.int cap), .val (.ref a2), .val (.ref a3), .val (.ref a4), .val (.long ((2 : Int64) * Int64.ofNat 0)), .second, .val (.long ((2 : Int64) * Int64.ofNat (0 + u1))), .second, .val (.long ((2 : Int64) * Int64.ofNat ((0 + u1 + 1) + u2))), .second] [(.int (Int32.ofNat (u1 + u2 + 1))), (.long (2 : Int64)), (.long ((2 : Int64) * Int64.ofNat ((0 + u1 + 1) + u2)))])
    refine own_go (fun _ => XS.i2l X12.here hx rfl (hb hby at_166) rfl) ?_
    show own_R p.tables e below _ T12 (mkF m 167 #[.val (.int cc), .val (.int n1), .val (.int n2), .val (.int ff), .val (.int (Int32.ofNat u1)), .val (.int (Int32.ofNat u2)), .val (.int (1 : Int32)), .val (.int (1 : Int32)), .val (.int (Int32.ofNat (u1 + u2 + 1))), .val (.int cap), .val (.ref a2), .val (.ref a3), .val (.ref a4), .val (.long ((2 : Int64) * Int64.ofNat 0)), .second, .val (.long ((2 : Int64) * Int64.ofNat (0 + u1))), .second, .val (.long ((2 : Int64) * Int64.ofNat ((0 + u1 + 1) + u2))), .second] [(.long ((Int32.ofNat (u1 + u2 + 1)).toInt64)), (.long (2 : Int64)), (.long ((2 : Int64) * Int64.ofNat ((0 + u1 + 1) + u2)))])
    refine own_go (fun _ => XS.lmul X12.here hx rfl (hb hby at_167) rfl) ?_
    show own_R p.tables e below _ T12 (mkF m 168 #[.val (.int cc), .val (.int n1), .val (.int n2), .val (.int ff), .val (.int (Int32.ofNat u1)), .val (.int (Int32.ofNat u2)), .val (.int (1 : Int32)), .val (.int (1 : Int32)), .val (.int (Int32.ofNat (u1 + u2 + 1))), .val (.int cap), .val (.ref a2), .val (.ref a3), .val (.ref a4), .val (.long ((2 : Int64) * Int64.ofNat 0)), .second, .val (.long ((2 : Int64) * Int64.ofNat (0 + u1))), .second, .val (.long ((2 : Int64) * Int64.ofNat ((0 + u1 + 1) + u2))), .second] [(.long ((2 : Int64) * ((Int32.ofNat (u1 + u2 + 1)).toInt64))), (.long ((2 : Int64) * Int64.ofNat ((0 + u1 + 1) + u2)))])
    refine own_go (fun _ => XS.lcmp X12.here hx rfl (hb hby at_168) rfl) ?_
    show own_R p.tables e below _ T12 (mkF m 169 #[.val (.int cc), .val (.int n1), .val (.int n2), .val (.int ff), .val (.int (Int32.ofNat u1)), .val (.int (Int32.ofNat u2)), .val (.int (1 : Int32)), .val (.int (1 : Int32)), .val (.int (Int32.ofNat (u1 + u2 + 1))), .val (.int cap), .val (.ref a2), .val (.ref a3), .val (.ref a4), .val (.long ((2 : Int64) * Int64.ofNat 0)), .second, .val (.long ((2 : Int64) * Int64.ofNat (0 + u1))), .second, .val (.long ((2 : Int64) * Int64.ofNat ((0 + u1 + 1) + u2))), .second] [(.int (lcmpW ((2 : Int64) * Int64.ofNat ((0 + u1 + 1) + u2)) ((2 : Int64) * ((Int32.ofNat (u1 + u2 + 1)).toInt64))))])
    refine own_go (fun _ => XS.ifNo X12.here hx rfl (hb hby at_169) rfl ((if0 _ _).trans (teq (own_lc (by rw [own_i2l (by omega)]; congr 2; omega))).2)) ?_
    show own_R p.tables e below _ T12 (mkF m 172 #[.val (.int cc), .val (.int n1), .val (.int n2), .val (.int ff), .val (.int (Int32.ofNat u1)), .val (.int (Int32.ofNat u2)), .val (.int (1 : Int32)), .val (.int (1 : Int32)), .val (.int (Int32.ofNat (u1 + u2 + 1))), .val (.int cap), .val (.ref a2), .val (.ref a3), .val (.ref a4), .val (.long ((2 : Int64) * Int64.ofNat 0)), .second, .val (.long ((2 : Int64) * Int64.ofNat (0 + u1))), .second, .val (.long ((2 : Int64) * Int64.ofNat ((0 + u1 + 1) + u2))), .second] [])
    refine own_go (fun _ => XS.iconst X12.here hx rfl (hb hby at_172)) ?_
    show own_R p.tables e below _ T12 (mkF m 173 #[.val (.int cc), .val (.int n1), .val (.int n2), .val (.int ff), .val (.int (Int32.ofNat u1)), .val (.int (Int32.ofNat u2)), .val (.int (1 : Int32)), .val (.int (1 : Int32)), .val (.int (Int32.ofNat (u1 + u2 + 1))), .val (.int cap), .val (.ref a2), .val (.ref a3), .val (.ref a4), .val (.long ((2 : Int64) * Int64.ofNat 0)), .second, .val (.long ((2 : Int64) * Int64.ofNat (0 + u1))), .second, .val (.long ((2 : Int64) * Int64.ofNat ((0 + u1 + 1) + u2))), .second] [(.int (1 : Int32))])
    refine own_go (fun _ => XS.goto X12.here hx rfl (pc0 := 173) (pc' := 177) rfl (hb hby at_173) (by decide) (by decide)) ?_
    show own_R p.tables e below _ T12 (mkF m 177 #[.val (.int cc), .val (.int n1), .val (.int n2), .val (.int ff), .val (.int (Int32.ofNat u1)), .val (.int (Int32.ofNat u2)), .val (.int (1 : Int32)), .val (.int (1 : Int32)), .val (.int (Int32.ofNat (u1 + u2 + 1))), .val (.int cap), .val (.ref a2), .val (.ref a3), .val (.ref a4), .val (.long ((2 : Int64) * Int64.ofNat 0)), .second, .val (.long ((2 : Int64) * Int64.ofNat (0 + u1))), .second, .val (.long ((2 : Int64) * Int64.ofNat ((0 + u1 + 1) + u2))), .second] [(.int (1 : Int32))])
    exact own_endW X12 S5 z12 (some (.int (1 : Int32))) (fun h => by rw [hret] at h; cases h) hlk (fun fs hr => retN X12 hx (t := .boolean) hret (by simp) (hb hby at_177) hr) ⟨rfl, N12⟩ (by decide) (by decide)
set_option maxRecDepth 65536 in
set_option maxHeartbeats 40000000 in
theorem comes_1 {Post : Tables → Env → Array Value → State → Outcome → State → Prop} (hpost : ∀ tb e args s v u, (limb_1_1.after args s (.returned v) u = true ∧ limb_1_2.after args s (.returned v) u = true ∧ True) → FramedW s (.returned v) u (Jvm.fieldLocs frame_1_writes args s ++ Jvm.arrayLocs frame_1_arrays args s ++ Jvm.staticLocs frame_1_statics s) 24 1280 → Post tb e args s (.returned v) u) :
    ArmFor flags0 classFile x code maxLocals ret World_1 tables_1 room_1 Calls_1 rest_1 Pre_1 Post := by
  intro l hfl _ _ p e ha hc hk s m args below hf hA hF happ hP
  obtain ⟨hcalls, hrest, hpre⟩ := hP
  obtain ⟨-, -, -, hnamed, -, -, -, hat⟩ := (Spec.applies_iff hf).mp happ
  obtain ⟨hg, hn⟩ := and_e (Cond.before_iff.mp (show (Jvm.Cond.and given_1 narrow_1).before args s = true from hpre))
  obtain ⟨gc, q0⟩ := and_e hg
  obtain ⟨g0, q1⟩ := and_e q0
  obtain ⟨g1, q2⟩ := and_e q1
  obtain ⟨g2, q3⟩ := and_e q2
  have g3 := q3
  obtain ⟨w0, w1, w2, w3, rfl⟩ : ∃ w0 w1 w2 w3 : Value, args = #[w0, w1, w2, w3] := by
    have hs : args.size = 4 := by simpa [Cond.value, given_1] using gc
    obtain ⟨L⟩ := args
    match L, hs with
    | [w0, w1, w2, w3], _ => exact ⟨w0, w1, w2, w3, rfl⟩
  have hw := fun d (hd : d ∈ tables_1) => atoms_spec (ws := Jvm.Cond.code x code maxLocals ret :: tables_1) hat d (List.mem_cons_of_mem _ hd)
  have hfit : Fit s := fun {y c} hc i hi => by
    obtain ⟨ha, rfl⟩ := Array.getElem?_eq_some_iff.mp hc
    have q := List.all_eq_true.mp ((Array.all_eq_true_iff_forall_mem.mp hF) _ (Array.getElem_mem ha)) i (List.mem_range.mpr hi)
    simpa [Array.getElem?_eq_getElem hi] using q
  obtain ⟨i0, ei0⟩ := is_v g0
  obtain rfl : w0 = (.int i0) := Option.some.inj ei0
  obtain ⟨i1, ei1⟩ := is_v g1
  obtain rfl : w1 = (.int i1) := Option.some.inj ei1
  obtain ⟨i2, ei2⟩ := is_v g2
  obtain rfl : w2 = (.int i2) := Option.some.inj ei2
  obtain ⟨i3, ei3⟩ := is_v g3
  obtain rfl : w3 = (.int i3) := Option.some.inj ei3
  obtain ⟨n, o, h1, h2, h3, _, L, rfl, ⟨rfl, N⟩, hq⟩ := rm0 l s _ hw tables_1 s.heap s.heap.size i0 i1 i2 i3 (Nat.le_refl _) p e ha hc hk s m _ below hf ((Spec.applies_iff_loose hf).mp happ).1 ⟨rfl, State.Warmed39.refl s, rfl⟩ trivial
  refine ⟨n, _, h1, h2, h3, hpost _ _ _ _ _ _ ⟨Cond.after_iff.mpr rfl, Cond.after_iff.mpr (eq_i res_at (Term.int_eval (1)) rfl), trivial⟩ ⟨hq.1, hq.2.1, hq.2.2.1, (hq.2.2.2.sift fun y hy => Or.inr (N y hy)).mono (by decide) (by decide)⟩⟩
theorem main_1_1 : Claimed_1_1 := comes_1 fun _ _ _ _ _ _ h hF => ⟨h.1, hF⟩
theorem main_1_2 : Claimed_1_2 := comes_1 fun _ _ _ _ _ _ h hF => ⟨h.2.1, hF⟩

end Jvm.Pilot.@@N@@
namespace Jvm.Pilot.@@N@@
open Jvm Jvm.ClassFile Sem Op Lib Jvm.Free Jvm.Stand Jvm.Pilot.@@N@@.Jvm.D
/-! MADE BY PROGRAM (witnessworld.py) out of the Statement's table words and the real class files: 23 classes; the members and pool entries that the words name. The judged class is class 1, her method 1. -/
namespace start1
open Jvm.ClassFile
def u (s : String) : CpInfo := .utf8 (stringToUtf16 s)
/-- a pool by its gaps: so many unusable entries, then the entry; so many at the end -/
def gap : Nat → List CpInfo → List CpInfo
  | 0, r => r
  | n + 1, r => .unusable :: gap n r
def poolList (es : List (Nat × CpInfo)) (last : Nat) : List CpInfo := es.foldr (fun e r => gap e.1 (e.2 :: r)) (gap last [])
def pool (es : List (Nat × CpInfo)) (last : Nat) : Array CpInfo := ⟨poolList es last⟩
def fileOf (pool : Array CpInfo) (this : Nat) (attrs : Array Attribute := #[]) (ms : Array MethodInfo := #[]) (fl : Nat := 33) (sup : Nat := 0) (ifs : Array Nat := #[]) (fds : Array FieldInfo := #[]) : ClassFile where
  minorVersion := 0
  majorVersion := 65
  constantPool := pool
  accessFlags := fl
  thisClass := this
  superClass := sup
  interfaces := ifs
  fields := fds
  methods := ms
  attributes := attrs
def plain (name : String) (sup : Option ClassId) : Class where
  name := name
  kind := .ordinary
  loader := none
  accessFlags := 33
  super := sup
  interfaces := #[]
  cf := none
  fields := #[]
  methods := #[]
  instanceTypes := #[]
  staticTypes := #[]
  resolved := #[]
  callSites := []
  init := .initialized
  statics := none
  mirror := none

def pool0 : Array CpInfo := pool [(5, u "<init>"), (0, u "()V"), (1, .class_ 10), (1, u "java/lang/Object")] 113

def k0c0 : Code := { maxStack := 0, maxLocals := 1, code := object_method_1_code, exceptionTable := #[], attributes := #[] }
def k0m0 : Method := { name := "<init>", desc := "()V", sig := { parameters := [], returnType := none }, accessFlags := 1, code := some k0c0 }
/-- java/lang/Object -/
def k0 : Class := { plain "java/lang/Object" none with
  accessFlags := 33
  interfaces := #[]
  cf := some (fileOf pool0 8 #[] #[{ accessFlags := 1, nameIndex := 5, descriptorIndex := 6, attributes := #[] }] 33 0 #[] #[])
  fields := #[]
  methods := #[k0m0]
  instanceTypes := #[]
  staticTypes := #[]
  resolved := Array.replicate 124 none
  statics := none }

def pool1 : Array CpInfo := pool [(2, .class_ 4), (1, u "java/lang/Object"), (0, u "<init>"), (0, u "()V"), (0, .integer 2147483647), (0, .methodref 9 10), (0, .class_ 11), (0, .nameAndType 12 13), (0, u "java/lang/Math"), (0, u "max"), (0, u "(II)I"), (0, .class_ 15), (0, u "com/example/keepd/keepd/http/Spool"), (0, .string 17), (0, u "p"), (0, .methodref 14 19), (0, .nameAndType 5 20), (0, u "(ILjava/lang/String;)V"), (0, .methodref 14 22), (0, .nameAndType 23 24), (0, u "heldBytes"), (0, u "()J"), (0, .methodref 14 26), (0, .nameAndType 27 28), (0, u "write"), (0, u "([BII)V"), (0, .methodref 14 30), (0, .nameAndType 27 31), (0, u "(I)V"), (0, .long 2), (1, .class_ 35), (0, u "com/example/keepd/keepd/http/SpoolHeldBytesPinLaw"), (2, u "law"), (0, u "(IIII)Z")] 8

def k1m0 : Method := { name := "<init>", desc := "()V", sig := { parameters := [], returnType := none }, accessFlags := 1, code := none }
def k1c1 : Code := { maxStack := 6, maxLocals := 19, code := code, exceptionTable := #[], attributes := #[] }
def k1m1 : Method := { name := "law", desc := "(IIII)Z", sig := { parameters := [.int, .int, .int, .int], returnType := some .boolean }, accessFlags := 9, code := some k1c1 }
/-- com/example/keepd/keepd/http/SpoolHeldBytesPinLaw -/
def k1 : Class := { plain "com/example/keepd/keepd/http/SpoolHeldBytesPinLaw" (some 0) with
  accessFlags := 49
  interfaces := #[]
  cf := some (fileOf pool1 34 #[] #[{ accessFlags := 1, nameIndex := 5, descriptorIndex := 6, attributes := #[] }, { accessFlags := 9, nameIndex := 38, descriptorIndex := 39, attributes := #[] }] 49 2 #[] #[])
  fields := #[]
  methods := #[k1m0, k1m1]
  instanceTypes := #[]
  staticTypes := #[]
  resolved := Array.replicate 48 none
  statics := none }

def pool2 : Array CpInfo := pool [(1, .class_ 2), (0, u "java/lang/Math"), (1, .class_ 6), (1, u "java/lang/Object"), (0, u "<init>"), (0, u "()V"), (89, .class_ 100), (1, u "java/lang/Math$RandomNumberGeneratorHolder"), (71, u "negativeZeroFloatBits"), (0, u "J"), (2, u "negativeZeroDoubleBits"), (21, u "max"), (46, u "$assertionsDisabled"), (0, u "Z"), (88, u "(II)I"), (2, u "twoToTheDoubleScaleDown"), (0, u "D"), (4, u "twoToTheDoubleScaleUp"), (9, u "E"), (3, u "PI"), (2, u "TAU"), (2, u "DEGREES_TO_RADIANS"), (0, u "RADIANS_TO_DEGREES")] 94

def k2m0 : Method := { name := "<init>", desc := "()V", sig := { parameters := [], returnType := none }, accessFlags := 2, code := none }
def k2c1 : Code := { maxStack := 2, maxLocals := 2, code := jdk_29_method_65_code, exceptionTable := #[], attributes := #[] }
def k2m1 : Method := { name := "max", desc := "(II)I", sig := { parameters := [.int, .int], returnType := some .int }, accessFlags := 9, code := some k2c1 }
/-- java/lang/Math -/
def k2 : Class := { plain "java/lang/Math" (some 0) with
  accessFlags := 49
  interfaces := #[]
  cf := some (fileOf pool2 1 #[.nestMembers #[98]] #[{ accessFlags := 2, nameIndex := 7, descriptorIndex := 8, attributes := #[] }, { accessFlags := 9, nameIndex := 198, descriptorIndex := 335, attributes := #[] }] 49 4 #[] #[{ accessFlags := 25, nameIndex := 354, descriptorIndex := 339, attributes := #[] }, { accessFlags := 25, nameIndex := 358, descriptorIndex := 339, attributes := #[] }, { accessFlags := 25, nameIndex := 361, descriptorIndex := 339, attributes := #[] }, { accessFlags := 26, nameIndex := 364, descriptorIndex := 339, attributes := #[] }, { accessFlags := 26, nameIndex := 365, descriptorIndex := 339, attributes := #[] }, { accessFlags := 26, nameIndex := 172, descriptorIndex := 173, attributes := #[] }, { accessFlags := 26, nameIndex := 176, descriptorIndex := 173, attributes := #[] }, { accessFlags := 8, nameIndex := 344, descriptorIndex := 339, attributes := #[] }, { accessFlags := 8, nameIndex := 338, descriptorIndex := 339, attributes := #[] }, { accessFlags := 4120, nameIndex := 245, descriptorIndex := 246, attributes := #[] }])
  fields := #[{ name := "E", type := .double, accessFlags := 25, slot := 0, constantValue := 0 }, { name := "PI", type := .double, accessFlags := 25, slot := 1, constantValue := 0 }, { name := "TAU", type := .double, accessFlags := 25, slot := 2, constantValue := 0 }, { name := "DEGREES_TO_RADIANS", type := .double, accessFlags := 26, slot := 3, constantValue := 0 }, { name := "RADIANS_TO_DEGREES", type := .double, accessFlags := 26, slot := 4, constantValue := 0 }, { name := "negativeZeroFloatBits", type := .long, accessFlags := 26, slot := 5, constantValue := 0 }, { name := "negativeZeroDoubleBits", type := .long, accessFlags := 26, slot := 6, constantValue := 0 }, { name := "twoToTheDoubleScaleUp", type := .double, accessFlags := 8, slot := 7, constantValue := 0 }, { name := "twoToTheDoubleScaleDown", type := .double, accessFlags := 8, slot := 8, constantValue := 0 }, { name := "$assertionsDisabled", type := .boolean, accessFlags := 4120, slot := 9, constantValue := 0 }]
  methods := #[k2m0, k2m1]
  instanceTypes := #[]
  staticTypes := #[.double, .double, .double, .double, .double, .long, .long, .double, .double, .boolean]
  resolved := Array.replicate 460 none
  statics := none }

def pool3 : Array CpInfo := pool [(1, .class_ 2), (0, u "java/lang/AutoCloseable"), (0, .class_ 4), (0, u "java/lang/Object")] 7

/-- java/lang/AutoCloseable -/
def k3 : Class := { plain "java/lang/AutoCloseable" (some 0) with
  accessFlags := 1537
  interfaces := #[]
  cf := some (fileOf pool3 1 #[] #[] 1537 3 #[] #[])
  fields := #[]
  methods := #[]
  instanceTypes := #[]
  staticTypes := #[]
  resolved := Array.replicate 12 none
  statics := none }

def pool4 : Array CpInfo := pool [(1, .class_ 2), (0, u "java/io/Closeable"), (0, .class_ 4), (0, u "java/lang/Object"), (0, .class_ 6), (0, u "java/lang/AutoCloseable")] 7

/-- java/io/Closeable -/
def k4 : Class := { plain "java/io/Closeable" (some 0) with
  accessFlags := 1537
  interfaces := #[3]
  cf := some (fileOf pool4 1 #[] #[] 1537 3 #[5] #[])
  fields := #[]
  methods := #[]
  instanceTypes := #[]
  staticTypes := #[]
  resolved := Array.replicate 14 none
  statics := none }

def pool5 : Array CpInfo := pool [(1, .class_ 2), (0, u "java/io/Flushable"), (0, .class_ 4), (0, u "java/lang/Object")] 7

/-- java/io/Flushable -/
def k5 : Class := { plain "java/io/Flushable" (some 0) with
  accessFlags := 1537
  interfaces := #[]
  cf := some (fileOf pool5 1 #[] #[] 1537 3 #[] #[])
  fields := #[]
  methods := #[]
  instanceTypes := #[]
  staticTypes := #[]
  resolved := Array.replicate 12 none
  statics := none }

def pool6 : Array CpInfo := pool [(1, .methodref 2 3), (0, .class_ 4), (0, .nameAndType 5 6), (0, u "java/lang/Object"), (0, u "<init>"), (0, u "()V"), (0, .class_ 8), (0, u "java/io/OutputStream$1"), (2, .class_ 13), (1, u "java/io/OutputStream"), (0, u "write"), (0, u "([BII)V"), (9, .class_ 26), (0, u "java/io/Closeable"), (0, .class_ 28), (0, u "java/io/Flushable")] 24

def k6c0 : Code := { maxStack := 1, maxLocals := 1, code := jdk_2038_method_1_code, exceptionTable := #[], attributes := #[] }
def k6m0 : Method := { name := "<init>", desc := "()V", sig := { parameters := [], returnType := none }, accessFlags := 1, code := some k6c0 }
def k6c1 : Code := { maxStack := 4, maxLocals := 5, code := ⟨#[0x1c, 0x1d, 0x2b, 0xbe, 0xb8, 0x00, 0x10, 0x57, 0x03, 0x36, 0x04, 0x15, 0x04, 0x1d, 0xa2, 0x00, 0x13, 0x2a, 0x2b, 0x1c, 0x15, 0x04, 0x60, 0x33, 0xb6, 0x00, 0x16, 0x84, 0x04, 0x01, 0xa7, 0xff, 0xed, 0xb1]⟩, exceptionTable := #[], attributes := #[] }
def k6m1 : Method := { name := "write", desc := "([BII)V", sig := { parameters := [(.array .byte), .int, .int], returnType := none }, accessFlags := 1, code := some k6c1 }
/-- java/io/OutputStream -/
def k6 : Class := { plain "java/io/OutputStream" (some 0) with
  accessFlags := 1057
  interfaces := #[4, 5]
  cf := some (fileOf pool6 11 #[.nestMembers #[7]] #[{ accessFlags := 1, nameIndex := 5, descriptorIndex := 6, attributes := #[] }, { accessFlags := 1, nameIndex := 14, descriptorIndex := 15, attributes := #[] }] 1057 2 #[25, 27] #[])
  fields := #[]
  methods := #[k6m0, k6m1]
  instanceTypes := #[]
  staticTypes := #[]
  resolved := Array.replicate 53 none
  statics := none }

def pool7 : Array CpInfo := pool [(1, .methodref 2 3), (0, .class_ 4), (0, .nameAndType 5 6), (0, u "java/io/OutputStream"), (0, u "<init>"), (0, u "()V"), (0, .class_ 8), (0, u "java/io/ByteArrayOutputStream"), (0, .methodref 7 3), (0, .fieldref 11 12), (0, .class_ 13), (0, .nameAndType 14 15), (0, u "com/example/keepd/keepd/http/Spool"), (0, u "memory"), (0, u "Ljava/io/ByteArrayOutputStream;"), (0, .fieldref 11 17), (0, .nameAndType 18 19), (0, u "inMemoryBytes"), (0, u "I"), (0, .fieldref 11 21), (0, .nameAndType 22 23), (0, u "filePrefix"), (0, u "Ljava/lang/String;"), (0, .methodref 11 25), (0, .nameAndType 26 27), (0, u "write"), (0, u "([BII)V"), (0, .fieldref 11 29), (0, .nameAndType 30 31), (0, u "file"), (0, u "Ljava/io/OutputStream;"), (0, .methodref 7 33), (0, .nameAndType 34 35), (0, u "size"), (0, u "()I"), (10, .fieldref 11 47), (0, .nameAndType 48 49), (0, u "path"), (0, u "Ljava/nio/file/Path;"), (2, .class_ 53), (0, u "com/example/keepd/keepd/http/Spool$InPieces"), (13, .methodref 7 25), (0, .methodref 2 25), (0, .fieldref 11 70), (0, .nameAndType 34 71), (0, u "J"), (0, .long 2), (25, u "FILE_WRITE_BYTES"), (2, u "(ILjava/lang/String;)V"), (2, u "(I)V"), (4, u "()J"), (0, u "heldBytes")] 13

def k7c0 : Code := { maxStack := 3, maxLocals := 3, code := prog_23_method_1_code, exceptionTable := #[], attributes := #[] }
def k7m0 : Method := { name := "<init>", desc := "(ILjava/lang/String;)V", sig := { parameters := [.int, (.object "java/lang/String")], returnType := none }, accessFlags := 0, code := some k7c0 }
def k7c1 : Code := { maxStack := 5, maxLocals := 2, code := prog_23_method_2_code, exceptionTable := #[], attributes := #[] }
def k7m1 : Method := { name := "write", desc := "(I)V", sig := { parameters := [.int], returnType := none }, accessFlags := 1, code := some k7c1 }
def k7c2 : Code := { maxStack := 7, maxLocals := 4, code := prog_23_method_3_code, exceptionTable := #[], attributes := #[] }
def k7m2 : Method := { name := "write", desc := "([BII)V", sig := { parameters := [(.array .byte), .int, .int], returnType := none }, accessFlags := 1, code := some k7c2 }
def k7c3 : Code := { maxStack := 4, maxLocals := 1, code := prog_23_method_5_code, exceptionTable := #[], attributes := #[] }
def k7m3 : Method := { name := "heldBytes", desc := "()J", sig := { parameters := [], returnType := some .long }, accessFlags := 0, code := some k7c3 }
/-- com/example/keepd/keepd/http/Spool -/
def k7 : Class := { plain "com/example/keepd/keepd/http/Spool" (some 6) with
  accessFlags := 48
  interfaces := #[]
  cf := some (fileOf pool7 11 #[.nestMembers #[52]] #[{ accessFlags := 0, nameIndex := 5, descriptorIndex := 101, attributes := #[] }, { accessFlags := 1, nameIndex := 26, descriptorIndex := 104, attributes := #[] }, { accessFlags := 1, nameIndex := 26, descriptorIndex := 27, attributes := #[] }, { accessFlags := 0, nameIndex := 110, descriptorIndex := 109, attributes := #[] }] 48 2 #[] #[{ accessFlags := 26, nameIndex := 98, descriptorIndex := 19, attributes := #[] }, { accessFlags := 18, nameIndex := 18, descriptorIndex := 19, attributes := #[] }, { accessFlags := 18, nameIndex := 22, descriptorIndex := 23, attributes := #[] }, { accessFlags := 2, nameIndex := 14, descriptorIndex := 15, attributes := #[] }, { accessFlags := 2, nameIndex := 48, descriptorIndex := 49, attributes := #[] }, { accessFlags := 2, nameIndex := 30, descriptorIndex := 31, attributes := #[] }, { accessFlags := 2, nameIndex := 34, descriptorIndex := 71, attributes := #[] }])
  fields := #[{ name := "FILE_WRITE_BYTES", type := .int, accessFlags := 26, slot := 0, constantValue := 0 }, { name := "inMemoryBytes", type := .int, accessFlags := 18, slot := 0, constantValue := 0 }, { name := "filePrefix", type := (.object "java/lang/String"), accessFlags := 18, slot := 1, constantValue := 0 }, { name := "memory", type := (.object "java/io/ByteArrayOutputStream"), accessFlags := 2, slot := 2, constantValue := 0 }, { name := "path", type := (.object "java/nio/file/Path"), accessFlags := 2, slot := 3, constantValue := 0 }, { name := "file", type := (.object "java/io/OutputStream"), accessFlags := 2, slot := 4, constantValue := 0 }, { name := "size", type := .long, accessFlags := 2, slot := 5, constantValue := 0 }]
  methods := #[k7m0, k7m1, k7m2, k7m3]
  instanceTypes := #[.int, (.object "java/lang/String"), (.object "java/io/ByteArrayOutputStream"), (.object "java/nio/file/Path"), (.object "java/io/OutputStream"), .long]
  staticTypes := #[.int]
  resolved := Array.replicate 124 none
  statics := none }

def pool8 : Array CpInfo := pool [(1, .class_ 2), (0, u "java/io/Serializable"), (0, .class_ 4), (0, u "java/lang/Object")] 2

/-- java/io/Serializable -/
def k8 : Class := { plain "java/io/Serializable" (some 0) with
  accessFlags := 1537
  interfaces := #[]
  cf := some (fileOf pool8 1 #[] #[] 1537 3 #[] #[])
  fields := #[]
  methods := #[]
  instanceTypes := #[]
  staticTypes := #[]
  resolved := Array.replicate 7 none
  statics := none }

def pool9 : Array CpInfo := pool [(1, .class_ 2), (0, u "java/lang/Comparable"), (0, .class_ 4), (0, u "java/lang/Object")] 7

/-- java/lang/Comparable -/
def k9 : Class := { plain "java/lang/Comparable" (some 0) with
  accessFlags := 1537
  interfaces := #[]
  cf := some (fileOf pool9 1 #[] #[] 1537 3 #[] #[])
  fields := #[]
  methods := #[]
  instanceTypes := #[]
  staticTypes := #[]
  resolved := Array.replicate 12 none
  statics := none }

def pool10 : Array CpInfo := pool [(2, .class_ 4), (1, u "java/lang/CharSequence"), (42, .class_ 48), (0, u "java/lang/CharSequence$1CodePointIterator"), (10, .class_ 60), (0, u "java/lang/CharSequence$1CharIterator"), (5, .class_ 67), (0, u "java/lang/Object")] 63

/-- java/lang/CharSequence -/
def k10 : Class := { plain "java/lang/CharSequence" (some 0) with
  accessFlags := 1537
  interfaces := #[]
  cf := some (fileOf pool10 2 #[.nestMembers #[47, 59]] #[] 1537 66 #[] #[])
  fields := #[]
  methods := #[]
  instanceTypes := #[]
  staticTypes := #[]
  resolved := Array.replicate 131 none
  statics := none }

def pool11 : Array CpInfo := pool [(1, .class_ 2), (0, u "java/lang/constant/Constable"), (0, .class_ 4), (0, u "java/lang/Object")] 6

/-- java/lang/constant/Constable -/
def k11 : Class := { plain "java/lang/constant/Constable" (some 0) with
  accessFlags := 1537
  interfaces := #[]
  cf := some (fileOf pool11 1 #[] #[] 1537 3 #[] #[])
  fields := #[]
  methods := #[]
  instanceTypes := #[]
  staticTypes := #[]
  resolved := Array.replicate 11 none
  statics := none }

def pool12 : Array CpInfo := pool [(1, .class_ 2), (0, u "java/lang/constant/ConstantDesc"), (0, .class_ 4), (0, u "java/lang/Object")] 32

/-- java/lang/constant/ConstantDesc -/
def k12 : Class := { plain "java/lang/constant/ConstantDesc" (some 0) with
  accessFlags := 1537
  interfaces := #[]
  cf := some (fileOf pool12 1 #[] #[] 1537 3 #[] #[])
  fields := #[]
  methods := #[]
  instanceTypes := #[]
  staticTypes := #[]
  resolved := Array.replicate 37 none
  statics := none }

def pool13 : Array CpInfo := pool [(2, .class_ 4), (1, u "java/lang/Object"), (0, u "<init>"), (0, u "()V"), (3, .class_ 12), (1, u "java/lang/String"), (0, u "value"), (0, u "[B"), (2, u "coder"), (0, u "B"), (2, u "hash"), (0, u "I"), (2, u "hashIsZero"), (0, u "Z"), (13, u "COMPACT_STRINGS"), (534, .class_ 576), (0, u "java/lang/CharSequence"), (22, u "CASE_INSENSITIVE_ORDER"), (0, u "Ljava/util/Comparator;"), (500, u "serialPersistentFields"), (0, u "[Ljava/io/ObjectStreamField;"), (0, .class_ 1104), (0, u "java/lang/String$CaseInsensitiveComparator"), (1, .class_ 1107), (0, u "java/io/Serializable"), (0, .class_ 1109), (0, u "java/lang/Comparable"), (0, .class_ 1111), (0, u "java/lang/constant/Constable"), (0, .class_ 1113), (0, u "java/lang/constant/ConstantDesc"), (2, u "serialVersionUID"), (0, u "J"), (3, u "REPL"), (0, u "C"), (2, u "LATIN1"), (1, u "UTF16")] 323

def k13m0 : Method := { name := "<init>", desc := "()V", sig := { parameters := [], returnType := none }, accessFlags := 1, code := none }
/-- java/lang/String -/
def k13 : Class := { plain "java/lang/String" (some 0) with
  accessFlags := 49
  interfaces := #[8, 9, 10, 11, 12]
  cf := some (fileOf pool13 10 #[.nestMembers #[1103]] #[{ accessFlags := 1, nameIndex := 5, descriptorIndex := 6, attributes := #[] }] 49 2 #[1106, 1108, 575, 1110, 1112] #[{ accessFlags := 18, nameIndex := 13, descriptorIndex := 14, attributes := #[] }, { accessFlags := 18, nameIndex := 17, descriptorIndex := 18, attributes := #[] }, { accessFlags := 2, nameIndex := 21, descriptorIndex := 22, attributes := #[] }, { accessFlags := 2, nameIndex := 25, descriptorIndex := 26, attributes := #[] }, { accessFlags := 26, nameIndex := 1116, descriptorIndex := 1117, attributes := #[] }, { accessFlags := 24, nameIndex := 40, descriptorIndex := 26, attributes := #[] }, { accessFlags := 26, nameIndex := 1101, descriptorIndex := 1102, attributes := #[] }, { accessFlags := 26, nameIndex := 1121, descriptorIndex := 1122, attributes := #[] }, { accessFlags := 25, nameIndex := 599, descriptorIndex := 600, attributes := #[] }, { accessFlags := 24, nameIndex := 1125, descriptorIndex := 18, attributes := #[] }, { accessFlags := 24, nameIndex := 1127, descriptorIndex := 18, attributes := #[] }])
  fields := #[{ name := "value", type := (.array .byte), accessFlags := 18, slot := 0, constantValue := 0 }, { name := "coder", type := .byte, accessFlags := 18, slot := 1, constantValue := 0 }, { name := "hash", type := .int, accessFlags := 2, slot := 2, constantValue := 0 }, { name := "hashIsZero", type := .boolean, accessFlags := 2, slot := 3, constantValue := 0 }, { name := "serialVersionUID", type := .long, accessFlags := 26, slot := 0, constantValue := 0 }, { name := "COMPACT_STRINGS", type := .boolean, accessFlags := 24, slot := 1, constantValue := 0 }, { name := "serialPersistentFields", type := (.array (.object "java/io/ObjectStreamField")), accessFlags := 26, slot := 2, constantValue := 0 }, { name := "REPL", type := .char, accessFlags := 26, slot := 3, constantValue := 0 }, { name := "CASE_INSENSITIVE_ORDER", type := (.object "java/util/Comparator"), accessFlags := 25, slot := 4, constantValue := 0 }, { name := "LATIN1", type := .byte, accessFlags := 24, slot := 5, constantValue := 0 }, { name := "UTF16", type := .byte, accessFlags := 24, slot := 6, constantValue := 0 }]
  methods := #[k13m0]
  instanceTypes := #[(.array .byte), .byte, .int, .boolean]
  staticTypes := #[.long, .boolean, (.array (.object "java/io/ObjectStreamField")), .char, (.object "java/util/Comparator"), .byte, .byte]
  resolved := Array.replicate 1451 none
  statics := none }

def pool14 : Array CpInfo := pool [(1, .methodref 2 3), (0, .class_ 4), (0, .nameAndType 5 6), (0, u "java/io/ByteArrayOutputStream"), (0, u "<init>"), (0, u "(I)V"), (0, .methodref 8 9), (0, .class_ 10), (0, .nameAndType 5 11), (0, u "java/io/OutputStream"), (0, u "()V"), (21, .fieldref 2 34), (0, .nameAndType 35 36), (0, u "buf"), (0, u "[B"), (5, u "(III)I"), (6, .fieldref 2 50), (0, .nameAndType 51 52), (0, u "count"), (0, u "I"), (0, .methodref 2 54), (0, .nameAndType 55 6), (0, u "ensureCapacity"), (0, .methodref 57 58), (0, .class_ 59), (0, .nameAndType 60 42), (0, u "java/util/Objects"), (0, u "checkFromIndexSize"), (0, .methodref 62 63), (0, .class_ 64), (0, .nameAndType 65 66), (0, u "java/lang/System"), (0, u "arraycopy"), (0, u "(Ljava/lang/Object;ILjava/lang/Object;II)V"), (2, u "write"), (0, u "([BII)V"), (32, u "size"), (24, u "()I")] 16

def k14c0 : Code := { maxStack := 2, maxLocals := 1, code := jdk_2005_method_1_code, exceptionTable := #[], attributes := #[] }
def k14m0 : Method := { name := "<init>", desc := "()V", sig := { parameters := [], returnType := none }, accessFlags := 1, code := some k14c0 }
def k14c1 : Code := { maxStack := 4, maxLocals := 2, code := jdk_2005_method_2_code, exceptionTable := #[], attributes := #[] }
def k14m1 : Method := { name := "<init>", desc := "(I)V", sig := { parameters := [.int], returnType := none }, accessFlags := 1, code := some k14c1 }
def k14c2 : Code := { maxStack := 5, maxLocals := 4, code := jdk_2005_method_3_code, exceptionTable := #[], attributes := #[] }
def k14m2 : Method := { name := "ensureCapacity", desc := "(I)V", sig := { parameters := [.int], returnType := none }, accessFlags := 2, code := some k14c2 }
def k14c3 : Code := { maxStack := 5, maxLocals := 4, code := ⟨#[0x1c, 0x1d, 0x2b, 0xbe, 0xb8, 0x00, 0x38, 0x57, 0x2a, 0x2a, 0xb4, 0x00, 0x31, 0x1d, 0x60, 0xb6, 0x00, 0x35, 0x2b, 0x1c, 0x2a, 0xb4, 0x00, 0x21, 0x2a, 0xb4, 0x00, 0x31, 0x1d, 0xb8, 0x00, 0x3d, 0x2a, 0x59, 0xb4, 0x00, 0x31, 0x1d, 0x60, 0xb5, 0x00, 0x31, 0xb1]⟩, exceptionTable := #[], attributes := #[] }
def k14m3 : Method := { name := "write", desc := "([BII)V", sig := { parameters := [(.array .byte), .int, .int], returnType := none }, accessFlags := 33, code := some k14c3 }
def k14c4 : Code := { maxStack := 1, maxLocals := 1, code := ⟨#[0x2a, 0xb4, 0x00, 0x31, 0xac]⟩, exceptionTable := #[], attributes := #[] }
def k14m4 : Method := { name := "size", desc := "()I", sig := { parameters := [], returnType := some .int }, accessFlags := 33, code := some k14c4 }
/-- java/io/ByteArrayOutputStream -/
def k14 : Class := { plain "java/io/ByteArrayOutputStream" (some 6) with
  accessFlags := 33
  interfaces := #[]
  cf := some (fileOf pool14 2 #[] #[{ accessFlags := 1, nameIndex := 5, descriptorIndex := 11, attributes := #[] }, { accessFlags := 1, nameIndex := 5, descriptorIndex := 6, attributes := #[] }, { accessFlags := 2, nameIndex := 55, descriptorIndex := 6, attributes := #[] }, { accessFlags := 33, nameIndex := 69, descriptorIndex := 70, attributes := #[] }, { accessFlags := 33, nameIndex := 103, descriptorIndex := 128, attributes := #[] }] 33 8 #[] #[{ accessFlags := 4, nameIndex := 35, descriptorIndex := 36, attributes := #[] }, { accessFlags := 4, nameIndex := 51, descriptorIndex := 52, attributes := #[] }])
  fields := #[{ name := "buf", type := (.array .byte), accessFlags := 4, slot := 0, constantValue := 0 }, { name := "count", type := .int, accessFlags := 4, slot := 1, constantValue := 0 }]
  methods := #[k14m0, k14m1, k14m2, k14m3, k14m4]
  instanceTypes := #[(.array .byte), .int]
  staticTypes := #[]
  resolved := Array.replicate 145 none
  statics := none }

def pool15 : Array CpInfo := pool [(2, .class_ 4), (1, u "java/lang/Object"), (0, u "<init>"), (0, u "()V"), (35, .class_ 44), (1, u "java/util/Objects"), (61, .class_ 108), (1, u "jdk/internal/util/Preconditions"), (5, u "(IIILjava/util/function/BiFunction;)I"), (0, .methodref 106 116), (0, .nameAndType 117 114), (0, u "checkFromIndexSize"), (57, u "(III)I")] 8

def k15m0 : Method := { name := "<init>", desc := "()V", sig := { parameters := [], returnType := none }, accessFlags := 2, code := none }
def k15c1 : Code := { maxStack := 4, maxLocals := 3, code := jdk_31_method_19_code, exceptionTable := #[], attributes := #[] }
def k15m1 : Method := { name := "checkFromIndexSize", desc := "(III)I", sig := { parameters := [.int, .int, .int], returnType := some .int }, accessFlags := 9, code := some k15c1 }
/-- java/util/Objects -/
def k15 : Class := { plain "java/util/Objects" (some 0) with
  accessFlags := 49
  interfaces := #[]
  cf := some (fileOf pool15 42 #[] #[{ accessFlags := 2, nameIndex := 5, descriptorIndex := 6, attributes := #[] }, { accessFlags := 9, nameIndex := 117, descriptorIndex := 175, attributes := #[] }] 49 2 #[] #[])
  fields := #[]
  methods := #[k15m0, k15m1]
  instanceTypes := #[]
  staticTypes := #[]
  resolved := Array.replicate 184 none
  statics := none }

def pool16 : Array CpInfo := pool [(2, .class_ 4), (1, u "java/lang/Object"), (0, u "<init>"), (0, u "()V"), (17, .class_ 26), (1, u "jdk/internal/util/Preconditions"), (22, u "checkFromIndexSize"), (5, .class_ 56), (0, u "jdk/internal/util/Preconditions$4"), (57, .class_ 115), (0, u "jdk/internal/util/Preconditions$1"), (7, u "SIOOBE_FORMATTER"), (0, u "Ljava/util/function/BiFunction;"), (0, .class_ 126), (0, u "jdk/internal/util/Preconditions$2"), (3, u "AIOOBE_FORMATTER"), (0, .class_ 132), (0, u "jdk/internal/util/Preconditions$3"), (3, u "IOOBE_FORMATTER"), (46, u "(IIILjava/util/function/BiFunction;)I")] 10

def k16m0 : Method := { name := "<init>", desc := "()V", sig := { parameters := [], returnType := none }, accessFlags := 1, code := none }
def k16c1 : Code := { maxStack := 4, maxLocals := 4, code := jdk_41_method_13_code, exceptionTable := #[], attributes := #[] }
def k16m1 : Method := { name := "checkFromIndexSize", desc := "(IIILjava/util/function/BiFunction;)I", sig := { parameters := [.int, .int, .int, (.object "java/util/function/BiFunction")], returnType := some .int }, accessFlags := 9, code := some k16c1 }
/-- jdk/internal/util/Preconditions -/
def k16 : Class := { plain "jdk/internal/util/Preconditions" (some 0) with
  accessFlags := 33
  interfaces := #[]
  cf := some (fileOf pool16 24 #[.nestMembers #[55, 131, 125, 114]] #[{ accessFlags := 1, nameIndex := 5, descriptorIndex := 6, attributes := #[] }, { accessFlags := 9, nameIndex := 49, descriptorIndex := 183, attributes := #[] }] 33 2 #[] #[{ accessFlags := 25, nameIndex := 123, descriptorIndex := 124, attributes := #[] }, { accessFlags := 25, nameIndex := 130, descriptorIndex := 124, attributes := #[] }, { accessFlags := 25, nameIndex := 136, descriptorIndex := 124, attributes := #[] }])
  fields := #[{ name := "SIOOBE_FORMATTER", type := (.object "java/util/function/BiFunction"), accessFlags := 25, slot := 0, constantValue := 0 }, { name := "AIOOBE_FORMATTER", type := (.object "java/util/function/BiFunction"), accessFlags := 25, slot := 1, constantValue := 0 }, { name := "IOOBE_FORMATTER", type := (.object "java/util/function/BiFunction"), accessFlags := 25, slot := 2, constantValue := 0 }]
  methods := #[k16m0, k16m1]
  instanceTypes := #[]
  staticTypes := #[(.object "java/util/function/BiFunction"), (.object "java/util/function/BiFunction"), (.object "java/util/function/BiFunction")]
  resolved := Array.replicate 194 none
  statics := none }

def pool17 : Array CpInfo := pool [(2, .class_ 4), (1, u "java/lang/Object"), (0, u "<init>"), (0, u "()V"), (1, .class_ 10), (1, u "java/lang/System"), (0, u "allowSecurityManager"), (0, u "I"), (16, u "cons"), (0, u "Ljava/io/Console;"), (77, .class_ 110), (1, u "java/lang/System$CallersHolder"), (43, u "initialErrStream"), (0, u "Ljava/io/PrintStream;"), (19, u "security"), (0, u "Ljava/lang/SecurityManager;"), (31, .class_ 209), (0, u "java/lang/System$1"), (7, u "props"), (0, u "Ljava/util/Properties;"), (2, u "lineSeparator"), (0, u "Ljava/lang/String;"), (96, .class_ 321), (1, u "java/lang/System$LoggerFinder"), (5, .class_ 328), (0, u "java/lang/System$Logger"), (67, u "err"), (2, u "out"), (91, u "notSupportedJnuEncoding"), (15, u "in"), (17, u "initialIn"), (0, u "Ljava/io/InputStream;"), (35, u "bootLayer"), (0, u "Ljava/lang/ModuleLayer;"), (99, .class_ 664), (0, u "java/lang/System$2"), (9, u "NEVER"), (2, u "MAYBE"), (49, u "arraycopy"), (0, u "(Ljava/lang/Object;ILjava/lang/Object;II)V"), (72, .class_ 802), (0, u "java/lang/System$Logger$Level")] 31

def k17m0 : Method := { name := "<init>", desc := "()V", sig := { parameters := [], returnType := none }, accessFlags := 2, code := none }
def k17m1 : Method := { name := "arraycopy", desc := "(Ljava/lang/Object;ILjava/lang/Object;II)V", sig := { parameters := [(.object "java/lang/Object"), .int, (.object "java/lang/Object"), .int, .int], returnType := none }, accessFlags := 265, code := none }
/-- java/lang/System -/
def k17 : Class := { plain "java/lang/System" (some 0) with
  accessFlags := 49
  interfaces := #[]
  cf := some (fileOf pool17 8 #[.nestMembers #[319, 327, 801, 108, 663, 208]] #[{ accessFlags := 2, nameIndex := 5, descriptorIndex := 6, attributes := #[] }, { accessFlags := 265, nameIndex := 727, descriptorIndex := 728, attributes := #[] }] 49 2 #[] #[{ accessFlags := 25, nameIndex := 507, descriptorIndex := 526, attributes := #[] }, { accessFlags := 25, nameIndex := 399, descriptorIndex := 155, attributes := #[] }, { accessFlags := 25, nameIndex := 396, descriptorIndex := 155, attributes := #[] }, { accessFlags := 10, nameIndex := 525, descriptorIndex := 526, attributes := #[] }, { accessFlags := 26, nameIndex := 674, descriptorIndex := 12, attributes := #[] }, { accessFlags := 26, nameIndex := 677, descriptorIndex := 12, attributes := #[] }, { accessFlags := 10, nameIndex := 11, descriptorIndex := 12, attributes := #[] }, { accessFlags := 74, nameIndex := 175, descriptorIndex := 176, attributes := #[] }, { accessFlags := 10, nameIndex := 491, descriptorIndex := 222, attributes := #[] }, { accessFlags := 74, nameIndex := 29, descriptorIndex := 30, attributes := #[] }, { accessFlags := 74, nameIndex := 154, descriptorIndex := 155, attributes := #[] }, { accessFlags := 10, nameIndex := 217, descriptorIndex := 218, attributes := #[] }, { accessFlags := 10, nameIndex := 221, descriptorIndex := 222, attributes := #[] }, { accessFlags := 8, nameIndex := 562, descriptorIndex := 563, attributes := #[] }])
  fields := #[{ name := "in", type := (.object "java/io/InputStream"), accessFlags := 25, slot := 0, constantValue := 0 }, { name := "out", type := (.object "java/io/PrintStream"), accessFlags := 25, slot := 1, constantValue := 0 }, { name := "err", type := (.object "java/io/PrintStream"), accessFlags := 25, slot := 2, constantValue := 0 }, { name := "initialIn", type := (.object "java/io/InputStream"), accessFlags := 10, slot := 3, constantValue := 0 }, { name := "NEVER", type := .int, accessFlags := 26, slot := 4, constantValue := 0 }, { name := "MAYBE", type := .int, accessFlags := 26, slot := 5, constantValue := 0 }, { name := "allowSecurityManager", type := .int, accessFlags := 10, slot := 6, constantValue := 0 }, { name := "security", type := (.object "java/lang/SecurityManager"), accessFlags := 74, slot := 7, constantValue := 0 }, { name := "notSupportedJnuEncoding", type := (.object "java/lang/String"), accessFlags := 10, slot := 8, constantValue := 0 }, { name := "cons", type := (.object "java/io/Console"), accessFlags := 74, slot := 9, constantValue := 0 }, { name := "initialErrStream", type := (.object "java/io/PrintStream"), accessFlags := 74, slot := 10, constantValue := 0 }, { name := "props", type := (.object "java/util/Properties"), accessFlags := 10, slot := 11, constantValue := 0 }, { name := "lineSeparator", type := (.object "java/lang/String"), accessFlags := 10, slot := 12, constantValue := 0 }, { name := "bootLayer", type := (.object "java/lang/ModuleLayer"), accessFlags := 8, slot := 13, constantValue := 0 }]
  methods := #[k17m0, k17m1]
  instanceTypes := #[]
  staticTypes := #[(.object "java/io/InputStream"), (.object "java/io/PrintStream"), (.object "java/io/PrintStream"), (.object "java/io/InputStream"), .int, .int, .int, (.object "java/lang/SecurityManager"), (.object "java/lang/String"), (.object "java/io/Console"), (.object "java/io/PrintStream"), (.object "java/util/Properties"), (.object "java/lang/String"), (.object "java/lang/ModuleLayer")]
  resolved := Array.replicate 834 none
  statics := none }

def pool18 : Array CpInfo := pool [(1, u "java/lang/Cloneable"), (0, .class_ 1), (0, u "java/lang/Object"), (0, .class_ 3)] 3

/-- java/lang/Cloneable -/
def k18 : Class := { plain "java/lang/Cloneable" (some 0) with
  accessFlags := 1537
  interfaces := #[]
  cf := some (fileOf pool18 2 #[] #[] 1537 4 #[] #[])
  fields := #[]
  methods := #[]
  instanceTypes := #[]
  staticTypes := #[]
  resolved := Array.replicate 8 none
  statics := none }

/-- the primitive byte -/
def k19 : Class := { plain "byte" none with kind := .primitive 'B', accessFlags := 0x411 }
/-- [B -/
def k20 : Class := { plain "[B" (some 0) with kind := .array 19 .byte, interfaces := #[18, 8], accessFlags := 1041 }

/-- the primitive int -/
def k21 : Class := { plain "int" none with kind := .primitive 'I', accessFlags := 0x411 }
/-- [I -/
def k22 : Class := { plain "[I" (some 0) with kind := .array 21 .int, interfaces := #[18, 8], accessFlags := 1041 }

def heap : Heap := #[]
def classes : Array Class := #[k0, k1, k2, k3, k4, k5, k6, k7, k8, k9, k10, k11, k12, k13, k14, k15, k16, k17, k18, k19, k20, k21, k22]
def interned : List (Array UInt16 × Addr) := []
def slotsUsed : Nat := 0
def theMethod : MethodId := ⟨1, 1⟩
def args0 : Array Value := #[.int 5, .int 3, .int 2, .int 1]
def aboutOver (below : List Frame) : State where
  vm := { classes := classes, interned := interned.toArray }
  heap := heap
  slotsUsed := slotsUsed
  threads := #[{ frames := .invoking theMethod args0 :: below }]
def below0 : List Frame := [.native { method := ⟨0, 0⟩, args := #[] }]
def about1 : State := aboutOver below0
def p0 : Program := .bare "" "" ""
def e0 : Env := launch0.env 0 0 0
theorem w_frames : about1.frames = Frame.invoking theMethod args0 :: below0 := rfl
set_option maxRecDepth 65536 in
theorem w_args : argsFit about1.vm theMethod args0 = true := by decide +kernel
set_option maxRecDepth 65536 in
theorem w_heap : heapFits about1 = true := by decide +kernel
set_option maxRecDepth 65536 in
theorem w_runnable : about1.curStatus? = some .runnable := by decide +kernel
set_option maxRecDepth 65536 in
theorem w_alone : about1.alone = true := by decide +kernel
set_option maxRecDepth 65536 in
theorem w_named : about1.methodNamed? x = some theMethod := by decide +kernel
set_option maxRecDepth 65536 in
theorem w_hears : about1.hears theMethod below0 = true := by decide +kernel
set_option maxRecDepth 65536 in
theorem w_ripe : about1.ripe theMethod args0 below0 = true := by decide +kernel
theorem w_running : about1.status = .running := rfl
set_option maxRecDepth 65536 in
theorem w_room : about1.hasRoom e0.platform room_1 = true :=
  launch0.hasRoom_least _ room_1 (by decide +kernel) (by decide +kernel) (by decide +kernel) (by decide +kernel) (by decide +kernel) (by decide +kernel)
theorem allAtoms_all (ts : List Jvm.Cond) (a : Array Jvm.Value) (st : Jvm.State) : (allAtoms ts).before a st = ts.all (fun c => c.before a st) := by
  induction ts with
  | nil => rfl
  | cons c t ih =>
    show (Jvm.Cond.and c (allAtoms t)).before a st = _
    rw [Jvm.Cond.before_and, ih, List.all_cons]
def words1 : List Jvm.Cond := Jvm.Cond.code x code maxLocals ret :: tables_1
/-- a 'code' word, met by the world's own term for the bytes: nothing is compared byte by byte -/
theorem code_word {y : MethodName} {bytes : ByteArray} {mx : Nat} {rt : Option FieldType} {a : Array Value} {s : State} {m : MethodId} {meth : Method} {c : Code} (h1 : s.methodNamed? y = some m) (h2 : s.vm.method? m = some meth) (h3 : meth.code = some c) (h4 : c.code = bytes)
    (h5 : (c.maxLocals == mx && c.exceptionTable.isEmpty && decide (c.maxStack ≤ mostOperands) && decide (meth.sig.returnType = rt) && !meth.locks && decide (parseMethodDescriptor y.desc = some meth.sig)) = true) : (Jvm.Cond.code y bytes mx rt).before a s = true := by
  simp only [Bool.and_eq_true, beq_iff_eq, Bool.not_eq_true', decide_eq_true_eq] at h5
  obtain ⟨⟨⟨⟨⟨g1, g2⟩, g3⟩, g4⟩, g5⟩, g6⟩ := h5
  simp [Cond.before, Cond.holds, Cond.value, h1, h2, h3, h4, g1, g2, g3, g4, g5, g6]
def isCode : Jvm.Cond → Bool
  | .code _ _ _ _ => true
  | _ => false
theorem all_split {L : List Jvm.Cond} {P : Jvm.Cond → Bool} (h1 : L.all (fun c => isCode c || P c) = true) (h2 : ∀ c ∈ L.filter isCode, P c = true) : L.all P = true := by
  refine List.all_eq_true.mpr fun c hc => ?_
  have h := List.all_eq_true.mp h1 c hc
  rcases Bool.eq_false_or_eq_true (isCode c) with hi | hi
  · exact h2 c (List.mem_filter.mpr ⟨hc, hi⟩)
  · simpa [hi] using h
set_option maxRecDepth 65536 in
theorem w_c0 : (Jvm.Cond.code x code maxLocals ret).before args0 about1 = true := code_word (m := ⟨1, 1⟩) (meth := k1m1) (c := k1c1) (by decide +kernel) rfl rfl rfl (by decide +kernel)
set_option maxRecDepth 65536 in
theorem w_c1 : (Jvm.Cond.code ({ cls := "java/lang/Math", name := "max", desc := "(II)I" } : Jvm.MethodName) jdk_29_method_65_code (2 : Nat) (Option.some Jvm.ClassFile.FieldType.int)).before args0 about1 = true := code_word (m := ⟨2, 1⟩) (meth := k2m1) (c := k2c1) (by decide +kernel) rfl rfl rfl (by decide +kernel)
set_option maxRecDepth 65536 in
theorem w_c2 : (Jvm.Cond.code ({ cls := "com/example/keepd/keepd/http/Spool", name := "<init>", desc := "(ILjava/lang/String;)V" } : Jvm.MethodName) prog_23_method_1_code (3 : Nat) (Option.none : Option Jvm.ClassFile.FieldType)).before args0 about1 = true := code_word (m := ⟨7, 0⟩) (meth := k7m0) (c := k7c0) (by decide +kernel) rfl rfl rfl (by decide +kernel)
set_option maxRecDepth 65536 in
theorem w_c3 : (Jvm.Cond.code ({ cls := "java/io/OutputStream", name := "<init>", desc := "()V" } : Jvm.MethodName) jdk_2038_method_1_code (1 : Nat) (Option.none : Option Jvm.ClassFile.FieldType)).before args0 about1 = true := code_word (m := ⟨6, 0⟩) (meth := k6m0) (c := k6c0) (by decide +kernel) rfl rfl rfl (by decide +kernel)
set_option maxRecDepth 65536 in
theorem w_c4 : (Jvm.Cond.code ({ cls := "java/lang/Object", name := "<init>", desc := "()V" } : Jvm.MethodName) object_method_1_code (1 : Nat) (Option.none : Option Jvm.ClassFile.FieldType)).before args0 about1 = true := code_word (m := ⟨0, 0⟩) (meth := k0m0) (c := k0c0) (by decide +kernel) rfl rfl rfl (by decide +kernel)
set_option maxRecDepth 65536 in
theorem w_c5 : (Jvm.Cond.code ({ cls := "java/io/ByteArrayOutputStream", name := "<init>", desc := "()V" } : Jvm.MethodName) jdk_2005_method_1_code (1 : Nat) (Option.none : Option Jvm.ClassFile.FieldType)).before args0 about1 = true := code_word (m := ⟨14, 0⟩) (meth := k14m0) (c := k14c0) (by decide +kernel) rfl rfl rfl (by decide +kernel)
set_option maxRecDepth 65536 in
theorem w_c6 : (Jvm.Cond.code ({ cls := "java/io/ByteArrayOutputStream", name := "<init>", desc := "(I)V" } : Jvm.MethodName) jdk_2005_method_2_code (2 : Nat) (Option.none : Option Jvm.ClassFile.FieldType)).before args0 about1 = true := code_word (m := ⟨14, 1⟩) (meth := k14m1) (c := k14c1) (by decide +kernel) rfl rfl rfl (by decide +kernel)
set_option maxRecDepth 65536 in
theorem w_c7 : (Jvm.Cond.code ({ cls := "com/example/keepd/keepd/http/Spool", name := "heldBytes", desc := "()J" } : Jvm.MethodName) prog_23_method_5_code (1 : Nat) (Option.some Jvm.ClassFile.FieldType.long)).before args0 about1 = true := code_word (m := ⟨7, 3⟩) (meth := k7m3) (c := k7c3) (by decide +kernel) rfl rfl rfl (by decide +kernel)
set_option maxRecDepth 65536 in
theorem w_c8 : (Jvm.Cond.code ({ cls := "com/example/keepd/keepd/http/Spool", name := "write", desc := "([BII)V" } : Jvm.MethodName) prog_23_method_3_code (4 : Nat) (Option.none : Option Jvm.ClassFile.FieldType)).before args0 about1 = true := code_word (m := ⟨7, 2⟩) (meth := k7m2) (c := k7c2) (by decide +kernel) rfl rfl rfl (by decide +kernel)
set_option maxRecDepth 65536 in
theorem w_c9 : (Jvm.Cond.code ({ cls := "java/util/Objects", name := "checkFromIndexSize", desc := "(III)I" } : Jvm.MethodName) jdk_31_method_19_code (3 : Nat) (Option.some Jvm.ClassFile.FieldType.int)).before args0 about1 = true := code_word (m := ⟨15, 1⟩) (meth := k15m1) (c := k15c1) (by decide +kernel) rfl rfl rfl (by decide +kernel)
set_option maxRecDepth 65536 in
theorem w_c10 : (Jvm.Cond.code ({ cls := "jdk/internal/util/Preconditions", name := "checkFromIndexSize", desc := "(IIILjava/util/function/BiFunction;)I" } : Jvm.MethodName) jdk_41_method_13_code (4 : Nat) (Option.some Jvm.ClassFile.FieldType.int)).before args0 about1 = true := code_word (m := ⟨16, 1⟩) (meth := k16m1) (c := k16c1) (by decide +kernel) rfl rfl rfl (by decide +kernel)
set_option maxRecDepth 65536 in
theorem w_c11 : (Jvm.Cond.code ({ cls := "java/io/ByteArrayOutputStream", name := "ensureCapacity", desc := "(I)V" } : Jvm.MethodName) jdk_2005_method_3_code (4 : Nat) (Option.none : Option Jvm.ClassFile.FieldType)).before args0 about1 = true := code_word (m := ⟨14, 2⟩) (meth := k14m2) (c := k14c2) (by decide +kernel) rfl rfl rfl (by decide +kernel)
set_option maxRecDepth 65536 in
theorem w_c12 : (Jvm.Cond.code ({ cls := "com/example/keepd/keepd/http/Spool", name := "write", desc := "(I)V" } : Jvm.MethodName) prog_23_method_2_code (2 : Nat) (Option.none : Option Jvm.ClassFile.FieldType)).before args0 about1 = true := code_word (m := ⟨7, 1⟩) (meth := k7m1) (c := k7c1) (by decide +kernel) rfl rfl rfl (by decide +kernel)
def codes1 : List Jvm.Cond := [Jvm.Cond.code x code maxLocals ret, Jvm.Cond.code ({ cls := "java/lang/Math", name := "max", desc := "(II)I" } : Jvm.MethodName) jdk_29_method_65_code (2 : Nat) (Option.some Jvm.ClassFile.FieldType.int), Jvm.Cond.code ({ cls := "com/example/keepd/keepd/http/Spool", name := "<init>", desc := "(ILjava/lang/String;)V" } : Jvm.MethodName) prog_23_method_1_code (3 : Nat) (Option.none : Option Jvm.ClassFile.FieldType), Jvm.Cond.code ({ cls := "java/io/OutputStream", name := "<init>", desc := "()V" } : Jvm.MethodName) jdk_2038_method_1_code (1 : Nat) (Option.none : Option Jvm.ClassFile.FieldType), Jvm.Cond.code ({ cls := "java/lang/Object", name := "<init>", desc := "()V" } : Jvm.MethodName) object_method_1_code (1 : Nat) (Option.none : Option Jvm.ClassFile.FieldType), Jvm.Cond.code ({ cls := "java/io/ByteArrayOutputStream", name := "<init>", desc := "()V" } : Jvm.MethodName) jdk_2005_method_1_code (1 : Nat) (Option.none : Option Jvm.ClassFile.FieldType), Jvm.Cond.code ({ cls := "java/io/ByteArrayOutputStream", name := "<init>", desc := "(I)V" } : Jvm.MethodName) jdk_2005_method_2_code (2 : Nat) (Option.none : Option Jvm.ClassFile.FieldType), Jvm.Cond.code ({ cls := "com/example/keepd/keepd/http/Spool", name := "heldBytes", desc := "()J" } : Jvm.MethodName) prog_23_method_5_code (1 : Nat) (Option.some Jvm.ClassFile.FieldType.long), Jvm.Cond.code ({ cls := "com/example/keepd/keepd/http/Spool", name := "write", desc := "([BII)V" } : Jvm.MethodName) prog_23_method_3_code (4 : Nat) (Option.none : Option Jvm.ClassFile.FieldType), Jvm.Cond.code ({ cls := "java/util/Objects", name := "checkFromIndexSize", desc := "(III)I" } : Jvm.MethodName) jdk_31_method_19_code (3 : Nat) (Option.some Jvm.ClassFile.FieldType.int), Jvm.Cond.code ({ cls := "jdk/internal/util/Preconditions", name := "checkFromIndexSize", desc := "(IIILjava/util/function/BiFunction;)I" } : Jvm.MethodName) jdk_41_method_13_code (4 : Nat) (Option.some Jvm.ClassFile.FieldType.int), Jvm.Cond.code ({ cls := "java/io/ByteArrayOutputStream", name := "ensureCapacity", desc := "(I)V" } : Jvm.MethodName) jdk_2005_method_3_code (4 : Nat) (Option.none : Option Jvm.ClassFile.FieldType), Jvm.Cond.code ({ cls := "com/example/keepd/keepd/http/Spool", name := "write", desc := "(I)V" } : Jvm.MethodName) prog_23_method_2_code (2 : Nat) (Option.none : Option Jvm.ClassFile.FieldType)]
set_option maxRecDepth 65536 in
theorem codes_eq : words1.filter isCode = codes1 := rfl
theorem w_codes : ∀ c ∈ words1.filter isCode, c.before args0 about1 = true := by
  rw [codes_eq]
  intro c hc
  simp only [codes1, List.mem_cons, List.not_mem_nil, or_false] at hc
  rcases hc with rfl | rfl | rfl | rfl | rfl | rfl | rfl | rfl | rfl | rfl | rfl | rfl | rfl
  · exact w_c0
  · exact w_c1
  · exact w_c2
  · exact w_c3
  · exact w_c4
  · exact w_c5
  · exact w_c6
  · exact w_c7
  · exact w_c8
  · exact w_c9
  · exact w_c10
  · exact w_c11
  · exact w_c12
set_option maxRecDepth 65536 in
theorem w_t1 : (words1.take 24).all (fun c => isCode c || c.before args0 about1) = true := by decide +kernel
set_option maxRecDepth 65536 in
theorem w_t2 : ((words1.drop 24).take 24).all (fun c => isCode c || c.before args0 about1) = true := by decide +kernel
set_option maxRecDepth 65536 in
theorem w_t3 : (((words1.drop 24).drop 24).take 24).all (fun c => isCode c || c.before args0 about1) = true := by decide +kernel
set_option maxRecDepth 65536 in
theorem w_t4 : ((((words1.drop 24).drop 24).drop 24).take 24).all (fun c => isCode c || c.before args0 about1) = true := by decide +kernel
set_option maxRecDepth 65536 in
theorem w_t5 : ((((words1.drop 24).drop 24).drop 24).drop 24).all (fun c => isCode c || c.before args0 about1) = true := by decide +kernel
theorem w_tables : (allAtoms (Jvm.Cond.code x code maxLocals ret :: tables_1)).before args0 about1 = true := by
  rw [allAtoms_all]
  show words1.all (fun c => c.before args0 about1) = true
  refine all_split ?_ w_codes
  rw [← List.take_append_drop 24 words1, List.all_append, w_t1, ← List.take_append_drop 24 (words1.drop 24), List.all_append, w_t2, ← List.take_append_drop 24 ((words1.drop 24).drop 24), List.all_append, w_t3, ← List.take_append_drop 24 (((words1.drop 24).drop 24).drop 24), List.all_append, w_t4, w_t5]
  rfl
set_option maxRecDepth 65536 in
theorem w_case : (Jvm.Cond.and given_1 narrow_1).before args0 about1 = true := by decide +kernel
theorem w_applies : (headSpec (Jvm.Cond.code x code maxLocals ret :: tables_1) room_1).applies x e0.platform about1 = true :=
  (Spec.applies_iff w_frames).mpr ⟨w_running, w_runnable, w_alone, w_named, w_hears, w_ripe, w_room, w_tables⟩
theorem atStart : AtStart classFile x code maxLocals ret World_1 tables_1 room_1 Calls_1 rest_1 Pre_1 launch0 p0 e0 about1 theMethod args0 below0 :=
  ⟨lists_1, trivial, launch0.admits_env _ _ _, launch0.least_env, fairChoices_fair.cas, fairChoices_fair.clock, w_frames, w_args, w_heap, w_applies, trivial, trivial, w_case⟩
end start1
theorem witness_1 : WitnessClaimed_1 := ⟨start1.p0, start1.e0, start1.about1, start1.theMethod, start1.args0, start1.below0, start1.atStart⟩
end Jvm.Pilot.@@N@@
