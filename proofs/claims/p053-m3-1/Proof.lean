import JvmDerived
import JvmDerived.Pilot.@@N@@Statement
import JvmDerived.Pilot.@@N@@Code
set_option linter.unusedVariables false
set_option linter.unusedSimpArgs false
@@BLOCK:LamKit.lean.txt@@
namespace Jvm.Pilot.@@N@@
open Jvm Jvm.ClassFile Sem Op Lib Jvm.Free Jvm.Stand Jvm.LawKit Jvm.RoadKit Bundle Jvm.Pilot.@@N@@.Jvm.D

def own_T (a0 : Array Value) (Z : State) : Prop := ∀ (i : Nat) ⦃d : Jvm.Cond⦄, tables_1[i]? = some d → d.before a0 Z = true
abbrev own_y0 : MethodName := ⟨"com/example/zellwerk/zellwerk/model/Area", "<init>", "(Ljava/lang/String;DDDDLjava/util/Optional;)V"⟩
abbrev own_y1 : MethodName := ⟨"com/example/zellwerk/zellwerk/model/Cell", "<init>", "(DLjava/util/List;Ljava/util/List;Ljava/util/List;)V"⟩
abbrev own_y2 : MethodName := ⟨"com/example/zellwerk/zellwerk/model/Cell", "<init>", "(DLjava/util/List;Ljava/util/List;Ljava/util/List;DLjava/util/List;Ljava/util/List;)V"⟩
abbrev own_y3 : MethodName := ⟨"com/example/zellwerk/zellwerk/model/Cell", "areas", "()Ljava/util/List;"⟩
abbrev own_y4 : MethodName := ⟨"com/example/zellwerk/zellwerk/service/Holdings", "<init>", "(Lcom/example/zellwerk/zellwerk/model/Cell;)V"⟩
abbrev own_y5 : MethodName := ⟨"com/example/zellwerk/zellwerk/service/Holdings", "any", "()Z"⟩
abbrev own_y6 : MethodName := ⟨"com/example/zellwerk/zellwerk/service/Holdings", "lambda$new$0", "(Lcom/example/zellwerk/zellwerk/model/Area;)V"⟩
abbrev own_y7 : MethodName := ⟨"java/lang/Iterable", "forEach", "(Ljava/util/function/Consumer;)V"⟩
abbrev own_y8 : MethodName := ⟨"java/lang/Iterable", "iterator", "()Ljava/util/Iterator;"⟩
abbrev own_y9 : MethodName := ⟨"java/lang/Math", "max", "(II)I"⟩
abbrev own_y10 : MethodName := ⟨"java/lang/Math", "min", "(II)I"⟩
abbrev own_y11 : MethodName := ⟨"java/lang/Record", "<init>", "()V"⟩
abbrev own_y12 : MethodName := ⟨"java/lang/String", "<init>", "([BB)V"⟩
abbrev own_y13 : MethodName := ⟨"java/lang/String", "valueOf", "(C)Ljava/lang/String;"⟩
abbrev own_y14 : MethodName := ⟨"java/lang/StringLatin1", "canEncode", "(C)Z"⟩
abbrev own_y15 : MethodName := ⟨"java/lang/StringLatin1", "toBytes", "(C)[B"⟩
abbrev own_y16 : MethodName := ⟨"java/util/AbstractCollection", "<init>", "()V"⟩
abbrev own_y17 : MethodName := ⟨"java/util/AbstractList", "<init>", "()V"⟩
abbrev own_y18 : MethodName := ⟨"java/util/ArrayList", "<init>", "()V"⟩
abbrev own_y19 : MethodName := ⟨"java/util/ArrayList", "add", "(Ljava/lang/Object;)Z"⟩
abbrev own_y20 : MethodName := ⟨"java/util/ArrayList", "add", "(Ljava/lang/Object;[Ljava/lang/Object;I)V"⟩
abbrev own_y21 : MethodName := ⟨"java/util/ArrayList", "grow", "()[Ljava/lang/Object;"⟩
abbrev own_y22 : MethodName := ⟨"java/util/ArrayList", "grow", "(I)[Ljava/lang/Object;"⟩
abbrev own_y23 : MethodName := ⟨"java/util/ArrayList", "isEmpty", "()Z"⟩
abbrev own_y24 : MethodName := ⟨"java/util/ArrayList", "toArray", "()[Ljava/lang/Object;"⟩
abbrev own_y25 : MethodName := ⟨"java/util/Arrays", "copyOf", "([Ljava/lang/Object;I)[Ljava/lang/Object;"⟩
abbrev own_y26 : MethodName := ⟨"java/util/Arrays", "copyOf", "([Ljava/lang/Object;ILjava/lang/Class;)[Ljava/lang/Object;"⟩
abbrev own_y27 : MethodName := ⟨"java/util/Arrays", "fill", "([II)V"⟩
abbrev own_y28 : MethodName := ⟨"java/util/Collection", "isEmpty", "()Z"⟩
abbrev own_y29 : MethodName := ⟨"java/util/Collection", "toArray", "()[Ljava/lang/Object;"⟩
abbrev own_y30 : MethodName := ⟨"java/util/ImmutableCollections", "listCopy", "(Ljava/util/Collection;)Ljava/util/List;"⟩
abbrev own_y31 : MethodName := ⟨"java/util/ImmutableCollections", "listFromArray", "([Ljava/lang/Object;)Ljava/util/List;"⟩
abbrev own_y32 : MethodName := ⟨"java/util/ImmutableCollections$AbstractImmutableCollection", "<init>", "()V"⟩
abbrev own_y33 : MethodName := ⟨"java/util/ImmutableCollections$AbstractImmutableList", "<init>", "()V"⟩
abbrev own_y34 : MethodName := ⟨"java/util/ImmutableCollections$AbstractImmutableList", "iterator", "()Ljava/util/Iterator;"⟩
abbrev own_y35 : MethodName := ⟨"java/util/ImmutableCollections$AbstractImmutableList", "size", "()I"⟩
abbrev own_y36 : MethodName := ⟨"java/util/ImmutableCollections$List12", "<init>", "(Ljava/lang/Object;)V"⟩
abbrev own_y37 : MethodName := ⟨"java/util/ImmutableCollections$List12", "<init>", "(Ljava/lang/Object;Ljava/lang/Object;)V"⟩
abbrev own_y38 : MethodName := ⟨"java/util/ImmutableCollections$List12", "get", "(I)Ljava/lang/Object;"⟩
abbrev own_y39 : MethodName := ⟨"java/util/ImmutableCollections$List12", "size", "()I"⟩
abbrev own_y40 : MethodName := ⟨"java/util/ImmutableCollections$ListItr", "<init>", "(Ljava/util/List;I)V"⟩
abbrev own_y41 : MethodName := ⟨"java/util/ImmutableCollections$ListItr", "hasNext", "()Z"⟩
abbrev own_y42 : MethodName := ⟨"java/util/ImmutableCollections$ListItr", "next", "()Ljava/lang/Object;"⟩
abbrev own_y43 : MethodName := ⟨"java/util/ImmutableCollections$ListN", "<init>", "([Ljava/lang/Object;Z)V"⟩
abbrev own_y44 : MethodName := ⟨"java/util/ImmutableCollections$ListN", "get", "(I)Ljava/lang/Object;"⟩
abbrev own_y45 : MethodName := ⟨"java/util/ImmutableCollections$ListN", "size", "()I"⟩
abbrev own_y46 : MethodName := ⟨"java/util/Iterator", "hasNext", "()Z"⟩
abbrev own_y47 : MethodName := ⟨"java/util/Iterator", "next", "()Ljava/lang/Object;"⟩
abbrev own_y48 : MethodName := ⟨"java/util/List", "add", "(Ljava/lang/Object;)Z"⟩
abbrev own_y49 : MethodName := ⟨"java/util/List", "copyOf", "(Ljava/util/Collection;)Ljava/util/List;"⟩
abbrev own_y50 : MethodName := ⟨"java/util/List", "forEach", "(Ljava/util/function/Consumer;)V"⟩
abbrev own_y51 : MethodName := ⟨"java/util/List", "get", "(I)Ljava/lang/Object;"⟩
abbrev own_y52 : MethodName := ⟨"java/util/List", "of", "()Ljava/util/List;"⟩
abbrev own_y53 : MethodName := ⟨"java/util/List", "of", "([Ljava/lang/Object;)Ljava/util/List;"⟩
abbrev own_y54 : MethodName := ⟨"java/util/List", "size", "()I"⟩
abbrev own_y55 : MethodName := ⟨"java/util/Objects", "requireNonNull", "(Ljava/lang/Object;)Ljava/lang/Object;"⟩
section OwnKit
variable {p : Program} {l : Launch} {e : Env} {R : Room} {s : State} {m : MethodId} {args : Array Value} {below : List Frame} {meth : Method} {c : Code} {T : State} {locs : List Loc} {cells slots : Nat} {Z : State} {a0 : Array Value} {h : Heap}
/-- from T at frame F the walk reaches a state that P holds of -/
def own_R (tb : Tables) (e : Env) (below : List Frame) (P : State → Prop) (T : State) (F : JFrame) : Prop := ∃ t, Steps tb e below (T.setTop F) t ∧ P t
theorem own_go {tb : Tables} {e : Env} {below : List Frame} {P : State → Prop} {T T' : State} {F F' : JFrame} (h : ∀ t, Steps tb e below (T'.setTop F') t → Steps tb e below (T.setTop F) t) (r : own_R tb e below P T' F') : own_R tb e below P T F := by
  obtain ⟨t, a, b⟩ := r
  exact ⟨t, h t a, b⟩
/-- what a body's end must meet -/
def own_E (s : State) (below : List Frame) (Q : Option Value → Heap → List Loc → Prop) (C N : Nat) (t : State) : Prop := ∃ v L, t.status = .running ∧ Ended t below (.returned v) ∧ Q v t.heap L ∧ FrameEnd s (.returned v) t L C N
/-- a body's contract -/
abbrev own_C (l : Launch) (Z : State) (y : MethodName) (bytes : ByteArray) (ml : Nat) (ret : Option FieldType) (ws : List Jvm.Cond) (rm : Room) (as : Array Value) (h0 : Heap) (Q : Option Value → Heap → List Loc → Prop) : Prop :=
  MetFree l y (head1 (Jvm.Cond.code y bytes ml ret :: ws) rm) (fun a U => a = as ∧ Z.Warmed39 U.vm ∧ U.heap = h0) (fun _ _ _ _ _ => True) (fun _ U o U' => ∃ v L, o = .returned v ∧ Q v U'.heap L ∧ FrameEnd U o U' L rm.cells rm.slots)
theorem own_body {y : MethodName} {bytes : ByteArray} {ml : Nat} {ret : Option FieldType} {ws : List Jvm.Cond} {rm : Room} {as : Array Value} {h0 : Heap} {Q : Option Value → Heap → List Loc → Prop} {ls : Array Slot}
    (hy : plainFor y = true) (hef : ∀ m, entryFrame m as ml = mkF m 0 ls [])
    (H : ∀ (p : Program) (e : Env) (s : State) (m : MethodId) (below : List Frame) (meth : Method) (c : Code) (T : State), Z.Warmed39 s.vm → p.tables.exec = Jvm.exec → c.code = bytes → c.maxLocals = ml → s.vm.findClass y.cls = some m.cls → meth.name = y.name → meth.sig.returnType = ret → meth.locks = false →
      Stand p l e rm s m as below meth c T [] 0 0 → T.heap = h0 → own_R p.tables e below (own_E s below Q rm.cells rm.slots) T (mkF m 0 ls [])) :
    own_C l Z y bytes ml ret ws rm as h0 Q := by
  refine MetFree.of_bodySF hy hisR ?_
  intro p e s m args below meth c s₁ Bd hml0 hP hK
  obtain ⟨rfl, hZ, hh⟩ := hP
  obtain ⟨t, st, v, L, h1, h2, h3, h4⟩ := H p e s m below meth c s₁ hZ Bd.exec Bd.bytes hml0 (findClass_of_methodNamed Bd.named) (name_of_methodNamed Bd.named Bd.method).1 Bd.returns Bd.notSynchronized (Stand.of_body Bd) (by rw [← hh, Bd.state]; rfl)
  exact ⟨t, _, castTop (hef m) st, h1, h2, v, L, rfl, h3, h4⟩
theorem own_end {Q : Option Value → Heap → List Loc → Prop} {C N : Nat} {F : JFrame} (X : Stand p l e R s m args below meth c T locs cells slots) (v : Option Value) (hv : meth.sig.returnType = none → v = none) (hlk : meth.locks = false)
    (hst : ∀ fs, (∀ (f : JFrame) (acts : List Action), f.method = m → f.locked = none → f.entered = [] → (doReturn e (T.setTop f) acts v).1 = T.setFrames fs) → Steps p.tables e below (T.setTop F) (T.setFrames fs))
    (hQ : Q v T.heap locs) (hc : cells ≤ C) (hn : slots ≤ N) : own_R p.tables e below (own_E s below Q C N) T F := by
  obtain ⟨fs, hr, hrun, hended, hW, hsame⟩ := X.leave (v := v) hv hlk
  exact ⟨_, hst fs hr, v, locs, hrun, hended, hQ, ⟨_, rfl⟩, hW, hsame.mono hc hn⟩
theorem own_retI (X : Stand p l e R s m args below meth c T locs cells slots) (hx : p.tables.exec = Jvm.exec) {pc : Nat} {Ls : Array Slot} {z : Int32} {rest : List Value} (hret : meth.sig.returnType = some .int) (hd : decode c.code pc = .ok (.ireturn, 1)) {fs : List Frame}
    (hl : ∀ (f : JFrame) (acts : List Action), f.method = m → f.locked = none → f.entered = [] → (doReturn e (T.setTop f) acts (some (.int z))).1 = T.setFrames fs) : Steps p.tables e below (T.setTop (mkF m pc Ls (.int z :: rest))) (T.setFrames fs) := by
  have hm' : T.vm.method? m = some meth := X.method'
  have hn : narrow .int (.int z) = .int z := rfl
  show Steps p.tables e below (T.setTop { method := m, pc := pc, locals := Ls, stack := _ :: rest, locked := none }) _
  jvm_step X.here [X.here.top, hx, hd, hm', hret, hn]
  first | (intro acts; rw [hl _ acts rfl rfl rfl]) | rw [hl _ _ rfl rfl rfl]
  exact Steps.refl _
theorem own_retA (X : Stand p l e R s m args below meth c T locs cells slots) (hx : p.tables.exec = Jvm.exec) {pc : Nat} {Ls : Array Slot} {z : Value} {t : FieldType} {rest : List Value} (hret : meth.sig.returnType = some t) (ht : t.isReference = true) (hz : z.isRef = true) (hd : decode c.code pc = .ok (.areturn, 1)) {fs : List Frame}
    (hl : ∀ (f : JFrame) (acts : List Action), f.method = m → f.locked = none → f.entered = [] → (doReturn e (T.setTop f) acts (some z)).1 = T.setFrames fs) : Steps p.tables e below (T.setTop (mkF m pc Ls (z :: rest))) (T.setFrames fs) := by
  have hm' : T.vm.method? m = some meth := X.method'
  show Steps p.tables e below (T.setTop { method := m, pc := pc, locals := Ls, stack := _ :: rest, locked := none }) _
  jvm_step X.here [X.here.top, hx, hd, hm', hret, ht, hz]
  first | (intro acts; rw [hl _ acts rfl rfl rfl]) | rw [hl _ _ rfl rfl rfl]
  exact Steps.refl _
theorem own_len {a : Addr} {k : ClassId} {ty : FieldType} {n : Int32} {vs : List Value} {d : Value} (X : Stand p l e R s m args below meth c T locs cells slots) (hx : p.tables.exec = Jvm.exec) (hZ : Z.Warmed39 s.vm) (eT : T.heap = h) (V : Arv Z h a k ty n vs d)
    {g : JFrame} (hg : g.method = m) {rest : List Value} (hs : g.stack = .ref a :: rest) (hd : decode c.code g.pc = .ok (.arraylength, 1)) :
    ∀ t, Steps p.tables e below (T.setTop { g with pc := g.pc + 1, stack := .int n :: rest }) t → Steps p.tables e below (T.setTop g) t := by
  obtain ⟨cl, Ar, -, S, N, -, -⟩ := V
  intro t st
  refine X.arraylength hx (by rw [eT]; exact Ar.1) (State.isArrayOf_alike hZ.alike Ar.2.1) hg hs hd t ?_
  rw [len_of S N]
  exact st
/-- a payer's form: what the three calls ask -/
abbrev own_B (l : Launch) (R : Room) (p : Program) (e : Env) (below : List Frame) (s : State) (args : Array Value) (y : MethodName) (W : Nat) (as : Array Value) (h : Heap) (kc ks : Nat) (Q : Option Value → Heap → List Loc → Prop) : Prop :=
  Back l R p e below s args y 3 W (fun A a => a = as ∧ A.U.heap = h ∧ A.cells + kc ≤ R.cells ∧ A.slots + ks ≤ R.slots) (fun A _ v B => ∃ L, Q v B.U.heap L ∧ B.locs = A.locs ++ L ∧ B.cells = A.cells + kc ∧ B.slots = A.slots + ks)
theorem own_backS (X : Stand p l e R s m args below meth c T locs cells slots) (hx : p.tables.exec = Jvm.exec) (hZ : Z.Warmed39 s.vm) {own : String} (hown : s.vm.findClass own = some m.cls) {index : Nat} {y : MethodName} {bytes : ByteArray} {maxL : Nat} {ret : Option FieldType}
    (w1 : (Jvm.Cond.methodLink own index y).before a0 Z = true) (w2 : (Jvm.Cond.static y).before a0 Z = true) (w3 : (Jvm.Cond.initialized y.cls).before a0 Z = true) (w4 : (Jvm.Cond.code y bytes maxL ret).before a0 Z = true) (hy : y.cls ≠ "java/lang/invoke/MethodHandle" ∧ y.cls ≠ "java/lang/invoke/VarHandle")
    {W kc ks : Nat} {as : Array Value} {Q : Option Value → Heap → List Loc → Prop} (hK : own_B l R p e below s args y W as h kc ks Q) 
    {g : JFrame} (hg : g.method = m) (hsize : g.locals.size = c.maxLocals) {argsL rest : List Value} (hlen : ∀ sig, parseMethodDescriptor y.desc = some sig → argsL.length = sig.parameters.length)
    (hst : g.stack = argsL.reverse ++ rest) (has : argsL.toArray = as) (hW : 2 * g.monitorRoom + (rest.map fun v => v.category).sum ≤ W) (hd : decode c.code g.pc = .ok (.invokestatic index, 3)) (eT : T.heap = h)
    (hc : cells + kc ≤ R.cells) (hs : slots + ks ≤ R.slots) :
    ∃ v T' L, Stand p l e R s m args below meth c T' (locs ++ L) (cells + kc) (slots + ks) ∧ Q v T'.heap L ∧ ∀ t, Steps p.tables e below (T'.setTop { g with pc := g.pc + 3, stack := v.toList ++ rest }) t → Steps p.tables e below (T.setTop g) t := by
  obtain ⟨v, vm1, ⟨T1, L1, k1, n1⟩, -, X1, ⟨Lc, hQ, l1, y1, z1⟩, st⟩ := Jvm.LawKit.callS X hx (y := y) hown (mvT hZ w1) (mvT hZ w2) (mvT hZ w3) (mvT hZ w4) hy hK hg hsize (argsL := argsL) (rest := rest) hlen hst hW hd (fun _ _ => ⟨has, eT, hc, hs⟩)
  dsimp only [Pt.U, Pt.locs, Pt.cells, Pt.slots] at X1 l1 y1 z1 st hQ
  subst l1 y1 z1
  exact ⟨v, T1, Lc, X1, hQ, st⟩
theorem own_callS (X : Stand p l e R s m args below meth c T locs cells slots) (hx : p.tables.exec = Jvm.exec) (hZ : Z.Warmed39 s.vm) {own : String} (hown : s.vm.findClass own = some m.cls) {index : Nat} {y : MethodName} {bytes : ByteArray} {maxL : Nat} {ret : Option FieldType}
    (w1 : (Jvm.Cond.methodLink own index y).before a0 Z = true) (w2 : (Jvm.Cond.static y).before a0 Z = true) (w3 : (Jvm.Cond.initialized y.cls).before a0 Z = true) (w4 : (Jvm.Cond.code y bytes maxL ret).before a0 Z = true) (hy : y.cls ≠ "java/lang/invoke/MethodHandle" ∧ y.cls ≠ "java/lang/invoke/VarHandle")
    {rm : Room} {as : Array Value} {Q : Option Value → Heap → List Loc → Prop} (hM : own_C l Z y bytes maxL ret [] rm as h Q) {W : Nat}
    {g : JFrame} (hg : g.method = m) (hsize : g.locals.size = c.maxLocals) {argsL rest : List Value} (hlen : ∀ sig, parseMethodDescriptor y.desc = some sig → argsL.length = sig.parameters.length)
    (hst : g.stack = argsL.reverse ++ rest) (has : argsL.toArray = as) (hW : 2 * g.monitorRoom + (rest.map fun v => v.category).sum ≤ W) (hd : decode c.code g.pc = .ok (.invokestatic index, 3)) (eT : T.heap = h)
    (hf : rm.frames + 1 ≤ R.frames) (hl : W + (maxL + 11) + rm.locals ≤ R.locals) (hc : cells + rm.cells ≤ R.cells) (hs : slots + rm.slots ≤ R.slots) :
    ∃ v T' L, Stand p l e R s m args below meth c T' (locs ++ L) (cells + rm.cells) (slots + rm.slots) ∧ Q v T'.heap L ∧ ∀ t, Steps p.tables e below (T'.setTop { g with pc := g.pc + 3, stack := v.toList ++ rest }) t → Steps p.tables e below (T.setTop g) t :=
  own_backS X hx hZ hown w1 w2 w3 w4 hy (backOf (W := W) hM hZ w4 w3 hf hl) hg hsize hlen hst has hW hd eT hc hs
theorem own_backI (X : Stand p l e R s m args below meth c T locs cells slots) (hx : p.tables.exec = Jvm.exec) (hZ : Z.Warmed39 s.vm) {own : String} (hown : s.vm.findClass own = some m.cls) {index : Nat} {y : MethodName} {bytes : ByteArray} {maxL : Nat} 
    (hy1 : y.name = "<init>") (w1 : (Jvm.Cond.methodLink own index y).before a0 Z = true) (w2 : (Jvm.Cond.instanceMethod y).before a0 Z = true) (w4 : (Jvm.Cond.code y bytes maxL none).before a0 Z = true) (w3 : (Jvm.Cond.initialized y.cls).before a0 Z = true) (hy : y.cls ≠ "java/lang/invoke/MethodHandle" ∧ y.cls ≠ "java/lang/invoke/VarHandle")
    {W kc ks : Nat} {as : Array Value} {Q : Option Value → Heap → List Loc → Prop} (hK : own_B l R p e below s args y W as h kc ks Q) 
    {g : JFrame} (hg : g.method = m) (hsize : g.locals.size = c.maxLocals) {a : Addr} {argsL rest : List Value} (hlen : ∀ sig, parseMethodDescriptor y.desc = some sig → argsL.length = sig.parameters.length)
    (hst : g.stack = argsL.reverse ++ .ref a :: rest) (has : (.ref a :: argsL).toArray = as) (hW : 2 * g.monitorRoom + (rest.map fun v => v.category).sum ≤ W) (hd : decode c.code g.pc = .ok (.invokespecial index, 3)) (eT : T.heap = h)
    (hc : cells + kc ≤ R.cells) (hs : slots + ks ≤ R.slots) :
    ∃ v T' L, Stand p l e R s m args below meth c T' (locs ++ L) (cells + kc) (slots + ks) ∧ Q v T'.heap L ∧ ∀ t, Steps p.tables e below (T'.setTop { g with pc := g.pc + 3, stack := v.toList ++ rest }) t → Steps p.tables e below (T.setTop g) t := by
  obtain ⟨v, vm1, ⟨T1, L1, k1, n1⟩, -, X1, ⟨Lc, hQ, l1, y1, z1⟩, st⟩ := X.specialBack hx (y := y) hy1 hown (mvT hZ w1) (mvT hZ w2) (mvT hZ w4) hy hK hg hsize (Steps.refl _) (a := a) (argsL := argsL) (rest := rest) hlen hst hW hd (fun _ _ => ⟨has, eT, hc, hs⟩)
  dsimp only [Pt.U, Pt.locs, Pt.cells, Pt.slots] at X1 l1 y1 z1 st hQ
  subst l1 y1 z1
  exact ⟨v, T1, Lc, X1, hQ, fun _ k => st.trans k⟩
theorem own_callI (X : Stand p l e R s m args below meth c T locs cells slots) (hx : p.tables.exec = Jvm.exec) (hZ : Z.Warmed39 s.vm) {own : String} (hown : s.vm.findClass own = some m.cls) {index : Nat} {y : MethodName} {bytes : ByteArray} {maxL : Nat} 
    (hy1 : y.name = "<init>") (w1 : (Jvm.Cond.methodLink own index y).before a0 Z = true) (w2 : (Jvm.Cond.instanceMethod y).before a0 Z = true) (w4 : (Jvm.Cond.code y bytes maxL none).before a0 Z = true) (w3 : (Jvm.Cond.initialized y.cls).before a0 Z = true) (hy : y.cls ≠ "java/lang/invoke/MethodHandle" ∧ y.cls ≠ "java/lang/invoke/VarHandle")
    {rm : Room} {as : Array Value} {Q : Option Value → Heap → List Loc → Prop} (hM : own_C l Z y bytes maxL none [] rm as h Q) {W : Nat}
    {g : JFrame} (hg : g.method = m) (hsize : g.locals.size = c.maxLocals) {a : Addr} {argsL rest : List Value} (hlen : ∀ sig, parseMethodDescriptor y.desc = some sig → argsL.length = sig.parameters.length)
    (hst : g.stack = argsL.reverse ++ .ref a :: rest) (has : (.ref a :: argsL).toArray = as) (hW : 2 * g.monitorRoom + (rest.map fun v => v.category).sum ≤ W) (hd : decode c.code g.pc = .ok (.invokespecial index, 3)) (eT : T.heap = h)
    (hf : rm.frames + 1 ≤ R.frames) (hl : W + (maxL + 11) + rm.locals ≤ R.locals) (hc : cells + rm.cells ≤ R.cells) (hs : slots + rm.slots ≤ R.slots) :
    ∃ v T' L, Stand p l e R s m args below meth c T' (locs ++ L) (cells + rm.cells) (slots + rm.slots) ∧ Q v T'.heap L ∧ ∀ t, Steps p.tables e below (T'.setTop { g with pc := g.pc + 3, stack := v.toList ++ rest }) t → Steps p.tables e below (T.setTop g) t :=
  own_backI X hx hZ hown hy1 w1 w2 w4 w3 hy (backOf (W := W) hM hZ w4 w3 hf hl) hg hsize hlen hst has hW hd eT hc hs
theorem own_backV (X : Stand p l e R s m args below meth c T locs cells slots) (hx : p.tables.exec = Jvm.exec) (hZ : Z.Warmed39 s.vm) {own C : String} (hown : s.vm.findClass own = some m.cls) {index : Nat} {y : MethodName} {bytes : ByteArray} {maxL : Nat} {ret : Option FieldType}
    (w1 : (Jvm.Cond.methodLink own index y).before a0 Z = true) (w2 : (Jvm.Cond.declares y).before a0 Z = true) (w5 : (Jvm.Cond.selects C y y).before a0 Z = true) (w6 : (Jvm.Cond.instanceMethod y).before a0 Z = true) (w4 : (Jvm.Cond.code y bytes maxL ret).before a0 Z = true) (w3 : (Jvm.Cond.initialized y.cls).before a0 Z = true) (hy : y.cls ≠ "java/lang/invoke/MethodHandle" ∧ y.cls ≠ "java/lang/invoke/VarHandle")
    {W kc ks : Nat} {as : Array Value} {Q : Option Value → Heap → List Loc → Prop} (hK : own_B l R p e below s args y W as h kc ks Q) {b : Addr} (hE : Exa Z h b C) 
    {g : JFrame} (hg : g.method = m) (hsize : g.locals.size = c.maxLocals) {argsL rest : List Value} (hlen : ∀ sig, parseMethodDescriptor y.desc = some sig → argsL.length = sig.parameters.length)
    (hst : g.stack = argsL.reverse ++ .ref b :: rest) (has : (.ref b :: argsL).toArray = as) (hW : 2 * g.monitorRoom + (rest.map fun v => v.category).sum ≤ W) (hd : decode c.code g.pc = .ok (.invokevirtual index, 3)) (eT : T.heap = h)
    (hc : cells + kc ≤ R.cells) (hs : slots + ks ≤ R.slots) :
    ∃ v T' L, Stand p l e R s m args below meth c T' (locs ++ L) (cells + kc) (slots + ks) ∧ Q v T'.heap L ∧ ∀ t, Steps p.tables e below (T'.setTop { g with pc := g.pc + 3, stack := v.toList ++ rest }) t → Steps p.tables e below (T.setTop g) t := by
  obtain ⟨cq, kq, qa, qb, qc⟩ := isOf hZ eT hE
  obtain ⟨v, vm1, ⟨T1, L1, k1, n1⟩, -, X1, ⟨Lc, hQ, l1, y1, z1⟩, st⟩ := X.virtualBack hx (y := y) (z := y) hown (mvT hZ w1) (mvT hZ w2) (notFace_of_selects (args := #[]) (mvT hZ w5)) (mvT hZ w5) (mvT hZ w6) hy hK qa qc hg hsize (Steps.refl _) (argsL := argsL) (rest := rest) hlen hst hW hd (fun _ _ => ⟨has, eT, hc, hs⟩)
  dsimp only [Pt.U, Pt.locs, Pt.cells, Pt.slots] at X1 l1 y1 z1 st hQ
  subst l1 y1 z1
  exact ⟨v, T1, Lc, X1, hQ, fun _ k => st.trans k⟩
theorem own_callV (X : Stand p l e R s m args below meth c T locs cells slots) (hx : p.tables.exec = Jvm.exec) (hZ : Z.Warmed39 s.vm) {own C : String} (hown : s.vm.findClass own = some m.cls) {index : Nat} {y : MethodName} {bytes : ByteArray} {maxL : Nat} {ret : Option FieldType}
    (w1 : (Jvm.Cond.methodLink own index y).before a0 Z = true) (w2 : (Jvm.Cond.declares y).before a0 Z = true) (w5 : (Jvm.Cond.selects C y y).before a0 Z = true) (w6 : (Jvm.Cond.instanceMethod y).before a0 Z = true) (w4 : (Jvm.Cond.code y bytes maxL ret).before a0 Z = true) (w3 : (Jvm.Cond.initialized y.cls).before a0 Z = true) (hy : y.cls ≠ "java/lang/invoke/MethodHandle" ∧ y.cls ≠ "java/lang/invoke/VarHandle")
    {rm : Room} {as : Array Value} {Q : Option Value → Heap → List Loc → Prop} (hM : own_C l Z y bytes maxL ret [] rm as h Q) {b : Addr} (hE : Exa Z h b C) {W : Nat}
    {g : JFrame} (hg : g.method = m) (hsize : g.locals.size = c.maxLocals) {argsL rest : List Value} (hlen : ∀ sig, parseMethodDescriptor y.desc = some sig → argsL.length = sig.parameters.length)
    (hst : g.stack = argsL.reverse ++ .ref b :: rest) (has : (.ref b :: argsL).toArray = as) (hW : 2 * g.monitorRoom + (rest.map fun v => v.category).sum ≤ W) (hd : decode c.code g.pc = .ok (.invokevirtual index, 3)) (eT : T.heap = h)
    (hf : rm.frames + 1 ≤ R.frames) (hl : W + (maxL + 11) + rm.locals ≤ R.locals) (hc : cells + rm.cells ≤ R.cells) (hs : slots + rm.slots ≤ R.slots) :
    ∃ v T' L, Stand p l e R s m args below meth c T' (locs ++ L) (cells + rm.cells) (slots + rm.slots) ∧ Q v T'.heap L ∧ ∀ t, Steps p.tables e below (T'.setTop { g with pc := g.pc + 3, stack := v.toList ++ rest }) t → Steps p.tables e below (T.setTop g) t :=
  own_backV X hx hZ hown w1 w2 w5 w6 w4 w3 hy (backOf (W := W) hM hZ w4 w3 hf hl) hE hg hsize hlen hst has hW hd eT hc hs
end OwnKit

section OwnKit2
variable {p : Program} {l : Launch} {e : Env} {R : Room} {s : State} {m : MethodId} {args : Array Value} {below : List Frame} {meth : Method} {c : Code} {T : State} {locs : List Loc} {cells slots : Nat} {Z : State} {a0 : Array Value} {h : Heap}
theorem own_callP (X : Stand p l e R s m args below meth c T locs cells slots) (hx : p.tables.exec = Jvm.exec) (hZ : Z.Warmed39 s.vm) {own : String} (hown : s.vm.findClass own = some m.cls) {index : Nat} {y : MethodName} {bytes : ByteArray} {maxL : Nat} {ret : Option FieldType}
    (w1 : (Jvm.Cond.methodLink own index y).before a0 Z = true) (w2 : (Jvm.Cond.privateMethod y).before a0 Z = true) (w5 : (Jvm.Cond.selects y.cls y y).before a0 Z = true) (w6 : (Jvm.Cond.instanceMethod y).before a0 Z = true) (w4 : (Jvm.Cond.code y bytes maxL ret).before a0 Z = true) (w3 : (Jvm.Cond.initialized y.cls).before a0 Z = true) (hy : y.cls ≠ "java/lang/invoke/MethodHandle" ∧ y.cls ≠ "java/lang/invoke/VarHandle")
    {rm : Room} {as : Array Value} {Q : Option Value → Heap → List Loc → Prop} {b : Addr} (hM : own_C l Z y bytes maxL ret [] rm as h Q) {C : String} (hE : Exa Z h b C) {W : Nat}
    {g : JFrame} (hg : g.method = m) (hsize : g.locals.size = c.maxLocals) {argsL rest : List Value} (hlen : ∀ sig, parseMethodDescriptor y.desc = some sig → argsL.length = sig.parameters.length)
    (hst : g.stack = argsL.reverse ++ .ref b :: rest) (has : (.ref b :: argsL).toArray = as) (hW : 2 * g.monitorRoom + (rest.map fun v => v.category).sum ≤ W) (hd : decode c.code g.pc = .ok (.invokevirtual index, 3)) (eT : T.heap = h)
    (hf : rm.frames + 1 ≤ R.frames) (hl : W + (maxL + 11) + rm.locals ≤ R.locals) (hc : cells + rm.cells ≤ R.cells) (hs : slots + rm.slots ≤ R.slots) :
    ∃ v T' L, Stand p l e R s m args below meth c T' (locs ++ L) (cells + rm.cells) (slots + rm.slots) ∧ Q v T'.heap L ∧ ∀ t, Steps p.tables e below (T'.setTop { g with pc := g.pc + 3, stack := v.toList ++ rest }) t → Steps p.tables e below (T.setTop g) t := by
  have ns := Exa.nostat hE
  obtain ⟨cellB, kq, qa, -⟩ := hE
  obtain ⟨v, vm1, ⟨T1, L1, k1, n1⟩, -, X1, ⟨Lc, hQ, l1, y1, z1⟩, st⟩ := X.privateBack hx (y := y) hown (mvT hZ w1) (mvT hZ w6) (mvT hZ w5) (Cond.privateMethod_at (mvT (args := #[]) hZ w2)) (mvT hZ w4) hy (backOf (W := W) hM hZ w4 w3 hf hl) hg hsize (Steps.refl _) (a := b) (cell := cellB) (by rw [eT]; exact qa) (fun z hz => by have := ns _ qa; rw [hz] at this; cases this) (argsL := argsL) (rest := rest) hlen hst hW hd (fun _ _ => ⟨has, eT, hc, hs⟩)
  dsimp only [Pt.U, Pt.locs, Pt.cells, Pt.slots] at X1 l1 y1 z1 st hQ
  subst l1 y1 z1
  exact ⟨v, T1, Lc, X1, hQ, fun _ k => st.trans k⟩
/-- what the end of a body that may intern must meet -/
def own_EW (s : State) (below : List Frame) (Q : Option Value → Heap → List Loc → Prop) (C N : Nat) (t : State) : Prop := ∃ v L, t.status = .running ∧ Ended t below (.returned v) ∧ Q v t.heap L ∧ ReturnedEndW s (.returned v) t L C N
abbrev own_CW (l : Launch) (Z : State) (y : MethodName) (bytes : ByteArray) (ml : Nat) (ret : Option FieldType) (ws : List Jvm.Cond) (rm : Room) (as : Array Value) (h0 : Heap) (Q : Option Value → Heap → List Loc → Prop) : Prop :=
  MetFree l y (head1 (Jvm.Cond.code y bytes ml ret :: ws) rm) (fun a U => a = as ∧ Z.Warmed39 U.vm ∧ U.heap = h0) (fun _ _ _ _ _ => True) (fun _ U o U' => ∃ v L, o = .returned v ∧ Q v U'.heap L ∧ ReturnedEndW U o U' L rm.cells rm.slots)
theorem own_bodyW {y : MethodName} {bytes : ByteArray} {ml : Nat} {ret : Option FieldType} {ws : List Jvm.Cond} {rm : Room} {as : Array Value} {h0 : Heap} {Q : Option Value → Heap → List Loc → Prop} {ls : Array Slot}
    (hy : plainFor y = true) (hef : ∀ m, entryFrame m as ml = mkF m 0 ls [])
    (H : ∀ (p : Program) (e : Env) (s : State) (m : MethodId) (below : List Frame) (meth : Method) (c : Code) (T : State), Z.Warmed39 s.vm → p.tables.exec = Jvm.exec → c.code = bytes → c.maxLocals = ml → s.vm.findClass y.cls = some m.cls → meth.name = y.name → meth.sig.returnType = ret → meth.locks = false →
      Stand p l e rm s m as below meth c T [] 0 0 → T.heap = h0 → own_R p.tables e below (own_EW s below Q rm.cells rm.slots) T (mkF m 0 ls [])) :
    own_CW l Z y bytes ml ret ws rm as h0 Q := by
  refine MetFree.of_bodySF hy hisR ?_
  intro p e s m args below meth c s₁ Bd hml0 hP hK
  obtain ⟨rfl, hZ, hh⟩ := hP
  obtain ⟨t, st, v, L, h1, h2, h3, h4⟩ := H p e s m below meth c s₁ hZ Bd.exec Bd.bytes hml0 (findClass_of_methodNamed Bd.named) (name_of_methodNamed Bd.named Bd.method).1 Bd.returns Bd.notSynchronized (Stand.of_body Bd) (by rw [← hh, Bd.state]; rfl)
  exact ⟨t, _, castTop (hef m) st, h1, h2, v, L, rfl, h3, h4⟩
end OwnKit2

section OwnKit3
variable {p : Program} {l : Launch} {e : Env} {R : Room} {s : State} {m : MethodId} {args : Array Value} {below : List Frame} {meth : Method} {c : Code} {T : State} {locs : List Loc} {cells slots : Nat} {Z : State} {a0 : Array Value} {h : Heap}
theorem own_stB {a : Addr} {k : ClassId} {n j : Int32} {vs : List Value} {d : Value} {x : Int32} (X : Stand p l e R s m args below meth c T locs cells slots) (hx : p.tables.exec = Jvm.exec) (hZ : Z.Warmed39 s.vm) (eT : T.heap = h) (V : Arv Z h a k .byte n vs d) (hj : ¬ j < 0 ∧ j < n) (i : Nat) (hji : j.toNatClampNeg = i) (hi : i < vs.length)
    {g : JFrame} (hg : g.method = m) {rest : List Value} (hs : g.stack = .int x :: .int j :: .ref a :: rest) (hd : decode c.code g.pc = .ok (.bastore, 1)) :
    ∃ T' h', Stand p l e R s m args below meth c T' (locs ++ [⟨a, j.toNatClampNeg⟩]) cells slots ∧ T'.heap = h' ∧ Wr h h' a j.toNatClampNeg (.int (nar .byte x)) ∧ Arv Z h' a k .byte n (vs.set i (.int (nar .byte x))) d ∧ ∀ t, Steps p.tables e below (T'.setTop { g with pc := g.pc + 1, stack := rest }) t → Steps p.tables e below (T.setTop g) t := by
  obtain ⟨cl, Ar, q, S, N, H, G⟩ := V
  obtain ⟨T', h', X', e', W, st⟩ := stB X hx hZ eT Ar (inb_of S hj) hg hs hd
  exact ⟨T', h', X', e', W, Arv.set Ar q S N H G (fits_nar_byte x) W i hji hi, st⟩
end OwnKit3

section OwnKit4
variable {p : Program} {l : Launch} {e : Env} {R : Room} {s : State} {m : MethodId} {args : Array Value} {below : List Frame} {meth : Method} {c : Code} {T : State} {locs : List Loc} {cells slots : Nat} {Z : State} {a0 : Array Value} {h : Heap}
theorem own_endN {Q : Option Value → Heap → List Loc → Prop} {C N : Nat} {F : JFrame} (X : Stand p l e R s m args below meth c T locs cells slots) (v : Option Value) (hv : meth.sig.returnType = none → v = none) (hlk : meth.locks = false)
    (hst : ∀ fs, (∀ (f : JFrame) (acts : List Action), f.method = m → f.locked = none → f.entered = [] → (doReturn e (T.setTop f) acts v).1 = T.setFrames fs) → Steps p.tables e below (T.setTop F) (T.setFrames fs))
    (hQ : Q v T.heap locs) (hc : cells ≤ C) (hn : slots ≤ N) : own_R p.tables e below (own_EW s below Q C N) T F := by
  obtain ⟨fs, hr, hrun, hended, hW, hsame⟩ := X.leave (v := v) hv hlk
  exact ⟨_, hst fs hr, v, locs, hrun, hended, hQ, ReturnedEndW.of_narrow ⟨_, rfl⟩ hW (hsame.mono hc hn)⟩
end OwnKit4


section OwnKit5
variable {p : Program} {l : Launch} {e : Env} {R : Room} {s : State} {m : MethodId} {args : Array Value} {below : List Frame} {meth : Method} {c : Code} {T : State} {locs : List Loc} {cells slots : Nat} {Z : State} {a0 : Array Value} {h : Heap}
end OwnKit5
section OwnKit5b
variable {p : Program} {l : Launch} {e : Env} {R : Room} {s : State} {m : MethodId} {args : Array Value} {below : List Frame} {meth : Method} {c : Code} {T : State} {locs : List Loc} {cells slots : Nat} {Z : State} {a0 : Array Value} {h : Heap}
theorem own_ldR {a : Addr} {k : ClassId} {ty : FieldType} {n j : Int32} {vs : List Value} {d v : Value} (X : Stand p l e R s m args below meth c T locs cells slots) (hx : p.tables.exec = Jvm.exec) (hZ : Z.Warmed39 s.vm) (eT : T.heap = h) (V : Arv Z h a k ty n vs d) (hty : ty.isReference = true) (hj : ¬ j < 0 ∧ j < n) (hv : vs.getD j.toNatClampNeg d = v)
    {g : JFrame} (hg : g.method = m) {rest : List Value} (hs : g.stack = .int j :: .ref a :: rest) (hd : decode c.code g.pc = .ok (.aaload, 1)) :
    ∀ t, Steps p.tables e below (T.setTop { g with pc := g.pc + 1, stack := v :: rest }) t → Steps p.tables e below (T.setTop g) t := by
  obtain ⟨cl, Ar, -, S, N, H, -⟩ := V
  intro t st
  exact X.aaload hx (by rw [eT]; exact Ar.1) (State.isArrayOf_alike hZ.alike Ar.2.1) hty Ar.2.2 (inb_of S hj) (H.at (inb_of S hj) hv) hg hs hd t st
/-- ldc of a class whose mirror is made -/
theorem own_ldcM {own C : String} {index : Nat} {a : Addr} (X : Stand p l e R s m args below meth c T locs cells slots) (hx : p.tables.exec = Jvm.exec) (hZ : Z.Warmed39 s.vm) (hown : s.vm.findClass own = some m.cls) (w : (Jvm.Cond.classLink own index C).before a0 Z = true) (M : Mir Z C a) (eT : T.heap = h)
    {g : JFrame} (hg : g.method = m) (hd : decode c.code g.pc = .ok (.ldc index, 2)) :
    ∃ T', Stand p l e R s m args below meth c T' locs cells slots ∧ T'.heap = h ∧ ∀ t, Steps p.tables e below (T'.setTop { g with pc := g.pc + 2, stack := .ref a :: g.stack }) t → Steps p.tables e below (T.setTop g) t := by
  obtain ⟨cc, kc, m1, m2, m3, -⟩ := M
  obtain ⟨k', q, ek⟩ := hZ.alike.2.2 _ _ m2
  obtain ⟨vm', X', st⟩ := X.ldcMirror hx hown (mv hZ w) (a := a) (by
    have hm : k'.mirror = some a := by rw [ek]; exact m3
    have hf : s.vm.findClass C = some cc := by rw [hZ.alike.findClass]; exact m1
    simp only [Term.eval, hf, q, hm, Option.bind_eq_bind, Option.bind_some, Option.map_some, Option.pure_def]) hg hd
  exact ⟨_, X', eT, st⟩
end OwnKit5b

section OwnKit6
variable {p : Program} {l : Launch} {e : Env} {R : Room} {s : State} {m : MethodId} {args : Array Value} {below : List Frame} {meth : Method} {c : Code} {T : State} {locs : List Loc} {cells slots : Nat} {Z : State} {a0 : Array Value} {h : Heap}
/-- a body's walk, with no word on its class's state -/
abbrev own_CB (l : Launch) (Z : State) (y : MethodName) (bytes : ByteArray) (ml : Nat) (ret : Option FieldType) (rm : Room) (as : Array Value) (h0 : Heap) (Q : Option Value → Heap → List Loc → Prop) : Prop :=
  ∀ (p : Program) (e : Env) (s : State) (m : MethodId) (below : List Frame) (meth : Method) (c : Code) (T : State), Z.Warmed39 s.vm → p.tables.exec = Jvm.exec → c.code = bytes → c.maxLocals = ml → s.vm.findClass y.cls = some m.cls → meth.name = y.name → meth.sig.returnType = ret → meth.locks = false →
      Stand p l e rm s m as below meth c T [] 0 0 → T.heap = h0 → own_R p.tables e below (own_E s below Q rm.cells rm.slots) T (entryFrame m as ml)
theorem own_bodyB {y : MethodName} {bytes : ByteArray} {ml : Nat} {ret : Option FieldType} {rm : Room} {as : Array Value} {h0 : Heap} {Q : Option Value → Heap → List Loc → Prop} {ls : Array Slot}
    (hef : ∀ m, entryFrame m as ml = mkF m 0 ls [])
    (H : ∀ (p : Program) (e : Env) (s : State) (m : MethodId) (below : List Frame) (meth : Method) (c : Code) (T : State), Z.Warmed39 s.vm → p.tables.exec = Jvm.exec → c.code = bytes → c.maxLocals = ml → s.vm.findClass y.cls = some m.cls → meth.name = y.name → meth.sig.returnType = ret → meth.locks = false →
      Stand p l e rm s m as below meth c T [] 0 0 → T.heap = h0 → own_R p.tables e below (own_E s below Q rm.cells rm.slots) T (mkF m 0 ls [])) :
    own_CB l Z y bytes ml ret rm as h0 Q := by
  intro p e s m below meth c T h1 h2 h3 h4 h5 h6 h7 h8 h9 h10
  rw [hef]
  exact H p e s m below meth c T h1 h2 h3 h4 h5 h6 h7 h8 h9 h10
theorem own_backB {y : MethodName} {bytes : ByteArray} {ml : Nat} {ret : Option FieldType} {rm : Room} {as : Array Value} {Q : Option Value → Heap → List Loc → Prop} {len W : Nat}
    (hM : own_CB l Z y bytes ml ret rm as h Q) (hx : p.tables.exec = Jvm.exec) (hZ : Z.Warmed39 s.vm) (hy : plainName y.cls = true)
    (hfind : ∀ U : State, Z.Warmed39 U.vm → ∀ mk, U.methodNamed? y = some mk → ∃ meth c, U.vm.method? mk = some meth ∧ meth.code = some c ∧ c.code = bytes ∧ c.maxLocals = ml ∧ meth.sig.returnType = ret ∧ meth.locks = false)
    (hf : rm.frames + 1 ≤ R.frames) (hl : W + (ml + 11) + rm.locals ≤ R.locals) :
    Back l R p e below s args y len W (fun A a => a = as ∧ A.U.heap = h ∧ A.cells + rm.cells ≤ R.cells ∧ A.slots + rm.slots ≤ R.slots)
      (fun A _ v B => ∃ L, Q v B.U.heap L ∧ B.locs = A.locs ++ L ∧ B.cells = A.cells + rm.cells ∧ B.slots = A.slots + rm.slots) := by
  intro m meth c A g ig mk a X hg hsize hdg hW hn hp
  obtain ⟨U, Ls, c0, s0⟩ := A
  dsimp only [Pt.U, Pt.locs, Pt.cells, Pt.slots] at X hn hp ⊢
  obtain ⟨rfl, hh, hc, hs⟩ := hp
  have hU : Z.Warmed39 U.vm := wtrans hZ X.warmed
  obtain ⟨methY, cY, q1, q2, q3, q4, q5, q6⟩ := hfind U hU mk hn
  obtain ⟨kY, k1, k2⟩ := className_of_methodNamed hn
  obtain ⟨Y, hin⟩ := X.into hg hsize hdg a (R' := rm) q1 q2 q6 (State.plainMethod.of_name (fun k hk => by cases k1.symm.trans hk; rw [k2]; exact hy)) hf (by rw [q4]; omega) hc hs
  obtain ⟨t, st, v, L, r1, r2, r3, ⟨-, r5, r6⟩⟩ := hM p e (U.calling g mk a) mk (.java g :: below) methY cY _ hU hx q3 q4 (findClass_of_methodNamed hn) (name_of_methodNamed hn q1).1 q5 q6 Y hh
  obtain ⟨T', X', -, -, ht⟩ := X.outOf hg hdg r2 r5 r6
  refine ⟨v, ⟨T', Ls ++ L, _, _⟩, X', ⟨L, ?_, rfl, rfl, rfl⟩, ?_⟩
  · rw [ht] at r3; exact r3
  · rw [hin []]
    show Steps p.tables e below _ (T'.setTop { g with pc := g.pc + len, stack := v.toList ++ g.stack })
    rw [← ht]
    rw [← q4] at st
    exact Steps.weaken (mid := [.java g]) st
theorem own_bodyM {y : MethodName} {bytes : ByteArray} {ml : Nat} {ret : Option FieldType} {ws : List Jvm.Cond} {rm : Room} {as : Array Value} {h0 : Heap} {Q : Option Value → Heap → List Loc → Prop} {ls : Array Slot}
    (hy : plainFor y = true) (hef : ∀ m, entryFrame m as ml = mkF m 0 ls [])
    (H : ∀ (p : Program) (e : Env) (s : State) (m : MethodId) (below : List Frame) (meth : Method) (c : Code) (T : State), s.methodNamed? y = some m → Z.Warmed39 s.vm → p.tables.exec = Jvm.exec → c.code = bytes → c.maxLocals = ml → s.vm.findClass y.cls = some m.cls → meth.name = y.name → meth.sig.returnType = ret → meth.locks = false →
      Stand p l e rm s m as below meth c T [] 0 0 → T.heap = h0 → own_R p.tables e below (own_E s below Q rm.cells rm.slots) T (mkF m 0 ls [])) :
    own_C l Z y bytes ml ret ws rm as h0 Q := by
  refine MetFree.of_bodySF hy hisR ?_
  intro p e s m args below meth c s₁ Bd hml0 hP hK
  obtain ⟨rfl, hZ, hh⟩ := hP
  obtain ⟨t, st, v, L, h1, h2, h3, h4⟩ := H p e s m below meth c s₁ Bd.named hZ Bd.exec Bd.bytes hml0 (findClass_of_methodNamed Bd.named) (name_of_methodNamed Bd.named Bd.method).1 Bd.returns Bd.notSynchronized (Stand.of_body Bd) (by rw [← hh, Bd.state]; rfl)
  exact ⟨t, _, castTop (hef m) st, h1, h2, v, L, rfl, h3, h4⟩
theorem own_find {y : MethodName} {bytes : ByteArray} {ml : Nat} {ret : Option FieldType} (w : (Jvm.Cond.code y bytes ml ret).before a0 Z = true) : ∀ U : State, Z.Warmed39 U.vm → ∀ mk, U.methodNamed? y = some mk → ∃ meth c, U.vm.method? mk = some meth ∧ meth.code = some c ∧ c.code = bytes ∧ c.maxLocals = ml ∧ meth.sig.returnType = ret ∧ meth.locks = false := fun U hU mk hn => by
  obtain ⟨meth, c, h1, h2, h3, h4, h5, h6, -⟩ := Cond.code_spec hn (show (Jvm.Cond.code y bytes ml ret).before a0 U = true from mv hU w)
  exact ⟨meth, c, h1, h2, h3, h4, h5, h6⟩
theorem own_findW {y : MethodName} {bytes : ByteArray} {ml : Nat} {ret : Option FieldType} {hs : List (Nat × Nat × Nat × Nat)} (w : (Jvm.Cond.codeWith y bytes ml ret hs).before a0 Z = true) : ∀ U : State, Z.Warmed39 U.vm → ∀ mk, U.methodNamed? y = some mk → ∃ meth c, U.vm.method? mk = some meth ∧ meth.code = some c ∧ c.code = bytes ∧ c.maxLocals = ml ∧ meth.sig.returnType = ret ∧ meth.locks = false := fun U hU mk hn => by
  obtain ⟨mm, meth, c, h0, h1, h2, h3, h4, -, h5, h6, -⟩ := Cond.codeWith_spec w
  have e1 : U.methodNamed? y = some mm := by
    have := State.methodNamed?_setVm (s := Z) hU.alike y
    rw [h0] at this
    exact this
  cases hn.symm.trans e1
  exact ⟨meth, c, by rw [hU.alike.method?]; exact h1, h2, h3, h4, h5, h6⟩
/-- invokeinterface, of a method that the interface itself declares: the callee's Back given -/
theorem own_backF (X : Stand p l e R s m args below meth c T locs cells slots) (hx : p.tables.exec = Jvm.exec) (hZ : Z.Warmed39 s.vm) {own C : String} (hown : s.vm.findClass own = some m.cls) {index count : Nat} {xi y : MethodName}
    (w1 : (Jvm.Cond.methodLink own index xi).before a0 Z = true) (w2 : (Jvm.Cond.declares xi).before a0 Z = true) (wf : (Jvm.Cond.interfaceMethod xi.cls xi.cls xi.name xi.desc).before args s = true) (w5 : (Jvm.Cond.selects C xi y).before a0 Z = true) (w6 : (Jvm.Cond.instanceMethod y).before a0 Z = true) (wp : (Jvm.Cond.publicMethod y).before a0 Z = true) (wu : (Jvm.Cond.unhidden C xi.name xi.desc).before a0 Z = true) (wc : (Jvm.Cond.castable C xi.cls).before a0 Z = true)
    (hy : xi.cls ≠ "java/lang/invoke/MethodHandle" ∧ xi.cls ≠ "java/lang/invoke/VarHandle")
    {kc ks : Nat} {as : Array Value} {Q : Option Value → Heap → List Loc → Prop} {W : Nat} (hK : Back l R p e below s args y 5 W (fun A a => a = as ∧ A.U.heap = h ∧ A.cells + kc ≤ R.cells ∧ A.slots + ks ≤ R.slots) (fun A _ v B => ∃ L, Q v B.U.heap L ∧ B.locs = A.locs ++ L ∧ B.cells = A.cells + kc ∧ B.slots = A.slots + ks)) {b : Addr} (hE : Exa Z h b C)
    {g : JFrame} (hg : g.method = m) (hsize : g.locals.size = c.maxLocals) {argsL rest : List Value} (hlen : ∀ sig, parseMethodDescriptor xi.desc = some sig → argsL.length = sig.parameters.length)
    (hst : g.stack = argsL.reverse ++ .ref b :: rest) (has : (.ref b :: argsL).toArray = as) (hW : 2 * g.monitorRoom + (rest.map fun v => v.category).sum ≤ W) (hd : decode c.code g.pc = .ok (.invokeinterface index count, 5)) (eT : T.heap = h)
    (hc : cells + kc ≤ R.cells) (hs : slots + ks ≤ R.slots) :
    ∃ v T' L, Stand p l e R s m args below meth c T' (locs ++ L) (cells + kc) (slots + ks) ∧ Q v T'.heap L ∧ ∀ t, Steps p.tables e below (T'.setTop { g with pc := g.pc + 5, stack := v.toList ++ rest }) t → Steps p.tables e below (T.setTop g) t := by
  obtain ⟨cq, kq, qa, qb, qc⟩ := isOf hZ eT hE
  obtain ⟨v, vm1, ⟨T1, L1, k1, n1⟩, -, X1, ⟨Lc, hQ, l1, y1, z1⟩, st⟩ := X.interfaceBack hx (xi := xi) (y := y) hown (mvT hZ w1) (mvT hZ w2) wf (mvT hZ w5) (mvT hZ w6) (mvT hZ wp) (mvT hZ wu) (mvT hZ wc) hy hK qa qb qc hg hsize (Steps.refl _) (argsL := argsL) (rest := rest) hlen hst hW hd (fun _ _ => ⟨has, eT, hc, hs⟩)
  dsimp only [Pt.U, Pt.locs, Pt.cells, Pt.slots] at X1 l1 y1 z1 st hQ
  subst l1 y1 z1
  exact ⟨v, T1, Lc, X1, hQ, fun _ k => st.trans k⟩
/-- invokeinterface that lands in a default of a superinterface -/
theorem own_backFD (X : Stand p l e R s m args below meth c T locs cells slots) (hx : p.tables.exec = Jvm.exec) (hZ : Z.Warmed39 s.vm) {own C J : String} (hown : s.vm.findClass own = some m.cls) {index count : Nat} {xi y : MethodName}
    (w1 : (Jvm.Cond.methodLink own index xi).before a0 Z = true) (w2 : (Jvm.Cond.declares ⟨J, xi.name, xi.desc⟩).before a0 Z = true) (w2' : (Jvm.Cond.publicMethod ⟨J, xi.name, xi.desc⟩).before a0 Z = true) (wf : (Jvm.Cond.interfaceMethod xi.cls J xi.name xi.desc).before args s = true) (hxo : xi.cls ≠ J) (w5 : (Jvm.Cond.landsInDefault C xi y).before a0 Z = true) (w6 : (Jvm.Cond.instanceMethod y).before a0 Z = true) (wp : (Jvm.Cond.publicMethod y).before a0 Z = true) (wc : (Jvm.Cond.castable C xi.cls).before a0 Z = true)
    (hy : xi.cls ≠ "java/lang/invoke/MethodHandle" ∧ xi.cls ≠ "java/lang/invoke/VarHandle")
    {kc ks : Nat} {as : Array Value} {Q : Option Value → Heap → List Loc → Prop} {W : Nat} (hK : Back l R p e below s args y 5 W (fun A a => a = as ∧ A.U.heap = h ∧ A.cells + kc ≤ R.cells ∧ A.slots + ks ≤ R.slots) (fun A _ v B => ∃ L, Q v B.U.heap L ∧ B.locs = A.locs ++ L ∧ B.cells = A.cells + kc ∧ B.slots = A.slots + ks)) {b : Addr} (hE : Exa Z h b C)
    {g : JFrame} (hg : g.method = m) (hsize : g.locals.size = c.maxLocals) {argsL rest : List Value} (hlen : ∀ sig, parseMethodDescriptor xi.desc = some sig → argsL.length = sig.parameters.length)
    (hst : g.stack = argsL.reverse ++ .ref b :: rest) (has : (.ref b :: argsL).toArray = as) (hW : 2 * g.monitorRoom + (rest.map fun v => v.category).sum ≤ W) (hd : decode c.code g.pc = .ok (.invokeinterface index count, 5)) (eT : T.heap = h)
    (hc : cells + kc ≤ R.cells) (hs : slots + ks ≤ R.slots) :
    ∃ v T' L, Stand p l e R s m args below meth c T' (locs ++ L) (cells + kc) (slots + ks) ∧ Q v T'.heap L ∧ ∀ t, Steps p.tables e below (T'.setTop { g with pc := g.pc + 5, stack := v.toList ++ rest }) t → Steps p.tables e below (T.setTop g) t := by
  obtain ⟨cq, kq, qa, qb, qc⟩ := isOf hZ eT hE
  obtain ⟨v, vm1, ⟨T1, L1, k1, n1⟩, -, X1, ⟨Lc, hQ, l1, y1, z1⟩, st⟩ := X.interfaceBackUpD hx (xi := xi) (y := y) (J := J) hown (mvT hZ w1) (mvT hZ w2) (mvT hZ w2') wf hxo (mvD hZ w5) (mvT hZ w6) (mvT hZ wp) (mvT hZ wc) hy hK qa qb qc hg hsize (Steps.refl _) (argsL := argsL) (rest := rest) hlen hst hW hd (fun _ _ => ⟨has, eT, hc, hs⟩)
  dsimp only [Pt.U, Pt.locs, Pt.cells, Pt.slots] at X1 l1 y1 z1 st hQ
  subst l1 y1 z1
  exact ⟨v, T1, Lc, X1, hQ, fun _ k => st.trans k⟩
/-- invokevirtual by a class that inherits the method -/
theorem own_backVU (X : Stand p l e R s m args below meth c T locs cells slots) (hx : p.tables.exec = Jvm.exec) (hZ : Z.Warmed39 s.vm) {own C owner : String} (hown : s.vm.findClass own = some m.cls) {index : Nat} {x y : MethodName}
    (w1 : (Jvm.Cond.methodLink own index x).before a0 Z = true) (wsm : (Jvm.Cond.sameMethod x.cls owner x.name x.desc).before a0 Z = true) (w2 : (Jvm.Cond.declares ⟨owner, x.name, x.desc⟩).before a0 Z = true) (ho : owner ≠ "java/lang/invoke/MethodHandle" ∧ owner ≠ "java/lang/invoke/VarHandle") (w5 : (Jvm.Cond.selects C x y).before a0 Z = true) (w6 : (Jvm.Cond.instanceMethod y).before a0 Z = true)
    {kc ks : Nat} {as : Array Value} {Q : Option Value → Heap → List Loc → Prop} {W : Nat} (hK : Back l R p e below s args y 3 W (fun A a => a = as ∧ A.U.heap = h ∧ A.cells + kc ≤ R.cells ∧ A.slots + ks ≤ R.slots) (fun A _ v B => ∃ L, Q v B.U.heap L ∧ B.locs = A.locs ++ L ∧ B.cells = A.cells + kc ∧ B.slots = A.slots + ks)) {b : Addr} (hE : Exa Z h b C)
    {g : JFrame} (hg : g.method = m) (hsize : g.locals.size = c.maxLocals) {argsL rest : List Value} (hlen : ∀ sig, parseMethodDescriptor x.desc = some sig → argsL.length = sig.parameters.length)
    (hst : g.stack = argsL.reverse ++ .ref b :: rest) (has : (.ref b :: argsL).toArray = as) (hW : 2 * g.monitorRoom + (rest.map fun v => v.category).sum ≤ W) (hd : decode c.code g.pc = .ok (.invokevirtual index, 3)) (eT : T.heap = h)
    (hc : cells + kc ≤ R.cells) (hs : slots + ks ≤ R.slots) :
    ∃ v T' L, Stand p l e R s m args below meth c T' (locs ++ L) (cells + kc) (slots + ks) ∧ Q v T'.heap L ∧ ∀ t, Steps p.tables e below (T'.setTop { g with pc := g.pc + 3, stack := v.toList ++ rest }) t → Steps p.tables e below (T.setTop g) t := by
  obtain ⟨cq, kq, qa, qb, qc⟩ := isOf hZ eT hE
  obtain ⟨v, vm1, ⟨T1, L1, k1, n1⟩, -, X1, ⟨Lc, hQ, l1, y1, z1⟩, st⟩ := X.virtualBackUp hx (x := x) (y := y) (owner := owner) hown (mvT hZ w1) (mvT hZ wsm) (mvT hZ w2) ho (mvT hZ w5) (mvT hZ w6) hK qa qc hg hsize (Steps.refl _) (argsL := argsL) (rest := rest) hlen hst hW hd (fun _ _ => ⟨has, eT, hc, hs⟩)
  dsimp only [Pt.U, Pt.locs, Pt.cells, Pt.slots] at X1 l1 y1 z1 st hQ
  subst l1 y1 z1
  exact ⟨v, T1, Lc, X1, hQ, fun _ k => st.trans k⟩
/-- a private constructor of a nest mate -/
theorem own_backIN (X : Stand p l e R s m args below meth c T locs cells slots) (hx : p.tables.exec = Jvm.exec) (hZ : Z.Warmed39 s.vm) {own host : String} (hown : s.vm.findClass own = some m.cls) {index : Nat} {y : MethodName} {bytes : ByteArray} {maxL : Nat}
    (hy1 : y.name = "<init>") (w1 : (Jvm.Cond.methodLinkNest own index y host).before a0 Z = true) (w2 : (Jvm.Cond.instanceMethod y).before a0 Z = true) (w4 : (Jvm.Cond.code y bytes maxL none).before a0 Z = true) (hy : y.cls ≠ "java/lang/invoke/MethodHandle" ∧ y.cls ≠ "java/lang/invoke/VarHandle")
    {W kc ks : Nat} {as : Array Value} {Q : Option Value → Heap → List Loc → Prop} (hK : own_B l R p e below s args y W as h kc ks Q)
    {g : JFrame} (hg : g.method = m) (hsize : g.locals.size = c.maxLocals) {a : Addr} {argsL rest : List Value} (hlen : ∀ sig, parseMethodDescriptor y.desc = some sig → argsL.length = sig.parameters.length)
    (hst : g.stack = argsL.reverse ++ .ref a :: rest) (has : (.ref a :: argsL).toArray = as) (hW : 2 * g.monitorRoom + (rest.map fun v => v.category).sum ≤ W) (hd : decode c.code g.pc = .ok (.invokespecial index, 3)) (eT : T.heap = h)
    (hc : cells + kc ≤ R.cells) (hs : slots + ks ≤ R.slots) :
    ∃ v T' L, Stand p l e R s m args below meth c T' (locs ++ L) (cells + kc) (slots + ks) ∧ Q v T'.heap L ∧ ∀ t, Steps p.tables e below (T'.setTop { g with pc := g.pc + 3, stack := v.toList ++ rest }) t → Steps p.tables e below (T.setTop g) t := by
  obtain ⟨v, vm1, ⟨T1, L1, k1, n1⟩, -, X1, ⟨Lc, hQ, l1, y1, z1⟩, st⟩ := X.specialBackNest hx (y := y) hy1 hown (Cond.methodLinkNest_wide hZ w1 :) (mvT hZ w2) (mvT hZ w4) hy hK hg hsize (Steps.refl _) (a := a) (argsL := argsL) (rest := rest) hlen hst hW hd (fun _ _ => ⟨has, eT, hc, hs⟩)
  dsimp only [Pt.U, Pt.locs, Pt.cells, Pt.slots] at X1 l1 y1 z1 st hQ
  subst l1 y1 z1
  exact ⟨v, T1, Lc, X1, hQ, fun _ k => st.trans k⟩
/-- no instance: the asked class is known by its instantiable word -/
theorem own_nsRoot {O K : String} {n : Nat} (w : (Jvm.Cond.noSuperclass O).before a0 Z = true) (wk : (Jvm.Cond.instantiable K n).before a0 Z = true) (hn : O ≠ K) : NS Z O K := by
  obtain ⟨c, k, h1, h2, h3, -, -⟩ := Cond.noSuperclass_spec w
  obtain ⟨t, kt, g1, -⟩ := Cond.instantiable_spec wk
  have ne := ids_ne h1 g1 hn
  refine ⟨c, t, h1, g1, fun fuel => ?_⟩
  cases fuel with
  | zero => rfl
  | succ f => simp [Vm.isSubclassAux, ne, h2, h3]
theorem own_nsNo {C S K : String} {n : Nat} (w : (Jvm.Cond.superclass C S).before a0 Z = true) (wk : (Jvm.Cond.instantiable K n).before a0 Z = true) (N : NS Z C K) (hn : C ≠ K) : ∃ c t, Z.vm.findClass C = some c ∧ Z.vm.findClass K = some t ∧ Z.vm.assignable c t = false := by
  obtain ⟨c, t, h0, g0, n3⟩ := N
  obtain ⟨p, k, kp, h1, h2, h3, h4, h5, -, h7⟩ := Cond.superclass_spec h0 w
  obtain ⟨t', kt, g1, g2, g3, g4, -⟩ := Cond.instantiable_spec wk
  cases g0.symm.trans g1
  have g7 : kt.isInterface = false := by simp only [Bool.or_eq_false_iff] at g4; exact g4.1
  have ne := ids_ne h0 g0 hn
  refine ⟨c, t, h0, g0, ?_⟩
  show Z.vm.assignableAux (255 + 1) c t = false
  simp [Vm.assignableAux, ne, h2, g2, h5, g3, g7, Vm.isSubclass, n3]
theorem own_stol {k : ClassId} {cl : Cell} {b : Addr} {ty : FieldType} {C : String} (A : Arr Z h b cl ty) (q : cl.cls = k) (V : Ovr Z k C) : ∀ ys : List Addr, (∀ y ∈ ys, Ins Z h y C true) → StoL Z h b (ys.map Value.ref)
  | [], _ => trivial
  | y :: ys, H => ⟨Sto.ofV A q V (H y (by simp)), own_stol A q V ys (fun z hz => H z (by simp [hz]))⟩
theorem own_rng (d : Value) : ∀ (vs : List Value), (List.range vs.length).map (fun i => vs.getD (0 + i) d) = vs := by
  intro vs
  apply List.ext_getElem
  · simp
  · intro i h1 h2
    simp at h1
    simp [List.getD_eq_getElem?_getD, List.getElem?_eq_getElem h2]
end OwnKit6
section OwnKit6b
variable {p : Program} {l : Launch} {e : Env} {R : Room} {s : State} {m : MethodId} {args : Array Value} {below : List Frame} {meth : Method} {c : Code} {T : State} {locs : List Loc} {cells slots : Nat} {Z : State} {h : Heap}
theorem own_stI {a : Addr} {k : ClassId} {n j : Int32} {vs : List Value} {d : Value} {x : Int32} (X : Stand p l e R s m args below meth c T locs cells slots) (hx : p.tables.exec = Jvm.exec) (hZ : Z.Warmed39 s.vm) (eT : T.heap = h) (V : Arv Z h a k .int n vs d) (hj : ¬ j < 0 ∧ j < n) (i : Nat) (hji : j.toNatClampNeg = i) (hi : i < vs.length)
    {g : JFrame} (hg : g.method = m) {rest : List Value} (hs : g.stack = .int x :: .int j :: .ref a :: rest) (hd : decode c.code g.pc = .ok (.iastore, 1)) :
    ∃ T' h', Stand p l e R s m args below meth c T' (locs ++ [⟨a, j.toNatClampNeg⟩]) cells slots ∧ T'.heap = h' ∧ Wr h h' a j.toNatClampNeg (.int x) ∧ Arv Z h' a k .int n (vs.set i (.int x)) d ∧ ∀ t, Steps p.tables e below (T'.setTop { g with pc := g.pc + 1, stack := rest }) t → Steps p.tables e below (T.setTop g) t := by
  obtain ⟨cl, Ar, q, S, N, H, G⟩ := V
  obtain ⟨T', h', X', e', W, st⟩ := stI X hx hZ eT Ar (inb_of S hj) hg hs hd
  exact ⟨T', h', X', e', W, Arv.set Ar q S N H G rfl W i hji hi, st⟩
theorem own_nd {a b : Addr} {n : Nat} (h1 : @LT.lt Nat instLTNat a n) (h2 : @LE.le Nat instLENat n b) : a ≠ b := fun q => Nat.lt_irrefl _ (Nat.lt_of_lt_of_le h1 (q ▸ h2))
end OwnKit6b
theorem own_ride {Z s : State} {a0 args : Array Value} (hZ : Z.Warmed39 s.vm) {ref owner name desc : String} (h : (Jvm.Cond.interfaceMethod ref owner name desc).before a0 Z = true) : (Jvm.Cond.interfaceMethod ref owner name desc).before args s = true := Jvm.Free.ULB.iface_rides hZ.alike h

section OwnLam
open Jvm.Free.Fw Jvm.Free.Fn Jvm.Free.HMW Jvm.Lambda
def own_S : Lambda.Shape := Lambda.Shape.mk "java/util/function/Consumer" "accept" (MethodDescriptor.mk ([(FieldType.object "java/lang/Object")] : List FieldType) (Option.none : Option FieldType)) ([(FieldType.object "com/example/zellwerk/zellwerk/service/Holdings")] : List FieldType) 5 "com/example/zellwerk/zellwerk/service/Holdings" "lambda$new$0" (MethodDescriptor.mk ([(FieldType.object "com/example/zellwerk/zellwerk/model/Area")] : List FieldType) (Option.none : Option FieldType)) false (MethodDescriptor.mk ([(FieldType.object "com/example/zellwerk/zellwerk/model/Area")] : List FieldType) (Option.none : Option FieldType))
def own_lamN : MethodName := ⟨"com/example/zellwerk/zellwerk/service/Holdings", "lambda$new$0", "(Lcom/example/zellwerk/zellwerk/model/Area;)V"⟩
def own_hiN : MethodName := ⟨"com/example/zellwerk/zellwerk/service/Holdings", "<init>", "(Lcom/example/zellwerk/zellwerk/model/Cell;)V"⟩
def own_accN : MethodName := ⟨"java/util/function/Consumer", "accept", "(Ljava/lang/Object;)V"⟩
def own_fB : ByteArray := ⟨#[42, 180, 0, 15, 43, 192, 0, 19, 182, 0, 25, 177]⟩
theorem own_f0 : decode own_fB 0 = .ok (.aload_n 0, 1) := by decide +kernel
theorem own_f1 : decode own_fB 1 = .ok (.getfield 15, 3) := by decide +kernel
theorem own_f4 : decode own_fB 4 = .ok (.aload_n 1, 1) := by decide +kernel
theorem own_f5 : decode own_fB 5 = .ok (.checkcast 19, 3) := by decide +kernel
theorem own_f8 : decode own_fB 8 = .ok (.invokevirtual 25, 3) := by decide +kernel
theorem own_f11 : decode own_fB 11 = .ok (.return_, 1) := by decide +kernel
def own_D : ClassFile := (own_S.file "com/example/zellwerk/zellwerk/service/Holdings").getD { minorVersion := 0, majorVersion := 0, constantPool := #[], accessFlags := 0, thisClass := 0, superClass := 0, interfaces := #[], fields := #[], methods := #[], attributes := #[] }
def own_fw : Method := ((layoutMethods own_D).bind (·[1]?)).getD default
def own_ly : Array Field × Array FieldType × Array FieldType := (layoutFields own_D 0).getD (#[], #[], #[])
theorem own_fileIs : own_S.file "com/example/zellwerk/zellwerk/service/Holdings" = some own_D := by
  have h : (own_S.file "com/example/zellwerk/zellwerk/service/Holdings").isSome = true := by decide +kernel
  obtain ⟨x, hx⟩ := Option.isSome_iff_exists.mp h
  simp [own_D, hx]
theorem own_secIs : ∀ ms, layoutMethods own_D = some ms → ms[1]? = some own_fw := by
  intro ms hms
  have h : ((layoutMethods own_D).bind (·[1]?)).isSome = true := by decide +kernel
  obtain ⟨x, hx⟩ := Option.isSome_iff_exists.mp h
  have hf : own_fw = x := by simp [own_fw, hx]
  rw [hms] at hx
  rw [hf]
  exact hx
theorem own_lyIs : layoutFields own_D 0 = some own_ly := by
  have h : (layoutFields own_D 0).isSome = true := by decide +kernel
  obtain ⟨x, hx⟩ := Option.isSome_iff_exists.mp h
  simp [own_ly, hx]
theorem own_fCode : (own_fw.code.map fun c => (c.code.data, c.maxLocals)) = some (own_fB.data, 2) := by decide +kernel
theorem own_fFlags : (own_fw.accessFlags, own_fw.name, own_fw.sig.returnType) = (0x0001, "accept", (none : Option FieldType)) := by decide +kernel
theorem own_eM : own_D.constantPool[25]? = some (.methodref 21 24) ∧ own_D.constantPool.className? 21 = some "com/example/zellwerk/zellwerk/service/Holdings" ∧ own_D.constantPool.nameAndType? 24 = some ("lambda$new$0", "(Lcom/example/zellwerk/zellwerk/model/Area;)V") := by decide +kernel
theorem own_eC : own_D.constantPool[21]? = some (.class_ 20) ∧ own_D.constantPool.string? 20 = some "com/example/zellwerk/zellwerk/service/Holdings" ∧ 21 ≠ own_D.thisClass := by decide +kernel
theorem own_eA : own_D.constantPool[19]? = some (.class_ 18) ∧ own_D.constantPool.string? 18 = some "com/example/zellwerk/zellwerk/model/Area" ∧ 19 ≠ own_D.thisClass := by decide +kernel
theorem own_eF : own_D.constantPool[15]? = some (.fieldref 2 14) ∧ own_D.constantPool.nameAndType? 14 = some ("arg$1", "Lcom/example/zellwerk/zellwerk/service/Holdings;") ∧ own_ly.1.findIdx? (·.name == "arg$1") = some 0 ∧ (own_ly.1[0]?).map (fun f => (f.isStatic, f.slot)) = some (false, 0) := by decide +kernel
theorem own_lyT : own_ly.2.1 = #[.object "com/example/zellwerk/zellwerk/service/Holdings"] := by decide +kernel
/-- the made class, as this claim's call needs it -/
def own_Mk (s : State) (cK : ClassId) : Prop := ∃ (k tk : Class) (file : ClassFile) (methk : Method) (ck : Code) (toy ar : ClassId) (t : MethodId) (g0 : Field),
  s.vm.classes[cK]? = some k ∧ k.name = "com/example/zellwerk/zellwerk/service/Holdings$$Lambda" ∧ k.cf = some file ∧ file.constantPool[25]? = some (.methodref 21 24) ∧
  s.vm.method? ⟨cK, 1⟩ = some methk ∧ methk.code = some ck ∧ ck.code = own_fB ∧ ck.maxLocals = 2 ∧ methk.locks = false ∧ methk.sig.returnType = none ∧
  s.vm.findClass "com/example/zellwerk/zellwerk/service/Holdings" = some toy ∧ s.vm.classes[toy]? = some tk ∧ tk.isInterface = false ∧ s.methodNamed? own_lamN = some t ∧
  s.vm.methodReady cK 25 t ∧ s.vm.classReady cK 21 toy ∧ s.vm.fieldReady cK 15 cK g0 ∧ g0.isStatic = false ∧ g0.slot = 0 ∧ s.vm.findClass "com/example/zellwerk/zellwerk/model/Area" = some ar ∧ s.vm.classReady cK 19 ar ∧
  k.instanceTypes = #[.object "com/example/zellwerk/zellwerk/service/Holdings"] ∧ k.kind = .ordinary ∧ FnX own_accN cK ⟨cK, 1⟩ s
/-- the site, linked -/
def own_Si (s : State) (cK : ClassId) : Prop := ∃ (m : MethodId) (k : Class) (cf : ClassFile) (i0 p0 bsm nt : Nat) (name desc : String) (sig : MethodDescriptor), s.methodNamed? own_hiN = some m ∧ s.vm.classes[m.cls]? = some k ∧ k.cf = some cf ∧ (k.callSites.find? fun y => y.1 == m.idx && y.2.1 == 78) = some (i0, p0, .makes cK) ∧
  cf.constantPool[49]? = some (.invokeDynamic bsm nt) ∧ cf.constantPool.nameAndType? nt = some (name, desc) ∧ parseLongMethodDescriptor desc = some sig ∧ sig.parameters.length = 1
theorem own_lam {Z : State} {a0 : Array Value} {n6 : Nat} (w : (Jvm.Cond.lambdaSite own_hiN 78 49 own_S).before a0 Z = true) (wO : (Jvm.Cond.instantiable "java/lang/Object" 0).before a0 Z = true) (wI : (Jvm.Cond.interfaceMethod "java/util/function/Consumer" "java/util/function/Consumer" "accept" "(Ljava/lang/Object;)V").before a0 Z = true)
    (wL : (Jvm.Cond.instanceMethod own_lamN).before a0 Z = true) (wA : (Jvm.Cond.instantiable "com/example/zellwerk/zellwerk/model/Area" n6).before a0 Z = true) : ∃ cK, own_Mk Z cK ∧ own_Si Z cK := by
  obtain ⟨cK, one, hat⟩ := Cond.lambdaSite_spec w
  obtain ⟨m, kS, cfS, i0, p0, lk, hm, hkS, hcfS, hshape, -, hfind, hmade, hcan, hlk⟩ := State.lambdaAt?_spec hat
  obtain ⟨rfl, rfl, -⟩ : lk = .makes cK ∧ one = none ∧ own_S.captured ≠ [] := by
    rcases hlk with ⟨a, cell, -, -, h, -⟩ | h
    · exact absurd h (by decide)
    · exact h
  obtain ⟨kS', hkS', hnameS⟩ := className_of_methodNamed hm
  cases hkS.symm.trans hkS'
  replace hnameS : kS.name = "com/example/zellwerk/zellwerk/service/Holdings" := hnameS
  obtain ⟨bsm, nt, desc, site, hc, hnt, hsite, hpar⟩ := Lambda.shapeOf?_site hshape
  have hms := (Option.isSome_iff_exists.mp (show (layoutMethods own_D).isSome = true from by decide +kernel))
  obtain ⟨ms, hms⟩ := hms
  have ff := own_fFlags
  simp only [Prod.mk.injEq] at ff
  have hF := (of_lambdaAt (xi := own_accN) hat rfl rfl (by decide +kernel) wI own_fileIs hms (own_secIs ms hms) ff.1).1
  obtain ⟨ar, kar, har, -⟩ := Cond.instantiable_spec wA
  obtain ⟨tL, methL, hnL, -⟩ := Cond.instanceMethod_spec wL
  obtain ⟨oC, oK, hoC, hoK, -, -, -, hoS⟩ := Cond.instantiable_spec wO
  refine ⟨cK, ?_, m, kS, cfS, i0, p0, bsm, nt, _, desc, site, hm, hkS, hcfS, hfind, hc, hnt, parseLong_of_parse hsite, by rw [hpar]; rfl⟩
  obtain ⟨dk', k, ok, tk, file, cf, object, iface, toy, lay, methods, target, found, hd', hk, hfile, hcf, hobj, -, hok, hlay, hms', ht, htk, hg, -, hrec, -, -, -, hitf, hpool, hmeth, hfields, hty, hres, -⟩ := isMade_spec hmade
  cases hkS.symm.trans hd'
  rw [hnameS, own_fileIs] at hcf
  cases hcf
  cases hoC.symm.trans hobj
  cases hoK.symm.trans hok
  have hok0 : oK.instanceTypes = #[] := Array.eq_empty_of_size_eq_zero hoS
  rw [hoS, own_lyIs] at hlay
  cases hlay
  obtain ⟨b, hb, hsame⟩ := hmeth 1 own_fw (own_secIs methods hms')
  simp only [sameMethod, Bool.and_eq_true, decide_eq_true_eq] at hsame
  obtain ⟨⟨hn, -, hsig, hfl⟩, hcode⟩ := hsame
  have fc := own_fCode
  obtain ⟨g0, hg0, hp0⟩ := Option.map_eq_some_iff.mp own_eF.2.2.2
  simp only [Prod.mk.injEq] at hp0
  replace ht : Z.vm.findClass "com/example/zellwerk/zellwerk/service/Holdings" = some toy := ht
  have htt : target = tL := by
    have q := look_of_named (U := Z) (y := own_lamN) hnL ⟨by decide, by decide⟩ toy tk ht htk
    have q2 : ((methodIn toy "lambda$new$0" "(Lcom/example/zellwerk/zellwerk/model/Area;)V" tk.isInterface none).ask { classPath := fun _ => none } Z.vm).1 = .ok target := hg
    exact Except.ok.inj (q2.symm.trans q)
  subst htt
  cases hfc : own_fw.code with
  | none => rw [hfc] at fc; cases fc
  | some x =>
    cases hbc : b.code with
    | none => simp [hfc, hbc] at hcode
    | some y =>
      simp only [hfc, hbc, Bool.and_eq_true, decide_eq_true_eq] at hcode
      simp only [hfc, Option.map_some, Option.some.injEq, Prod.mk.injEq] at fc
      refine ⟨k, tk, file, b, y, toy, ar, target, g0, hk, by rw [hrec.1, hnameS]; rfl, hfile, by rw [hpool.2.1]; exact own_eM.1, by simp [Vm.method?, hk, hb], hbc, ?_, by rw [← hcode.1.1.1.1.2.1]; exact fc.2, ?_, by rw [← hsig]; exact ff.2.2, ht, htk, hitf, hnL,
        ⟨k, hk, hres 25 _ (resolvedOf_method own_eM.1 own_eM.2.1 ht htk own_eM.2.2 hg)⟩, ⟨k, hk, hres 21 _ (resolvedOf_class own_eC.1 own_eC.2.2 own_eC.2.1 ht)⟩,
        ⟨k, 0, k, hk, hres 15 _ (resolvedOf_field own_eF.1 own_eF.2.1 own_eF.2.2.1), hk, hfields 0 _ hg0⟩, hp0.1, hp0.2, har, ⟨k, hk, hres 19 _ (resolvedOf_class own_eA.1 own_eA.2.2 own_eA.2.1 har)⟩, by rw [hty.1, hok0, own_lyT]; rfl, hrec.2.1, hF⟩
      · rw [← hcode.1.1.1.1.2.2]
        exact ByteArray.ext fc.1
      · simp [Method.locks, Method.isSynchronized, ← hfl, ff.1, hasFlag, Acc.synchronized]
end OwnLam

section OwnLam2
open Jvm.Free.Fw Jvm.Free.Fn Jvm.Free.HMW Jvm.Lambda
variable {p : Program} {l : Launch} {e : Env} {R : Room} {s : State} {m : MethodId} {args : Array Value} {below : List Frame} {meth : Method} {c : Code} {T : State} {locs : List Loc} {cells slots : Nat} {Z : State} {a0 : Array Value} {h : Heap}
theorem own_res {vm' : Vm} (hW : Z.Warmed39 vm') {d : ClassId} {k k' : Class} (hk : Z.vm.classes[d]? = some k) (hk' : vm'.classes[d]? = some k') {i : Nat} {r : Resolved} (h : k.resolved[i]? = some (some r)) : k'.resolved[i]? = some (some r) := by
  obtain ⟨k2, q, -, -, q2, -⟩ := hW.2.2.2 d k hk
  cases hk'.symm.trans q
  rcases q2 i with h1 | ⟨h1, -⟩
  · rw [h1]; exact h
  · rw [h] at h1; cases h1
theorem own_Mk.warm {cK : ClassId} (hW : Z.Warmed39 s.vm) (M : own_Mk Z cK) : own_Mk s cK := by
  obtain ⟨k, tk, file, methk, ck, toy, ar, t, g0, h1, h2, h3, h4, h5, h6, h7, h8, h9, h10, h11, h12, h13, h14, ⟨r1, r2, r3⟩, ⟨u1, u2, u3⟩, ⟨f1, fj, f2, f3, f4, f5, f6⟩, h18, h19, h20, ⟨x1, x2, x3⟩, h22, h23, h24⟩ := M
  have hA := hW.alike
  obtain ⟨k', q1, e1⟩ := hA.2.2 _ _ h1
  obtain ⟨tk', q2, e2⟩ := hA.2.2 _ _ h12
  cases h1.symm.trans r2; cases h1.symm.trans u2; cases h1.symm.trans f3; cases h1.symm.trans x2; cases h1.symm.trans f5
  have hn : s.methodNamed? own_lamN = some t := by
    have := State.methodNamed?_setVm (s := Z) hA own_lamN
    rw [h14] at this
    exact this
  refine ⟨k', tk', file, methk, ck, toy, ar, t, g0, q1, by rw [e1]; exact h2, by rw [e1]; exact h3, h4, by rw [hA.method?]; exact h5, h6, h7, h8, h9, h10, by rw [hA.findClass]; exact h11, q2, by rw [e2]; exact h13, hn, ⟨k', q1, own_res hW h1 q1 r3⟩, ⟨k', q1, own_res hW h1 q1 u3⟩, ⟨k', fj, k', q1, own_res hW h1 q1 f4, q1, by rw [e1]; exact f6⟩, h18, h19, by rw [hA.findClass]; exact h20, ⟨k', q1, own_res hW h1 q1 x3⟩, by rw [e1]; exact h22, by rw [e1]; exact h23, ?_⟩
  obtain ⟨kF, mF, y1, y2, y3, y4, y5⟩ := h24
  obtain ⟨kF', z1, -⟩ := hA.2.2 _ _ y1
  refine ⟨kF', mF, z1, by rw [hA.method?]; exact y2, y3, y4, fun r0 r g1 g2 => ?_⟩
  have g1' : Z.methodNamed? own_accN = some r0 := by
    have := State.methodNamed?_setVm (s := Z) hA own_accN
    rw [← this]; exact g1
  obtain ⟨b1, b2, b3⟩ := y5 r0 r g1' (by rw [← hA.method?]; exact g2)
  exact ⟨by rw [hA.assignable]; exact b1, by rw [hA.selectMethod]; exact b2, by simp only [hA.superclasses, hA.declaredIn]; exact b3⟩
theorem own_Si.warm {cK : ClassId} (hW : Z.Warmed39 s.vm) (M : own_Si Z cK) : own_Si s cK := by
  obtain ⟨m, k, cf, i0, p0, bsm, nt, name, desc, sig, h1, h2, h3, h4, h5⟩ := M
  obtain ⟨k', q1, e1⟩ := hW.alike.2.2 _ _ h2
  have hn : s.methodNamed? own_hiN = some m := by
    have := State.methodNamed?_setVm (s := Z) hW.alike own_hiN
    rw [h1] at this
    exact this
  exact ⟨m, k', cf, i0, p0, bsm, nt, name, desc, sig, hn, q1, by rw [e1]; exact h3, by rw [e1]; exact h4, h5⟩
/-- the object that the site makes -/
def own_Fo (h : Heap) (f : Addr) (cK : ClassId) (b : Addr) : Prop := h[f]? = some { cls := cK, slots := #[.ref b], vm := .none }
theorem own_Fo.keep {h h' : Heap} {ws : List Addr} {f b : Addr} {cK : ClassId} (F : own_Fo h f cK b) (K : Keep h h' ws) (q : f ∉ ws) : own_Fo h' f cK b := K.2.1 _ _ F q
theorem own_site (X : Stand p l e R s m args below meth c T locs cells slots) (hx : p.tables.exec = Jvm.exec) (hZ : Z.Warmed39 s.vm) {cK : ClassId} (M : own_Mk Z cK) (S : own_Si Z cK) (hn : s.methodNamed? own_hiN = some m) (eT : T.heap = h) {b : Addr}
    {g : JFrame} (hg : g.method = m) (hsize : g.locals.size = c.maxLocals) (hpc : g.pc = 78) {rest : List Value} (hst : g.stack = .ref b :: rest) (hd : decode c.code g.pc = .ok (.invokedynamic 49, 5)) (hw : 2 * g.monitorRoom + (g.stack.map fun v => v.category).sum + 3072 ≤ R.locals) (hc : cells + 1 ≤ R.cells) (hs : slots + 1 ≤ R.slots) :
    ∃ T' h', Stand p l e R s m args below meth c T' locs (cells + 1) (slots + 1) ∧ T'.heap = h' ∧ Ext h h' ∧ own_Fo h' h.size cK b ∧ ∀ t, Steps p.tables e below (T'.setTop { g with pc := g.pc + 5, stack := .ref h.size :: rest }) t → Steps p.tables e below (T.setTop g) t := by
  obtain ⟨k, tk, file, methk, ck, toy, ar, t, g0, h1, -, -, -, -, -, -, -, -, -, -, -, -, -, -, -, -, -, -, -, -, h22, h23, -⟩ := M.warm hZ
  obtain ⟨m', kS, cf, i0, p0, bsm, nt, name, desc, sig, s1, s2, s3, s4, s5, s6, s7, s8⟩ := S.warm hZ
  cases hn.symm.trans s1
  have hE : ((k.instanceTypes.toList.zip [Value.ref b]).map fun (t, v) => narrow t v) = [.ref b] := by rw [h22]; rfl
  obtain ⟨X', st⟩ := X.lambdaMakes hx hg hsize hd (vals := [.ref b]) (rest := rest) s2 (by rw [hpc]; exact s4) s3 s5 s6 s7 (by rw [s8]; rfl) hst h1
    (by rw [X.admits.platform]; exact hw) hc (by rw [hE]; exact hs)
    (fun i v hv => by
      rw [hE] at hv
      match i, hv with
      | 0, hv => simp at hv; subst hv; simp [State.fitsSlot, State.slotType?, h1, h23, h22, fits]
      | k + 1, hv => simp at hv)
  rw [hE] at X' st
  subst eT
  refine ⟨_, _, X', rfl, ?_, ?_, st⟩
  · exact ext_of fun a q => Array.getElem?_push_lt q |>.trans (Array.getElem?_eq_getElem q).symm
  · exact State.heap_pushCell_size _ _
/-- the forwarder: aload_0; getfield; aload_1; checkcast; invokevirtual; return -/
theorem own_cap (hexec : p.tables.exec = Jvm.exec) {Rm R' : Room} {below' : List Frame} {s' : State} {sargs' : Array Value} {cK mi fi1 sl1 ci1 cT1 cB : Nat} {y : MethodName} {methk : Method} {ck : Code} {len W : Nat}
    (hd0 : decode ck.code 0 = .ok (.aload_n 0, 1)) (hd1 : decode ck.code 1 = .ok (.getfield fi1, 3)) (hd4 : decode ck.code 4 = .ok (.aload_n 1, 1)) (hd5 : decode ck.code 5 = .ok (.checkcast ci1, 3)) (hd8 : decode ck.code 8 = .ok (.invokevirtual mi, 3)) (hd11 : decode ck.code 11 = .ok (.return_, 1))
    (ra : Addr) (hF : ∀ U : State, s'.WarmedH U.vm → Base U cK methk ck 2 none ∧ (∃ fld : Field, U.vm.fieldReady cK fi1 cK fld ∧ fld.isStatic = false ∧ fld.slot = sl1) ∧ U.vm.classReady cK ci1 cT1 ∧ VirtualAt e U cK mi y cB 1)
    {PreT : Pt → Array Value → Prop} {PostT : Pt → Array Value → Option Value → Pt → Prop}
    (hT : ∀ (U : State) (g : JFrame) (a : Array Value), s'.WarmedH U.vm → Back l R' p e (.java g :: below') (U.calling g ⟨cK, 1⟩ a) a y 3 0 PreT PostT)
    (hretT : ∀ A a v B, PreT A a → PostT A a v B → v = none)
    (hfr : R'.frames + 1 ≤ Rm.frames) (hlo : W + (2 + 11) + R'.locals ≤ Rm.locals) :
    BackW l Rm p e below' s' sargs' (fun _ m' => m' = ⟨cK, 1⟩) len W
      (fun A a => ∃ f cellF cr x1, a = #[.ref f, x1] ∧ x1.isRef = true ∧ A.U.heap[f]? = some cellF ∧ cellF.vm ≠ .unknown ∧ cellF.slots[sl1]? = some (.ref ra) ∧ A.U.heap[ra]? = some cr ∧ cr.cls = cB ∧ (∀ q, cr.vm ≠ .statics q) ∧ Jvm.Free.Fw.Fits A.U cT1 x1 ∧ A.cells + R'.cells ≤ Rm.cells ∧ A.slots + R'.slots ≤ Rm.slots ∧ ∀ U₀ : State, U₀.vm = A.U.vm → U₀.heap = A.U.heap → PreT ⟨U₀, [], 0, 0⟩ #[(.ref ra), x1])
      (fun A a v B => ∃ x1 U₀ U₁ L₁ c₁ n₁, a[1]? = some x1 ∧ U₀.vm = A.U.vm ∧ U₀.heap = A.U.heap ∧ PostT ⟨U₀, [], 0, 0⟩ #[(.ref ra), x1] v ⟨U₁, L₁, c₁, n₁⟩ ∧ B.U.heap = U₁.heap ∧ B.U.vm = U₁.vm ∧ B.locs = A.locs ++ L₁ ∧ B.cells = A.cells + c₁ ∧ B.slots = A.slots + n₁) := by
  intro m meth c A gj ig mk a X hg hsize hdg hW hwho hpre
  obtain ⟨U, L, cc, nn⟩ := A
  dsimp only [Pt.U, Pt.locs, Pt.cells, Pt.slots] at X hpre hwho ⊢
  obtain ⟨f, cellF, cr, x1, rfl, hr1, hcell, hkn, hs1, hcr, hcrc, hcro, hfit1, hcl, hsl, hPT⟩ := hpre
  subst hwho
  obtain ⟨hB, ⟨fld1, hfa1, hfb1, hfc1⟩, hc1, hS⟩ := hF U X.warmed
  obtain ⟨v, T', U₁, L₁, c₁, n₁, X', ⟨U₀, h1, h2, hpost⟩, hh, hv, -, steps⟩ := X.through hg hsize hdg #[.ref f, x1] (R' := R') hB.meth hB.code hB.locks hB.plain hfr (by rw [hB.maxL]; omega) hcl hsl
    (Φ := fun v U₁ L₁ c₁ n₁ => ∃ U₀ : State, U₀.vm = U.vm ∧ U₀.heap = U.heap ∧ PostT ⟨U₀, [], 0, 0⟩ #[(.ref ra), x1] v ⟨U₁, L₁, c₁, n₁⟩)
    (fun U₀ hU₀ Y₀ => by
      have hvm : U₀.vm = U.vm := by rw [hU₀]; rfl
      have hheap : U₀.heap = U.heap := by rw [hU₀]; rfl
      rw [hB.maxL]
      rw [entry2 _ _ hr1]
      have k0 : Steps p.tables e (.java gj :: below') (U₀.setTop { method := ⟨cK, 1⟩, pc := 0, locals := #[.val (.ref f), .val x1], stack := [], locked := none }) (U₀.setTop { method := ⟨cK, 1⟩, pc := 0, locals := #[.val (.ref f), .val x1], stack := [], locked := none }) := Steps.refl _
      have k1 : Steps p.tables e (.java gj :: below') (U₀.setTop { method := ⟨cK, 1⟩, pc := 0, locals := #[.val (.ref f), .val x1], stack := [], locked := none }) (U₀.setTop { method := ⟨cK, 1⟩, pc := 1, locals := #[.val (.ref f), .val x1], stack := [.ref f], locked := none }) := by
        refine k0.trans ?_
        jvm_step Y₀.here [hexec, hd0, Value.isRef]
        exact Steps.refl _
      have k2 := Y₀.getfieldR hexec (g := { method := ⟨cK, 1⟩, pc := 1, locals := #[.val (.ref f), .val x1], stack := [.ref f], locked := none }) rfl (index := fi1) (cF := cK) (a := f) (field := fld1) (cell := cellF) (v := (.ref ra)) (rest := []) (by rw [hvm]; exact hfa1) hfb1 rfl (by rw [hheap]; exact hcell) hkn (by rw [hfc1]; exact hs1) hd1 k1
      have k3 : Steps p.tables e (.java gj :: below') (U₀.setTop { method := ⟨cK, 1⟩, pc := 0, locals := #[.val (.ref f), .val x1], stack := [], locked := none }) (U₀.setTop { method := ⟨cK, 1⟩, pc := 5, locals := #[.val (.ref f), .val x1], stack := [x1, (.ref ra)], locked := none }) := by
        refine k2.trans ?_
        jvm_step Y₀.here [hexec, hd4, hr1]
        exact Steps.refl _
      have k4 := Y₀.checkcastR hexec (g := { method := ⟨cK, 1⟩, pc := 5, locals := #[.val (.ref f), .val x1], stack := [x1, (.ref ra)], locked := none }) rfl (index := ci1) (cT := cT1) (x := x1) (rest := [.ref ra]) (by rw [hvm]; exact hc1) rfl (hfit1.of hvm hheap) hd5 k3
      obtain ⟨r, t, kr, kt, methr, metht, q1, q2, q3, q4, q5, q6, q7, q8, q9, q10, q11, q12, q13⟩ := hS.of hvm
      obtain ⟨v, ⟨U₁, L₁, c₁, n₁⟩, Y₁, hpost, kE⟩ := Y₀.virtualR hexec (g := { method := ⟨cK, 1⟩, pc := 8, locals := #[.val (.ref f), .val x1], stack := [x1, (.ref ra)], locked := none }) rfl (by rw [hB.maxL]; rfl) (index := mi) (a := ra) (y := y) (cell := cr) (argsL := [x1]) (rest := []) q1 q2 q3 q4 q5 q6 q7.symm rfl (by rw [hheap]; exact hcr) hcro (by rw [hcrc]; exact q8) q9 q10 q11 q12 q13
        (hT U gj _ X.warmed) (by show 2 * 0 + 0 ≤ 0; decide) (hPT U₀ hvm hheap) hd8 k4
      dsimp only [Pt.U, Pt.locs, Pt.cells, Pt.slots] at Y₁ kE
      obtain rfl := hretT _ _ _ _ (hPT U₀ hvm hheap) hpost
      exact ⟨none, U₁, L₁, c₁, n₁, Y₁, (fun _ => rfl), ⟨U₀, hvm, hheap, hpost⟩, fun fs hleave => kE.trans (Y₁.returnOut hexec hB.ret hd11 hleave)⟩)
  exact ⟨v, ⟨T', L ++ L₁, cc + c₁, nn + n₁⟩, X', ⟨x1, U₀, U₁, L₁, c₁, n₁, rfl, h1, h2, hpost, hh, hv, rfl, rfl, rfl⟩, steps⟩
theorem own_virt {U : State} {cK : ClassId} (hU : Z.Warmed39 U.vm) (M : own_Mk Z cK) (hadm : l.admits e) {bytes : ByteArray} (wc : (Jvm.Cond.code own_lamN bytes 2 none).before a0 Z = true) (wi : (Jvm.Cond.instanceMethod own_lamN).before a0 Z = true) (wp : (Jvm.Cond.privateMethod own_lamN).before a0 Z = true) {cB : ClassId} (hcB : Z.vm.findClass "com/example/zellwerk/zellwerk/service/Holdings" = some cB) :
    VirtualAt e U cK 25 own_lamN cB 1 := by
  obtain ⟨k, tk, file, methk, ck, toy, ar, t, g0, h1, h2, h3, h4, h5, h6, h7, h8, h9, h10, h11, h12, h13, h14, h15, h16, -⟩ := M.warm hU
  rw [hU.alike.findClass] at h11
  cases hcB.symm.trans h11
  obtain ⟨methB, cBd, hmB, -, -, -, -, -, -, hsigB⟩ := Cond.code_spec h14 (show (Jvm.Cond.code own_lamN bytes 2 none).before a0 U = true from mv hU wc)
  obtain ⟨mk, methM, hnamed, hmethM, hst, hab⟩ := Cond.instanceMethod_spec (show (Jvm.Cond.instanceMethod own_lamN).before a0 U = true from mv hU wi)
  cases h14.symm.trans hnamed
  cases hmB.symm.trans hmethM
  have hpr : methB.isPrivate = true := Cond.privateMethod_at (show (Jvm.Cond.privateMethod own_lamN).before a0 U = true from mv hU wp) _ _ h14 hmB
  obtain ⟨kT', hkT', hnameT⟩ := className_of_methodNamed h14
  have hcls : t.cls = cB := Option.some.inj ((findClass_of_methodNamed h14).symm.trans (by rw [hU.alike.findClass]; exact hcB))
  have hkk : kT' = tk := by rw [hcls] at hkT'; exact Option.some.inj (hkT'.symm.trans h12)
  have hsp : signaturePolymorphic kT' methB = false := by
    replace hnameT : kT'.name = "com/example/zellwerk/zellwerk/service/Holdings" := hnameT
    simp [signaturePolymorphic, hnameT]
  have hsg : methB.sig = ⟨[.object "com/example/zellwerk/zellwerk/model/Area"], none⟩ := Option.some.inj (hsigB.symm.trans (by decide +kernel))
  exact ⟨t, t, kT', kT', methB, methB, ⟨k, file, 21, 24, cB, tk, h1, h3, h4, h16, h12, h13⟩, h15, hkT', hmB, hsp, hst, by rw [hsg]; rfl, by simp [selectMethod, hmB, hpr], hmB, hab, hkT', by rw [hkk]; exact h13, h14⟩
theorem own_accept (X : Stand p l e R s m args below meth c T locs cells slots) (hx : p.tables.exec = Jvm.exec) (hZ : Z.Warmed39 s.vm) {own : String} (hown : s.vm.findClass own = some m.cls) {index count : Nat} {cK : ClassId} (M : own_Mk Z cK)
    (w1 : (Jvm.Cond.methodLink own index own_accN).before a0 Z = true) (w2 : (Jvm.Cond.declares own_accN).before a0 Z = true) (wf : (Jvm.Cond.interfaceMethod own_accN.cls own_accN.cls own_accN.name own_accN.desc).before args s = true)
    {bytes : ByteArray} (wc : (Jvm.Cond.code own_lamN bytes 2 none).before a0 Z = true) (wi : (Jvm.Cond.instanceMethod own_lamN).before a0 Z = true) (wp : (Jvm.Cond.privateMethod own_lamN).before a0 Z = true) (wz : (Jvm.Cond.initialized "com/example/zellwerk/zellwerk/service/Holdings").before a0 Z = true) (wA : (Jvm.Cond.castable "com/example/zellwerk/zellwerk/model/Area" "com/example/zellwerk/zellwerk/model/Area").before a0 Z = true)
    {rm : Room} {Q : Option Value → Heap → List Loc → Prop} {f b y : Addr} (hM : own_C l Z own_lamN bytes 2 none [] rm #[.ref b, .ref y] h Q) (hv : ∀ v h L, Q v h L → v = none) (F : own_Fo h f cK b) (Eb : Exa Z h b "com/example/zellwerk/zellwerk/service/Holdings") (Ey : Exa Z h y "com/example/zellwerk/zellwerk/model/Area") {W : Nat}
    {g : JFrame} (hg : g.method = m) (hsize : g.locals.size = c.maxLocals) {rest : List Value} (hst : g.stack = .ref y :: .ref f :: rest) (hW : 2 * g.monitorRoom + (rest.map fun v => v.category).sum ≤ W) (hd : decode c.code g.pc = .ok (.invokeinterface index count, 5)) (eT : T.heap = h)
    (hf : rm.frames + 2 ≤ R.frames) (hl : W + 13 + 13 + rm.locals ≤ R.locals) (hc : cells + rm.cells ≤ R.cells) (hs : slots + rm.slots ≤ R.slots) :
    ∃ T' L, Stand p l e R s m args below meth c T' (locs ++ L) (cells + rm.cells) (slots + rm.slots) ∧ Q none T'.heap L ∧ ∀ t, Steps p.tables e below (T'.setTop { g with pc := g.pc + 5, stack := rest }) t → Steps p.tables e below (T.setTop g) t := by
  obtain ⟨k, tk, file, methk, ck, toy, ar, t, g0, h1, h2, h3, h4, h5, h6, h7, h8, h9, h10, h11, h12, h13, h14, h15, h16, h17, h18, h19, h20, h21, h22, h23, h24⟩ := id M
  obtain ⟨cb, kb, b1, b2, b3, b4, -⟩ := id Eb
  cases b2.symm.trans h11
  obtain ⟨cy, ky, y1, y2, y3, y4, -⟩ := id Ey
  have hFits : ∀ vm1, s.WarmedH vm1 → Jvm.Free.Fw.Fits (T.setVm vm1) ar (.ref y) := by
    intro vm1 hw1
    obtain ⟨c3, t3, v1, v2, v3⟩ := Cond.castable_spec wA
    cases y2.symm.trans v1
    cases v1.symm.trans v2
    cases h20.symm.trans v1
    have hZ1 : Z.Warmed39 (s.setVm vm1).vm := wtrans hZ hw1
    obtain ⟨ky', q1, -⟩ := hZ1.alike.2.2 _ _ y3
    exact Or.inr ⟨y, cy, ky', ky', rfl, by show T.heap[y]? = _; rw [eT]; exact y1, (fun q hq => by rw [hq] at y4; cases y4), q1, q1, by show (s.setVm vm1).vm.assignable _ _ = true; rw [hZ1.alike.assignable]; exact v3⟩
  have hFn : FnX own_accN cK ⟨cK, 1⟩ s := by
    obtain ⟨_, _, _, _, _, _, _, _, _, -, -, -, -, -, -, -, -, -, -, -, -, -, -, -, -, -, -, -, -, -, -, -, q⟩ := M.warm hZ
    exact q
  have hK := own_cap (l := l) (p := p) (e := e) hx (Rm := R) (R' := { frames := rm.frames + 1, cells := rm.cells, slots := rm.slots, locals := 13 + rm.locals }) (below' := below) (s' := s) (sargs' := args) (cK := cK) (mi := 25) (fi1 := 15) (sl1 := 0) (ci1 := 19) (cT1 := ar) (cB := cb.cls) (y := own_lamN) (methk := methk) (ck := ck) (len := 5) (W := W)
    (by rw [h7]; exact own_f0) (by rw [h7]; exact own_f1) (by rw [h7]; exact own_f4) (by rw [h7]; exact own_f5) (by rw [h7]; exact own_f8) (by rw [h7]; exact own_f11) b
    (fun U hU => by
      have hZU : Z.Warmed39 U.vm := wtrans hZ hU
      have V := own_virt (l := l) (e := e) hZU M X.admits wc wi wp b2
      obtain ⟨k', tk', file', methk', ck', toy', ar', t', g0', i1, i2, i3, i4, i5, i6, i7, i8, i9, i10, i11, i12, i13, i14, i15, i16, i17, i18, i19, i20, i21, -⟩ := M.warm hZU
      rw [hZU.alike.findClass] at i20
      cases h20.symm.trans i20
      exact ⟨⟨by rw [hZU.alike.method?]; exact h5, h6, h9, State.plainMethod.of_name (fun k'' hk' => by cases i1.symm.trans hk'; rw [i2]; decide), h8, h10⟩, ⟨g0', i17, i18, i19⟩, i21, V⟩)
    (fun U g a hU => backOf (R := { frames := rm.frames + 1, cells := rm.cells, slots := rm.slots, locals := 13 + rm.locals }) (len := 3) (W := 0) hM (s := U.calling g ⟨cK, 1⟩ a) (wtrans hZ hU) wc wz (by show rm.frames + 1 ≤ rm.frames + 1; omega) (by show 0 + (2 + 11) + rm.locals ≤ 13 + rm.locals; omega))
    (fun A a v B _ ⟨L, hq, _⟩ => hv _ _ _ hq) (by show rm.frames + 1 + 1 ≤ R.frames; omega) (by show W + (2 + 11) + (13 + rm.locals) ≤ R.locals; omega)
  obtain ⟨v, vm₁, ⟨T', L', c', n'⟩, -, X', ⟨x1, U₀, U₁, L₁, c₁, n₁, hx1, e1, e2, ⟨Lq, hQ, l1, z1, z2⟩, hh, -, hL, hcc, hnn⟩, st⟩ := X.fnAt hx hown (xi := own_accN) (index := index) (count := count) (fun w hw => by
      simp only [fnW, List.mem_cons, List.not_mem_nil, or_false] at hw
      rcases hw with rfl | rfl | rfl
      · exact mvT hZ w1
      · exact mvT hZ w2
      · exact wf) ⟨by decide, by decide⟩ hFn hK (fun _ _ => rfl) (b := f) ⟨_, by rw [eT]; exact F, rfl, rfl⟩ hg hsize (Steps.refl _) (argsL := [.ref y]) (rest := rest)
    (fun sig hsg => by rw [show parseMethodDescriptor own_accN.desc = some ⟨[.object "java/lang/Object"], none⟩ from by decide +kernel] at hsg; cases hsg; rfl) hst hW hd
    (fun vm1 hw1 => ⟨f, _, cb, .ref y, rfl, rfl, by show T.heap[f]? = _; rw [eT]; exact F, by simp, rfl, by show T.heap[b]? = _; rw [eT]; exact b1, rfl, (fun q hq => by rw [hq] at b4; cases b4), hFits vm1 hw1, hc, hs, fun U0 u1 u2 => ⟨rfl, by show U0.heap = h; rw [u2]; exact eT, by show 0 + rm.cells ≤ rm.cells; omega, by show 0 + rm.slots ≤ rm.slots; omega⟩⟩)
  dsimp only [Pt.U, Pt.locs, Pt.cells, Pt.slots] at X' hh hL hcc hnn l1 z1 z2 hQ st
  subst hL hcc hnn
  obtain rfl := hv _ _ _ hQ
  have E1 : L₁ = Lq := by simpa using l1
  have E2 : c₁ = rm.cells := by rw [z1]; omega
  have E3 : n₁ = rm.slots := by rw [z2]; omega
  subst E1 E2 E3
  exact ⟨T', L₁, X', by rw [hh]; exact hQ, fun _ k => st.trans k⟩
end OwnLam2

section OwnFP
open Jvm.FP.Core
/-- a double's value in units of 2^-1074 -/
def own_z (x : UInt64) : Int := zval b64 (val64 x)
theorem own_zfin {x V : UInt64} (hx : val64 x ≠ .nan) (hV : DFin V) (h : own_z x = own_z V) : DFin x := by
  have h1 := hV.zval_lt
  unfold own_z zval at h
  have hm : zmag b64 (val64 x) = zmag b64 (val64 V) := by
    have := congrArg Int.natAbs h
    rwa [natAbs_signed, natAbs_signed] at this
  unfold DFin
  cases hv : val64 x with
  | nan => exact absurd hv hx
  | inf s =>
    rw [hv] at hm
    have : zmag b64 (.inf s) = b64.tails * 2 ^ (b64.exps - 2) := rfl
    rw [this] at hm
    omega
  | fin s c q => exact ⟨s, c, q, rfl⟩
theorem own_zadd {x y V : UInt64} (hx : DFin x) (hy : DFin y) (hV : DFin V) (h : own_z x + own_z y = own_z V) : DFin (dadd x y) ∧ own_z (dadd x y) = own_z V := by
  have e : own_z (dadd x y) = own_z V := by
    unfold own_z at *
    rw [val64_dadd]
    have a := sum_le good_b64 hx hy (val64_fits x) (val64_fits y) (val64_fits V) hV.ne_nan (Int.le_of_eq h)
    have b := sum_ge good_b64 hx hy (val64_fits x) (val64_fits y) (val64_fits V) hV.ne_nan (Int.le_of_eq h.symm)
    omega
  exact ⟨own_zfin ((notNaN_iff _).mp (dadd_out hx.notNaN hy)) hV e, e⟩
/-- n / 2^k is a double, for |n| up to 2^53 and k up to 1000 -/
theorem own_frac (n : Int) (k : Nat) (hk : k ≤ 1000) (hn : n.natAbs ≤ 2 ^ 53) : ∃ V : UInt64, DFin V ∧ ((2 ^ k : Nat) : Int) * own_z V = n * (one64 : Int) := by
  by_cases h0 : n = 0
  · refine ⟨0, ⟨_, _, _, val64_zero⟩, ?_⟩
    unfold own_z
    rw [zval64_zero, h0, Int.mul_zero, Int.zero_mul]
  obtain ⟨c, q, hfit, hv⟩ := natFit good_b64 wide_b64 (decide (n < 0)) (n := n.natAbs) hn
  have hp : b64.p = 53 := rfl
  have hqm : b64.qmin = -1074 := qmin_b64
  have hqM : b64.qmax = 971 := by decide
  have hT : b64.tails = 2 ^ 52 := tails_b64
  obtain ⟨c1, c2, c3, c4⟩ := hfit
  rw [hp] at c1
  have hq : -52 ≤ q := by
    refine Int.le_of_not_gt fun hlt => ?_
    rw [show (q - 0).toNat = 0 by omega, Nat.pow_zero, Nat.mul_one, Nat.mul_one] at hv
    have h1 : 2 ^ 53 ≤ 2 ^ (0 - q).toNat := Nat.pow_le_pow_right (by decide) (by omega)
    have h2 : 1 * 2 ^ (0 - q).toNat ≤ n.natAbs * 2 ^ (0 - q).toNat := Nat.mul_le_mul_right _ (by omega)
    omega
  have fit : FP.Core.fits b64 (.fin (decide (n < 0)) c (q - k)) := ⟨by rw [hp]; exact c1, by omega, by omega, Or.inr (by rcases c4 with c4 | c4 <;> omega)⟩
  refine ⟨of64 (.fin (decide (n < 0)) c (q - k)), ⟨_, _, _, val64_of64 fit⟩, ?_⟩
  unfold own_z
  rw [val64_of64 fit]
  show ((2 ^ k : Nat) : Int) * signed (decide (n < 0)) (inUnits c (q - k) b64.qmin) = _
  have e : 2 ^ k * inUnits c (q - k) b64.qmin = n.natAbs * one64 := by
    unfold inUnits
    rw [hqm, ← pow_qmin64, hqm]
    rw [show (- (-1074 : Int)).toNat = 1074 by decide]
    have h3 : n.natAbs * 2 ^ 1074 * 2 ^ (0 - q).toNat = 2 ^ k * (c * 2 ^ (q - k - -1074).toNat) * 2 ^ (0 - q).toNat := by
      generalize hE : (1074 : Nat) = E1
      have hE' : (E1 : Int) = 1074 := by omega
      calc n.natAbs * 2 ^ E1 * 2 ^ (0 - q).toNat = (n.natAbs * 2 ^ (0 - q).toNat) * 2 ^ E1 := by ac_rfl
        _ = (c * 1 * 2 ^ (q - 0).toNat) * 2 ^ E1 := by rw [hv]
        _ = c * (2 ^ ((q - 0).toNat + E1)) := by rw [Nat.mul_one, Nat.mul_assoc, ← Nat.pow_add]
        _ = c * (2 ^ (k + (q - k - -1074).toNat + (0 - q).toNat)) := by rw [show (q - 0).toNat + E1 = k + (q - k - -1074).toNat + (0 - q).toNat by omega]
        _ = 2 ^ k * (c * 2 ^ (q - k - -1074).toNat) * 2 ^ (0 - q).toNat := by rw [Nat.pow_add, Nat.pow_add]; ac_rfl
    exact (Nat.eq_of_mul_eq_mul_right (Nat.two_pow_pos _) h3).symm
  have e' : ((2 ^ k : Nat) : Int) * ((inUnits c (q - k) b64.qmin : Nat) : Int) = (n.natAbs : Int) * (one64 : Int) := by
    rw [← Int.natCast_mul, e, Int.natCast_mul]
  unfold signed
  by_cases hneg : n < 0
  · simp only [hneg, decide_true, if_true]
    have : (n.natAbs : Int) = -n := by omega
    rw [this, Int.neg_mul] at e'
    rw [Int.mul_neg]
    omega
  · simp only [hneg, decide_false, Bool.false_eq_true, if_false]
    have : (n.natAbs : Int) = n := by omega
    rw [this] at e'
    exact e'
theorem own_half (n : Int) (hn : n.natAbs ≤ 2 ^ 53) : ∃ V : UInt64, DFin V ∧ 2 * own_z V = n * (one64 : Int) := own_frac n 1 (by decide) hn
/-- x is the number n / 2 -/
def own_DH (n : Int) (x : UInt64) : Prop := DFin x ∧ 2 * own_z x = n * (one64 : Int)
theorem own_DH.fin {n : Int} {x : UInt64} (h : own_DH n x) : DFin x := h.1
theorem own_DH.nn {n : Int} {x : UInt64} (h : own_DH n x) : Jvm.Free.Fl.NoNaN64 x := Jvm.Free.Fl.noNaN64_no.mpr h.1.notNaN
theorem own_DH.of_z {n : Int} {x V : UInt64} (hx : DFin x) (hV : 2 * own_z V = n * (one64 : Int)) (h : own_z x = own_z V) : own_DH n x := ⟨hx, by rw [h]; exact hV⟩
theorem own_dh_int {i : Int} {x : UInt64} (h : DInt i x) : own_DH (2 * i) x := by
  refine ⟨?_, by unfold own_z; rw [DInt_zval h, Int.mul_assoc]⟩
  unfold DInt at h
  unfold DFin
  cases hv : val64 x with
  | nan => rw [hv] at h; exact h.elim
  | inf s => rw [hv] at h; exact h.elim
  | fin s c q => exact ⟨s, c, q, rfl⟩
theorem own_dh_i2d (a : Int32) : own_DH (2 * a.toInt) (FP.i2d a) := own_dh_int (i2d_int a)
theorem own_dh_add {m n : Int} {x y : UInt64} (hx : own_DH m x) (hy : own_DH n y) (h : (m + n).natAbs ≤ 2 ^ 53) : own_DH (m + n) (FP.dadd x y) := by
  obtain ⟨V, hV, eV⟩ := own_half _ h
  have e : own_z x + own_z y = own_z V := by
    have h1 := hx.2; have h2 := hy.2
    rw [Int.add_mul] at eV
    omega
  obtain ⟨q1, q2⟩ := own_zadd hx.1 hy.1 hV e
  exact own_DH.of_z q1 eV q2
end OwnFP

theorem d1_0 : decode jdk_38_method_2_code 0 = .ok (.aload_n 0, 1) := by decide +kernel
theorem d1_1 : decode jdk_38_method_2_code 1 = .ok (.invokespecial 1, 3) := by decide +kernel
theorem d1_4 : decode jdk_38_method_2_code 4 = .ok (.aload_n 0, 1) := by decide +kernel
theorem d1_5 : decode jdk_38_method_2_code 5 = .ok (.getstatic 39, 3) := by decide +kernel
theorem d1_8 : decode jdk_38_method_2_code 8 = .ok (.putfield 9, 3) := by decide +kernel
theorem d1_11 : decode jdk_38_method_2_code 11 = .ok (.return_, 1) := by decide +kernel

theorem pn_1 : plainFor own_y18 = true := by first | exact plainFor_of_name (by first | (simp [plainName, overriddenIn]; done) | decide +kernel) | decide +kernel

theorem d2_0 : decode jdk_39_method_1_code 0 = .ok (.aload_n 0, 1) := by decide +kernel
theorem d2_1 : decode jdk_39_method_1_code 1 = .ok (.invokespecial 1, 3) := by decide +kernel
theorem d2_4 : decode jdk_39_method_1_code 4 = .ok (.aload_n 0, 1) := by decide +kernel
theorem d2_5 : decode jdk_39_method_1_code 5 = .ok (.iconst 0, 1) := by decide +kernel
theorem d2_6 : decode jdk_39_method_1_code 6 = .ok (.putfield 7, 3) := by decide +kernel
theorem d2_9 : decode jdk_39_method_1_code 9 = .ok (.return_, 1) := by decide +kernel

theorem pn_2 : plainFor own_y17 = true := by first | exact plainFor_of_name (by first | (simp [plainName, overriddenIn]; done) | decide +kernel) | decide +kernel

theorem d3_0 : decode jdk_22_method_1_code 0 = .ok (.aload_n 0, 1) := by decide +kernel
theorem d3_1 : decode jdk_22_method_1_code 1 = .ok (.invokespecial 1, 3) := by decide +kernel
theorem d3_4 : decode jdk_22_method_1_code 4 = .ok (.return_, 1) := by decide +kernel

theorem pn_3 : plainFor own_y16 = true := by first | exact plainFor_of_name (by first | (simp [plainName, overriddenIn]; done) | decide +kernel) | decide +kernel

theorem d30_0 : decode jdk_38_method_6_code 0 = .ok (.aload_n 0, 1) := by decide +kernel
theorem d30_1 : decode jdk_38_method_6_code 1 = .ok (.getfield 9, 3) := by decide +kernel
theorem d30_4 : decode jdk_38_method_6_code 4 = .ok (.arraylength, 1) := by decide +kernel
theorem d30_5 : decode jdk_38_method_6_code 5 = .ok (.istore_n 2, 1) := by decide +kernel
theorem d30_6 : decode jdk_38_method_6_code 6 = .ok (.iload_n 2, 1) := by decide +kernel
theorem d30_7 : decode jdk_38_method_6_code 7 = .ok (.ifCond .gt 13, 3) := by decide +kernel
theorem d30_10 : decode jdk_38_method_6_code 10 = .ok (.aload_n 0, 1) := by decide +kernel
theorem d30_11 : decode jdk_38_method_6_code 11 = .ok (.getfield 9, 3) := by decide +kernel
theorem d30_14 : decode jdk_38_method_6_code 14 = .ok (.getstatic 39, 3) := by decide +kernel
theorem d30_17 : decode jdk_38_method_6_code 17 = .ok (.if_acmp .eq 28, 3) := by decide +kernel
theorem d30_45 : decode jdk_38_method_6_code 45 = .ok (.aload_n 0, 1) := by decide +kernel
theorem d30_46 : decode jdk_38_method_6_code 46 = .ok (.bipush 10, 2) := by decide +kernel
theorem d30_48 : decode jdk_38_method_6_code 48 = .ok (.iload_n 1, 1) := by decide +kernel
theorem d30_49 : decode jdk_38_method_6_code 49 = .ok (.invokestatic 79, 3) := by decide +kernel
theorem d30_52 : decode jdk_38_method_6_code 52 = .ok (.anewarray 7, 3) := by decide +kernel
theorem d30_55 : decode jdk_38_method_6_code 55 = .ok (.dup_x1, 1) := by decide +kernel
theorem d30_56 : decode jdk_38_method_6_code 56 = .ok (.putfield 9, 3) := by decide +kernel
theorem d30_59 : decode jdk_38_method_6_code 59 = .ok (.areturn, 1) := by decide +kernel

theorem pn_30 : plainFor own_y22 = true := by first | exact plainFor_of_name (by first | (simp [plainName, overriddenIn]; done) | decide +kernel) | decide +kernel

theorem d29_0 : decode jdk_38_method_7_code 0 = .ok (.aload_n 0, 1) := by decide +kernel
theorem d29_1 : decode jdk_38_method_7_code 1 = .ok (.aload_n 0, 1) := by decide +kernel
theorem d29_2 : decode jdk_38_method_7_code 2 = .ok (.getfield 48, 3) := by decide +kernel
theorem d29_5 : decode jdk_38_method_7_code 5 = .ok (.iconst 1, 1) := by decide +kernel
theorem d29_6 : decode jdk_38_method_7_code 6 = .ok (.iadd, 1) := by decide +kernel
theorem d29_7 : decode jdk_38_method_7_code 7 = .ok (.invokevirtual 69, 3) := by decide +kernel
theorem d29_10 : decode jdk_38_method_7_code 10 = .ok (.areturn, 1) := by decide +kernel

theorem pn_29 : plainFor own_y21 = true := by first | exact plainFor_of_name (by first | (simp [plainName, overriddenIn]; done) | decide +kernel) | decide +kernel

theorem d31_0 : decode jdk_29_method_65_code 0 = .ok (.iload_n 0, 1) := by decide +kernel
theorem d31_1 : decode jdk_29_method_65_code 1 = .ok (.iload_n 1, 1) := by decide +kernel
theorem d31_2 : decode jdk_29_method_65_code 2 = .ok (.if_icmp .lt 7, 3) := by decide +kernel
theorem d31_5 : decode jdk_29_method_65_code 5 = .ok (.iload_n 0, 1) := by decide +kernel
theorem d31_6 : decode jdk_29_method_65_code 6 = .ok (.goto 4, 3) := by decide +kernel
theorem d31_10 : decode jdk_29_method_65_code 10 = .ok (.ireturn, 1) := by decide +kernel

theorem pn_31 : plainFor own_y9 = true := by first | exact plainFor_of_name (by first | (simp [plainName, overriddenIn]; done) | decide +kernel) | decide +kernel

theorem d28_0 : decode jdk_38_method_24_code 0 = .ok (.iload_n 3, 1) := by decide +kernel
theorem d28_1 : decode jdk_38_method_24_code 1 = .ok (.aload_n 2, 1) := by decide +kernel
theorem d28_2 : decode jdk_38_method_24_code 2 = .ok (.arraylength, 1) := by decide +kernel
theorem d28_3 : decode jdk_38_method_24_code 3 = .ok (.if_icmp .ne 8, 3) := by decide +kernel
theorem d28_6 : decode jdk_38_method_24_code 6 = .ok (.aload_n 0, 1) := by decide +kernel
theorem d28_7 : decode jdk_38_method_24_code 7 = .ok (.invokevirtual 129, 3) := by decide +kernel
theorem d28_10 : decode jdk_38_method_24_code 10 = .ok (.astore_n 2, 1) := by decide +kernel
theorem d28_11 : decode jdk_38_method_24_code 11 = .ok (.aload_n 2, 1) := by decide +kernel
theorem d28_12 : decode jdk_38_method_24_code 12 = .ok (.iload_n 3, 1) := by decide +kernel
theorem d28_13 : decode jdk_38_method_24_code 13 = .ok (.aload_n 1, 1) := by decide +kernel
theorem d28_14 : decode jdk_38_method_24_code 14 = .ok (.aastore, 1) := by decide +kernel
theorem d28_15 : decode jdk_38_method_24_code 15 = .ok (.aload_n 0, 1) := by decide +kernel
theorem d28_16 : decode jdk_38_method_24_code 16 = .ok (.iload_n 3, 1) := by decide +kernel
theorem d28_17 : decode jdk_38_method_24_code 17 = .ok (.iconst 1, 1) := by decide +kernel
theorem d28_18 : decode jdk_38_method_24_code 18 = .ok (.iadd, 1) := by decide +kernel
theorem d28_19 : decode jdk_38_method_24_code 19 = .ok (.putfield 48, 3) := by decide +kernel
theorem d28_22 : decode jdk_38_method_24_code 22 = .ok (.return_, 1) := by decide +kernel

theorem pn_28 : plainFor own_y20 = true := by first | exact plainFor_of_name (by first | (simp [plainName, overriddenIn]; done) | decide +kernel) | decide +kernel

theorem d27_0 : decode jdk_38_method_25_code 0 = .ok (.aload_n 0, 1) := by decide +kernel
theorem d27_1 : decode jdk_38_method_25_code 1 = .ok (.dup, 1) := by decide +kernel
theorem d27_2 : decode jdk_38_method_25_code 2 = .ok (.getfield 63, 3) := by decide +kernel
theorem d27_5 : decode jdk_38_method_25_code 5 = .ok (.iconst 1, 1) := by decide +kernel
theorem d27_6 : decode jdk_38_method_25_code 6 = .ok (.iadd, 1) := by decide +kernel
theorem d27_7 : decode jdk_38_method_25_code 7 = .ok (.putfield 63, 3) := by decide +kernel
theorem d27_10 : decode jdk_38_method_25_code 10 = .ok (.aload_n 0, 1) := by decide +kernel
theorem d27_11 : decode jdk_38_method_25_code 11 = .ok (.aload_n 1, 1) := by decide +kernel
theorem d27_12 : decode jdk_38_method_25_code 12 = .ok (.aload_n 0, 1) := by decide +kernel
theorem d27_13 : decode jdk_38_method_25_code 13 = .ok (.getfield 9, 3) := by decide +kernel
theorem d27_16 : decode jdk_38_method_25_code 16 = .ok (.aload_n 0, 1) := by decide +kernel
theorem d27_17 : decode jdk_38_method_25_code 17 = .ok (.getfield 48, 3) := by decide +kernel
theorem d27_20 : decode jdk_38_method_25_code 20 = .ok (.invokevirtual 131, 3) := by decide +kernel
theorem d27_23 : decode jdk_38_method_25_code 23 = .ok (.iconst 1, 1) := by decide +kernel
theorem d27_24 : decode jdk_38_method_25_code 24 = .ok (.ireturn, 1) := by decide +kernel

theorem pn_27 : plainFor own_y19 = true := by first | exact plainFor_of_name (by first | (simp [plainName, overriddenIn]; done) | decide +kernel) | decide +kernel

theorem d8_0 : decode jdk_30_method_1_code 0 = .ok (.aload_n 0, 1) := by decide +kernel
theorem d8_1 : decode jdk_30_method_1_code 1 = .ok (.invokespecial 1, 3) := by decide +kernel
theorem d8_4 : decode jdk_30_method_1_code 4 = .ok (.return_, 1) := by decide +kernel

theorem pn_8 : plainFor own_y11 = true := by first | exact plainFor_of_name (by first | (simp [plainName, overriddenIn]; done) | decide +kernel) | decide +kernel

theorem d26_0 : decode prog_17_method_1_code 0 = .ok (.aload_n 0, 1) := by decide +kernel
theorem d26_1 : decode prog_17_method_1_code 1 = .ok (.invokespecial 1, 3) := by decide +kernel
theorem d26_4 : decode prog_17_method_1_code 4 = .ok (.aload_n 0, 1) := by decide +kernel
theorem d26_5 : decode prog_17_method_1_code 5 = .ok (.aload_n 1, 1) := by decide +kernel
theorem d26_6 : decode prog_17_method_1_code 6 = .ok (.putfield 7, 3) := by decide +kernel
theorem d26_9 : decode prog_17_method_1_code 9 = .ok (.aload_n 0, 1) := by decide +kernel
theorem d26_10 : decode prog_17_method_1_code 10 = .ok (.dload_n 2, 1) := by decide +kernel
theorem d26_11 : decode prog_17_method_1_code 11 = .ok (.putfield 13, 3) := by decide +kernel
theorem d26_14 : decode prog_17_method_1_code 14 = .ok (.aload_n 0, 1) := by decide +kernel
theorem d26_15 : decode prog_17_method_1_code 15 = .ok (.dload 4, 2) := by decide +kernel
theorem d26_17 : decode prog_17_method_1_code 17 = .ok (.putfield 17, 3) := by decide +kernel
theorem d26_20 : decode prog_17_method_1_code 20 = .ok (.aload_n 0, 1) := by decide +kernel
theorem d26_21 : decode prog_17_method_1_code 21 = .ok (.dload 6, 2) := by decide +kernel
theorem d26_23 : decode prog_17_method_1_code 23 = .ok (.putfield 20, 3) := by decide +kernel
theorem d26_26 : decode prog_17_method_1_code 26 = .ok (.aload_n 0, 1) := by decide +kernel
theorem d26_27 : decode prog_17_method_1_code 27 = .ok (.dload 8, 2) := by decide +kernel
theorem d26_29 : decode prog_17_method_1_code 29 = .ok (.putfield 23, 3) := by decide +kernel
theorem d26_32 : decode prog_17_method_1_code 32 = .ok (.aload_n 0, 1) := by decide +kernel
theorem d26_33 : decode prog_17_method_1_code 33 = .ok (.aload 10, 2) := by decide +kernel
theorem d26_35 : decode prog_17_method_1_code 35 = .ok (.putfield 26, 3) := by decide +kernel
theorem d26_38 : decode prog_17_method_1_code 38 = .ok (.return_, 1) := by decide +kernel

theorem pn_26 : plainFor own_y0 = true := by first | exact plainFor_of_name (by first | (simp [plainName, overriddenIn]; done) | decide +kernel) | decide +kernel

theorem d22_0 : decode jdk_42_method_139_code 0 = .ok (.getstatic 38, 3) := by decide +kernel
theorem d22_3 : decode jdk_42_method_139_code 3 = .ok (.ifCond .eq 23, 3) := by decide +kernel
theorem d22_6 : decode jdk_42_method_139_code 6 = .ok (.iload_n 0, 1) := by decide +kernel
theorem d22_7 : decode jdk_42_method_139_code 7 = .ok (.invokestatic 1015, 3) := by decide +kernel
theorem d22_10 : decode jdk_42_method_139_code 10 = .ok (.ifCond .eq 16, 3) := by decide +kernel
theorem d22_13 : decode jdk_42_method_139_code 13 = .ok (.new 10, 3) := by decide +kernel
theorem d22_16 : decode jdk_42_method_139_code 16 = .ok (.dup, 1) := by decide +kernel
theorem d22_17 : decode jdk_42_method_139_code 17 = .ok (.iload_n 0, 1) := by decide +kernel
theorem d22_18 : decode jdk_42_method_139_code 18 = .ok (.invokestatic 1018, 3) := by decide +kernel
theorem d22_21 : decode jdk_42_method_139_code 21 = .ok (.iconst 0, 1) := by decide +kernel
theorem d22_22 : decode jdk_42_method_139_code 22 = .ok (.invokespecial 209, 3) := by decide +kernel
theorem d22_25 : decode jdk_42_method_139_code 25 = .ok (.areturn, 1) := by decide +kernel

theorem pn_22 : plainFor own_y13 = true := by first | exact plainFor_of_name (by first | (simp [plainName, overriddenIn]; done) | decide +kernel) | decide +kernel

theorem d23_0 : decode jdk_43_method_3_code 0 = .ok (.iload_n 0, 1) := by decide +kernel
theorem d23_1 : decode jdk_43_method_3_code 1 = .ok (.sipush 255, 3) := by decide +kernel
theorem d23_4 : decode jdk_43_method_3_code 4 = .ok (.if_icmp .gt 7, 3) := by decide +kernel
theorem d23_7 : decode jdk_43_method_3_code 7 = .ok (.iconst 1, 1) := by decide +kernel
theorem d23_8 : decode jdk_43_method_3_code 8 = .ok (.goto 4, 3) := by decide +kernel
theorem d23_12 : decode jdk_43_method_3_code 12 = .ok (.ireturn, 1) := by decide +kernel

theorem pn_23 : plainFor own_y14 = true := by first | exact plainFor_of_name (by first | (simp [plainName, overriddenIn]; done) | decide +kernel) | decide +kernel

theorem d24_0 : decode jdk_43_method_46_code 0 = .ok (.iconst 1, 1) := by decide +kernel
theorem d24_1 : decode jdk_43_method_46_code 1 = .ok (.newarray .byte, 2) := by decide +kernel
theorem d24_3 : decode jdk_43_method_46_code 3 = .ok (.dup, 1) := by decide +kernel
theorem d24_4 : decode jdk_43_method_46_code 4 = .ok (.iconst 0, 1) := by decide +kernel
theorem d24_5 : decode jdk_43_method_46_code 5 = .ok (.iload_n 0, 1) := by decide +kernel
theorem d24_6 : decode jdk_43_method_46_code 6 = .ok (.i2b, 1) := by decide +kernel
theorem d24_7 : decode jdk_43_method_46_code 7 = .ok (.bastore, 1) := by decide +kernel
theorem d24_8 : decode jdk_43_method_46_code 8 = .ok (.areturn, 1) := by decide +kernel

theorem pn_24 : plainFor own_y15 = true := by first | exact plainFor_of_name (by first | (simp [plainName, overriddenIn]; done) | decide +kernel) | decide +kernel

theorem d25_0 : decode jdk_42_method_151_code 0 = .ok (.aload_n 0, 1) := by decide +kernel
theorem d25_1 : decode jdk_42_method_151_code 1 = .ok (.invokespecial 1, 3) := by decide +kernel
theorem d25_4 : decode jdk_42_method_151_code 4 = .ok (.aload_n 0, 1) := by decide +kernel
theorem d25_5 : decode jdk_42_method_151_code 5 = .ok (.aload_n 1, 1) := by decide +kernel
theorem d25_6 : decode jdk_42_method_151_code 6 = .ok (.putfield 9, 3) := by decide +kernel
theorem d25_9 : decode jdk_42_method_151_code 9 = .ok (.aload_n 0, 1) := by decide +kernel
theorem d25_10 : decode jdk_42_method_151_code 10 = .ok (.iload_n 2, 1) := by decide +kernel
theorem d25_11 : decode jdk_42_method_151_code 11 = .ok (.putfield 15, 3) := by decide +kernel
theorem d25_14 : decode jdk_42_method_151_code 14 = .ok (.return_, 1) := by decide +kernel

theorem pn_25 : plainFor own_y12 = true := by first | exact plainFor_of_name (by first | (simp [plainName, overriddenIn]; done) | decide +kernel) | decide +kernel

theorem pd___V : parseMethodDescriptor "()V" = some ⟨[], none⟩ := by decide +kernel
theorem pd____Ljava_lang_Object_ : parseMethodDescriptor "()[Ljava/lang/Object;" = some ⟨[], some (.array (.object "java/lang/Object"))⟩ := by decide +kernel
theorem pd__C_Ljava_lang_String_ : parseMethodDescriptor "(C)Ljava/lang/String;" = some ⟨[.char], some (.object "java/lang/String")⟩ := by decide +kernel
theorem pd__C_Z : parseMethodDescriptor "(C)Z" = some ⟨[.char], some .boolean⟩ := by decide +kernel
theorem pd__C__B : parseMethodDescriptor "(C)[B" = some ⟨[.char], some (.array .byte)⟩ := by decide +kernel
theorem pd__I__Ljava_lang_Object_ : parseMethodDescriptor "(I)[Ljava/lang/Object;" = some ⟨[.int], some (.array (.object "java/lang/Object"))⟩ := by decide +kernel
theorem pd__II_I : parseMethodDescriptor "(II)I" = some ⟨[.int, .int], some .int⟩ := by decide +kernel
theorem pd__Ljava_lang_Object__Z : parseMethodDescriptor "(Ljava/lang/Object;)Z" = some ⟨[(.object "java/lang/Object")], some .boolean⟩ := by decide +kernel
theorem pd__Ljava_lang_Object__Ljava_lang_Object_I_V : parseMethodDescriptor "(Ljava/lang/Object;[Ljava/lang/Object;I)V" = some ⟨[(.object "java/lang/Object"), (.array (.object "java/lang/Object")), .int], none⟩ := by decide +kernel
theorem pd__Ljava_lang_String_DDDDLjava_util_Optional__V : parseMethodDescriptor "(Ljava/lang/String;DDDDLjava/util/Optional;)V" = some ⟨[(.object "java/lang/String"), .double, .double, .double, .double, (.object "java/util/Optional")], none⟩ := by decide +kernel
theorem pd___BB_V : parseMethodDescriptor "([BB)V" = some ⟨[(.array .byte), .byte], none⟩ := by decide +kernel

def own_Qr (r : Option Value) (h0 : Heap) (n0 : Nat) (v : Option Value) (h : Heap) (L : List Loc) : Prop := v = r ∧ Fr n0 L ∧ h = h0
/-- an ArrayList with its three fields -/
def own_AL (Z : State) (h : Heap) (x ed : Addr) (n : Nat) (md : Int32) : Prop := Exa Z h x "java/util/ArrayList" ∧ Fld Z h x "java/util/ArrayList" "elementData" "[Ljava/lang/Object;" (.ref ed) ∧ Fld Z h x "java/util/ArrayList" "size" "I" (.int (Int32.ofNat n)) ∧ Fld Z h x "java/util/AbstractList" "modCount" "I" (.int md)
def own_Ql (Z : State) (a de : Addr) (h0 : Heap) (n0 : Nat) (v : Option Value) (h : Heap) (L : List Loc) : Prop := v = none ∧ Fr n0 L ∧ Keep h0 h [a] ∧ own_AL Z h a de 0 0
set_option maxRecDepth 65536 in
set_option maxHeartbeats 4000000 in
theorem rmAC (l : Launch) (Z : State) (a0 : Array Value) (hw : own_T a0 Z) (ws : List Jvm.Cond) (h0 : Heap) (n0 : Nat) (a : Addr) :
    own_C l Z own_y16 jdk_22_method_1_code 1 none ws ({ frames := 1, cells := 0, slots := 0, locals := 12 } : Room) #[(.ref a)] h0 (own_Qr none h0 n0) := by
  refine own_body (ls := #[.val (.ref a)]) pn_3 (fun m => by first | (simp [entryFrame, mkF, argsToLocals, Value.category]; done) | rfl) ?_
  intro p e s m below meth c T0 hZ hx hby hml hown hnm hret hlk X0 e0
  replace hml : c.maxLocals = 1 := hml
  have N0 := Fr.nil n0
  refine own_go (fun _ => XS.aloadN X0.here hx rfl (hb hby d3_0) rfl rfl) ?_
  show own_R _ _ _ _ T0 (mkF m 1 #[.val (.ref a)] [(.ref a)])
  obtain ⟨T1, X1, e1, st1⟩ := initO X0 hx hZ hown (hw 18 rfl) (hw 19 rfl) (hw 20 rfl) e0 (g := (mkF m 1 #[.val (.ref a)] [(.ref a)])) rfl (by rw [hml]; rfl) rfl (hb hby d3_1) (by decide) (W := 0) (Nat.le_of_eq rfl) (by decide)
  refine own_go st1 ?_
  show own_R _ _ _ _ T1 (mkF m 4 #[.val (.ref a)] [])
  exact own_end X1 none (fun _ => rfl) hlk (fun fs hr => X1.returnOut hx hret (hb hby d3_4) hr) ⟨rfl, N0, e1⟩ (by decide) (by decide)
def own_Qa (Z : State) (a : Addr) (h0 : Heap) (n0 : Nat) (v : Option Value) (h : Heap) (L : List Loc) : Prop := v = none ∧ Fr n0 L ∧ Keep h0 h [a] ∧ Exa Z h a "java/util/ArrayList" ∧ Fld Z h a "java/util/ArrayList" "elementData" "[Ljava/lang/Object;" .null ∧ Fld Z h a "java/util/ArrayList" "size" "I" (.int 0) ∧ Fld Z h a "java/util/AbstractList" "modCount" "I" (.int 0)
set_option maxRecDepth 65536 in
set_option maxHeartbeats 4000000 in
theorem rmAB (l : Launch) (Z : State) (a0 : Array Value) (hw : own_T a0 Z) (ws : List Jvm.Cond) (h0 : Heap) (n0 : Nat) (a : Addr) (g9 : n0 ≤ a) (E : Exa Z h0 a "java/util/ArrayList") (Fe : Fld Z h0 a "java/util/ArrayList" "elementData" "[Ljava/lang/Object;" .null) (Fs : Fld Z h0 a "java/util/ArrayList" "size" "I" (.int 0)) (Fm : Fld Z h0 a "java/util/AbstractList" "modCount" "I" (.int 0))  :
    own_C l Z own_y17 jdk_39_method_1_code 1 none ws ({ frames := 2, cells := 0, slots := 0, locals := 26 } : Room) #[(.ref a)] h0 (own_Qa Z a h0 n0) := by
  refine own_body (ls := #[.val (.ref a)]) pn_2 (fun m => by first | (simp [entryFrame, mkF, argsToLocals, Value.category]; done) | rfl) ?_
  intro p e s m below meth c T0 hZ hx hby hml hown hnm hret hlk X0 e0
  replace hml : c.maxLocals = 1 := hml
  have N0 := Fr.nil n0
  refine own_go (fun _ => XS.aloadN X0.here hx rfl (hb hby d2_0) rfl rfl) ?_
  show own_R _ _ _ _ T0 (mkF m 1 #[.val (.ref a)] [(.ref a)])
  obtain ⟨v1, T1, L1, X1, Q1, st1⟩ := own_callI X0 hx hZ hown (y := own_y16) rfl (hw 12 rfl) (hw 13 rfl) (hw 17 rfl) (hw 16 rfl) (by decide) (rmAC l Z a0 hw [] h0 n0 a) (W := 0) (g := (mkF m 1 #[.val (.ref a)] [(.ref a)])) rfl (by rw [hml]; rfl) (a := a) (argsL := []) (rest := []) (lenOf pd___V rfl) rfl rfl (Nat.le_of_eq rfl) (hb hby d2_1) e0 (by decide) (by decide) (by decide) (by decide)
  obtain ⟨rfl, N1q, e1⟩ := Q1
  have N1 := Fr.app N0 N1q
  refine own_go st1 ?_
  show own_R _ _ _ _ T1 (mkF m 4 #[.val (.ref a)] [])
  refine own_go (fun _ => XS.aloadN X1.here hx rfl (hb hby d2_4) rfl rfl) ?_
  refine own_go (fun _ => XS.iconst X1.here hx rfl (hb hby d2_5)) ?_
  show own_R _ _ _ _ T1 (mkF m 6 #[.val (.ref a)] [(.int (0 : Int32)), (.ref a)])
  obtain ⟨T2, h2, X2, e2, W2, st2⟩ := putF X1 hx hZ hown (host := "") (Or.inl (hw 21 rfl)) Via.refl e1 Fm E (Or.inl (hw 22 rfl)) (hw 1 rfl) (ty := .int) (by decide) rfl rfl (g := (mkF m 6 #[.val (.ref a)] [(.int (0 : Int32)), (.ref a)])) rfl rfl (hb hby d2_6)
  refine own_go st2 ?_
  show own_R _ _ _ _ T2 (mkF m 9 #[.val (.ref a)] [])
  have N2 := Fr.snoc X2 N1 g9
  exact own_end X2 none (fun _ => rfl) hlk (fun fs hr => X2.returnOut hx hret (hb hby d2_9) hr) (by show own_Qa Z a h0 n0 _ T2.heap _; rw [e2]; exact ⟨rfl, N2, Keep.of_wr W2, E.wr W2, Fe.other W2 (Or.inr (slot_ne (Or.inl (hw 25 rfl)) (Or.inl (hw 22 rfl)) (by decide) (t := (.array (.object "java/lang/Object"))) (t' := .int) (by decide) (by decide))), Fs.other W2 (Or.inr (slot_ne (Or.inl (hw 69 rfl)) (Or.inl (hw 22 rfl)) (by decide) (t := .int) (t' := .int) (by decide) (by decide))), Fm.same W2⟩) (by decide) (by decide)
set_option maxRecDepth 65536 in
set_option maxHeartbeats 4000000 in
theorem rmAL (l : Launch) (Z : State) (a0 : Array Value) (hw : own_T a0 Z) (ws : List Jvm.Cond) (h0 : Heap) (n0 : Nat) (a : Addr) (g9 : n0 ≤ a) (E : Exa Z h0 a "java/util/ArrayList") (Fe : Fld Z h0 a "java/util/ArrayList" "elementData" "[Ljava/lang/Object;" .null) (Fs : Fld Z h0 a "java/util/ArrayList" "size" "I" (.int 0)) (Fm : Fld Z h0 a "java/util/AbstractList" "modCount" "I" (.int 0)) (de : Addr) (O1 : Sta Z Z.heap "java/util/ArrayList" "DEFAULTCAPACITY_EMPTY_ELEMENTDATA" "[Ljava/lang/Object;" (.ref de)) (Od : Old Z n0 h0) :
    own_C l Z own_y18 jdk_38_method_2_code 1 none ws ({ frames := 3, cells := 0, slots := 0, locals := 40 } : Room) #[(.ref a)] h0 (own_Ql Z a de h0 n0) := by
  refine own_body (ls := #[.val (.ref a)]) pn_1 (fun m => by first | (simp [entryFrame, mkF, argsToLocals, Value.category]; done) | rfl) ?_
  intro p e s m below meth c T0 hZ hx hby hml hown hnm hret hlk X0 e0
  replace hml : c.maxLocals = 1 := hml
  have N0 := Fr.nil n0
  refine own_go (fun _ => XS.aloadN X0.here hx rfl (hb hby d1_0) rfl rfl) ?_
  show own_R _ _ _ _ T0 (mkF m 1 #[.val (.ref a)] [(.ref a)])
  obtain ⟨v1, T1, L1, X1, Q1, st1⟩ := own_callI X0 hx hZ hown (y := own_y17) rfl (hw 6 rfl) (hw 7 rfl) (hw 11 rfl) (hw 10 rfl) (by decide) (rmAB l Z a0 hw [] h0 n0 a g9 E Fe Fs Fm) (W := 0) (g := (mkF m 1 #[.val (.ref a)] [(.ref a)])) rfl (by rw [hml]; rfl) (a := a) (argsL := []) (rest := []) (lenOf pd___V rfl) rfl rfl (Nat.le_of_eq rfl) (hb hby d1_1) e0 (by decide) (by decide) (by decide) (by decide)
  obtain ⟨rfl, N1q, K1, E1, Fe1, Fs1, Fm1⟩ := Q1
  have N1 := Fr.app N0 N1q
  have Od1 := Od.keep K1 (fun x hx => by cases List.mem_singleton.mp hx; exact g9)
  refine own_go st1 ?_
  show own_R _ _ _ _ T1 (mkF m 4 #[.val (.ref a)] [])
  refine own_go (fun _ => XS.aloadN X1.here hx rfl (hb hby d1_4) rfl rfl) ?_
  show own_R _ _ _ _ T1 (mkF m 5 #[.val (.ref a)] [(.ref a)])
  obtain ⟨T2, X2, e2, st2⟩ := getS X1 hx hZ hown (host := "") (hw 23 rfl) Via.refl rfl (O1.ext Od1.2) (g := (mkF m 5 #[.val (.ref a)] [(.ref a)])) rfl (hb hby d1_5)
  refine own_go st2 ?_
  show own_R _ _ _ _ T2 (mkF m 8 #[.val (.ref a)] [(.ref de), (.ref a)])
  obtain ⟨T3, h3, X3, e3, W3, st3⟩ := putF X2 hx hZ hown (host := "") (Or.inl (hw 24 rfl)) Via.refl e2 Fe1 E1 (Or.inl (hw 25 rfl)) (hw 1 rfl) (ty := (.array (.object "java/lang/Object"))) (by decide) rfl rfl (g := (mkF m 8 #[.val (.ref a)] [(.ref de), (.ref a)])) rfl rfl (hb hby d1_8)
  refine own_go st3 ?_
  show own_R _ _ _ _ T3 (mkF m 11 #[.val (.ref a)] [])
  have N3 := Fr.snoc X3 N1 g9
  exact own_end X3 none (fun _ => rfl) hlk (fun fs hr => X3.returnOut hx hret (hb hby d1_11) hr) (by show own_Ql Z a de h0 n0 _ T3.heap _; rw [e3]; exact ⟨rfl, N3, K1.wr W3 (Or.inl (by simp)), E1.wr W3, Fe1.same W3, Fs1.other W3 (Or.inr (slot_ne (Or.inl (hw 69 rfl)) (Or.inl (hw 25 rfl)) (by decide) (t := .int) (t' := (.array (.object "java/lang/Object"))) (by decide) (by decide))), Fm1.other W3 (Or.inr (slot_ne (Or.inl (hw 22 rfl)) (Or.inl (hw 25 rfl)) (by decide) (t := .int) (t' := (.array (.object "java/lang/Object"))) (by decide) (by decide)))⟩) (by decide) (by decide)
theorem own_dupx1 {p : Program} {l : Launch} {e : Env} {R : Room} {s : State} {m : MethodId} {args : Array Value} {below : List Frame} {meth : Method} {c : Code} {T : State} {locs : List Loc} {cells slots : Nat} (X : Stand p l e R s m args below meth c T locs cells slots) (hx : p.tables.exec = Jvm.exec) {pc : Nat} {Ls : Array Slot} {x y : Addr} {rest : List Value} (hd : decode c.code pc = .ok (.dup_x1, 1)) :
    ∀ t, Steps p.tables e below (T.setTop (mkF m (pc + 1) Ls (.ref x :: .ref y :: .ref x :: rest))) t → Steps p.tables e below (T.setTop (mkF m pc Ls (.ref x :: .ref y :: rest))) t := by
  intro t st
  show Steps p.tables e below (T.setTop { method := m, pc := pc, locals := Ls, stack := _ :: _ :: rest, locked := none }) _
  jvm_step X.here [X.here.top, hx, hd, Op.dup_x1.wp_sem, Value.category]
  exact st
theorem own_ne {a b : Addr} (h : @LT.lt Nat instLTNat a b) : b ≠ a := Nat.ne_of_gt h
def own_Qg (Z : State) (a : Addr) (md : Int32) (h0 : Heap) (n0 : Nat) (v : Option Value) (h : Heap) (L : List Loc) : Prop := ∃ (ed : Addr) (k : ClassId), v = some (.ref ed) ∧ Fr n0 L ∧ Keep h0 h [a] ∧ h0.size ≤ ed ∧ own_AL Z h a ed 0 md ∧ Arv Z h ed k (.object "java/lang/Object") (10 : Int32) [] .null ∧ Ovr Z k "java/lang/Object" ∧ Exa Z h ed "[Ljava/lang/Object;"
set_option maxRecDepth 65536 in
set_option maxHeartbeats 4000000 in
theorem rmMax (l : Launch) (Z : State) (a0 : Array Value) (hw : own_T a0 Z) (ws : List Jvm.Cond) (h0 : Heap) (n0 : Nat) (a b : Int32) (q : ¬ a < b) :
    own_C l Z own_y9 jdk_29_method_65_code 2 (some .int) ws ({ frames := 0, cells := 0, slots := 0, locals := 0 } : Room) #[(.int a), (.int b)] h0 (own_Qr (some (.int a)) h0 n0) := by
  refine own_body (ls := #[.val (.int a), .val (.int b)]) pn_31 (fun m => by first | (simp [entryFrame, mkF, argsToLocals, Value.category]; done) | rfl) ?_
  intro p e s m below meth c T0 hZ hx hby hml hown hnm hret hlk X0 e0
  replace hml : c.maxLocals = 2 := hml
  have N0 := Fr.nil n0
  refine own_go (fun _ => XS.iloadN X0.here hx rfl (hb hby d31_0) rfl ) ?_
  refine own_go (fun _ => XS.iloadN X0.here hx rfl (hb hby d31_1) rfl ) ?_
  show own_R _ _ _ _ T0 (mkF m 2 #[.val (.int a), .val (.int b)] [(.int b), (.int a)])
  refine own_go (fun _ => XS.icmpNo X0.here hx rfl (hb hby d31_2) rfl (flt q).1) ?_
  show own_R _ _ _ _ T0 (mkF m 5 #[.val (.int a), .val (.int b)] [])
  refine own_go (fun _ => XS.iloadN X0.here hx rfl (hb hby d31_5) rfl ) ?_
  refine own_go (fun _ => XS.goto X0.here hx rfl (pc0 := 6) (pc' := 10) rfl (hb hby d31_6) (by decide) (by decide)) ?_
  show own_R _ _ _ _ T0 (mkF m 10 #[.val (.int a), .val (.int b)] [(.int a)])
  exact own_end X0 (some (.int a)) (fun h => by rw [hret] at h; cases h) hlk (fun fs hr => own_retI X0 hx hret (hb hby d31_10) hr) ⟨rfl, N0, e0⟩ (by decide) (by decide)
set_option maxRecDepth 65536 in
set_option maxHeartbeats 8000000 in
theorem rmGI (l : Launch) (Z : State) (a0 : Array Value) (hw : own_T a0 Z) (ws : List Jvm.Cond) (h0 : Heap) (n0 : Nat) (a : Addr) (g9 : n0 ≤ a) (Z0 : n0 ≤ h0.size) (md : Int32) (de : Addr) (kd : ClassId) (L0 : own_AL Z h0 a de 0 md) (O1 : Sta Z Z.heap "java/util/ArrayList" "DEFAULTCAPACITY_EMPTY_ELEMENTDATA" "[Ljava/lang/Object;" (.ref de)) (Ad : Arv Z h0 de kd (.object "java/lang/Object") (0 : Int32) [] .null) (Od : Old Z n0 h0)  :
    own_C l Z own_y22 jdk_38_method_6_code 4 (some (.array (.object "java/lang/Object"))) ws ({ frames := 1, cells := 1, slots := 10, locals := 16 } : Room) #[(.ref a), (.int (1 : Int32))] h0 (own_Qg Z a md h0 n0) := by
  refine own_body (ls := #[.val (.ref a), .val (.int (1 : Int32)), .unset, .unset]) pn_30 (fun m => by first | (simp [entryFrame, mkF, argsToLocals, Value.category]; done) | rfl) ?_
  intro p e s m below meth c T0 hZ hx hby hml hown hnm hret hlk X0 e0
  replace hml : c.maxLocals = 4 := hml
  have N0 := Fr.nil n0
  obtain ⟨E, Fe, Fs, Fm⟩ := L0
  refine own_go (fun _ => XS.aloadN X0.here hx rfl (hb hby d30_0) rfl rfl) ?_
  show own_R _ _ _ _ T0 (mkF m 1 #[.val (.ref a), .val (.int (1 : Int32)), .unset, .unset] [(.ref a)])
  obtain ⟨T1, X1, e1, st1⟩ := getF X0 hx hZ hown (host := "") (Or.inl (hw 24 rfl)) Via.refl e0 Fe (g := (mkF m 1 #[.val (.ref a), .val (.int (1 : Int32)), .unset, .unset] [(.ref a)])) rfl rfl (hb hby d30_1)
  refine own_go st1 ?_
  show own_R _ _ _ _ T1 (mkF m 4 #[.val (.ref a), .val (.int (1 : Int32)), .unset, .unset] [(.ref de)])
  refine own_go (own_len X1 hx hZ e1 Ad (g := (mkF m 4 #[.val (.ref a), .val (.int (1 : Int32)), .unset, .unset] [(.ref de)])) rfl rfl (hb hby d30_4)) ?_
  show own_R _ _ _ _ T1 (mkF m 5 #[.val (.ref a), .val (.int (1 : Int32)), .unset, .unset] [(.int (0 : Int32))])
  refine own_go (fun _ => XS.istoreN X1.here hx rfl (hb hby d30_5) rfl (l' := #[.val (.ref a), .val (.int (1 : Int32)), .val (.int (0 : Int32)), .unset]) rfl) ?_
  refine own_go (fun _ => XS.iloadN X1.here hx rfl (hb hby d30_6) rfl ) ?_
  show own_R _ _ _ _ T1 (mkF m 7 #[.val (.ref a), .val (.int (1 : Int32)), .val (.int (0 : Int32)), .unset] [(.int (0 : Int32))])
  refine own_go (fun _ => XS.ifNo X1.here hx rfl (hb hby d30_7) rfl ((if0 _ _).trans (flt (by decide : ¬ ((0 : Int32) < (0 : Int32)))).2.2.1)) ?_
  show own_R _ _ _ _ T1 (mkF m 10 #[.val (.ref a), .val (.int (1 : Int32)), .val (.int (0 : Int32)), .unset] [])
  refine own_go (fun _ => XS.aloadN X1.here hx rfl (hb hby d30_10) rfl rfl) ?_
  show own_R _ _ _ _ T1 (mkF m 11 #[.val (.ref a), .val (.int (1 : Int32)), .val (.int (0 : Int32)), .unset] [(.ref a)])
  obtain ⟨T2, X2, e2, st2⟩ := getF X1 hx hZ hown (host := "") (Or.inl (hw 24 rfl)) Via.refl e1 Fe (g := (mkF m 11 #[.val (.ref a), .val (.int (1 : Int32)), .val (.int (0 : Int32)), .unset] [(.ref a)])) rfl rfl (hb hby d30_11)
  refine own_go st2 ?_
  show own_R _ _ _ _ T2 (mkF m 14 #[.val (.ref a), .val (.int (1 : Int32)), .val (.int (0 : Int32)), .unset] [(.ref de)])
  obtain ⟨T3, X3, e3, st3⟩ := getS X2 hx hZ hown (host := "") (hw 23 rfl) Via.refl e2 (O1.ext Od.2) (g := (mkF m 14 #[.val (.ref a), .val (.int (1 : Int32)), .val (.int (0 : Int32)), .unset] [(.ref de)])) rfl (hb hby d30_14)
  refine own_go st3 ?_
  show own_R _ _ _ _ T3 (mkF m 17 #[.val (.ref a), .val (.int (1 : Int32)), .val (.int (0 : Int32)), .unset] [(.ref de), (.ref de)])
  refine own_go (fun _ => Jvm.RoadKit.acmp (g := (mkF m 17 #[.val (.ref a), .val (.int (1 : Int32)), .val (.int (0 : Int32)), .unset] [(.ref de), (.ref de)])) X3 hx rfl rfl rfl (pc0 := 17) (pc' := 45) (same := true) rfl (hb hby d30_17) rfl (decide_eq_true rfl) (by decide) (by decide)) ?_
  show own_R _ _ _ _ T3 (mkF m 45 #[.val (.ref a), .val (.int (1 : Int32)), .val (.int (0 : Int32)), .unset] [])
  refine own_go (fun _ => XS.aloadN X3.here hx rfl (hb hby d30_45) rfl rfl) ?_
  refine own_go (fun _ => XS.bipush X3.here hx rfl (hb hby d30_46)) ?_
  refine own_go (fun _ => XS.iloadN X3.here hx rfl (hb hby d30_48) rfl ) ?_
  show own_R _ _ _ _ T3 (mkF m 49 #[.val (.ref a), .val (.int (1 : Int32)), .val (.int (0 : Int32)), .unset] [(.int (1 : Int32)), (.int (10 : Int32)), (.ref a)])
  obtain ⟨v4, T4, L4, X4, Q4, st4⟩ := own_callS X3 hx hZ hown (y := own_y9) (hw 262 rfl) (hw 263 rfl) (hw 264 rfl) (hw 265 rfl) (by decide) (rmMax l Z a0 hw [] h0 n0 10 1 (by decide)) (W := 1) (g := (mkF m 49 #[.val (.ref a), .val (.int (1 : Int32)), .val (.int (0 : Int32)), .unset] [(.int (1 : Int32)), (.int (10 : Int32)), (.ref a)])) rfl (by rw [hml]; rfl) (argsL := [(.int (10 : Int32)), (.int (1 : Int32))]) (rest := [(.ref a)]) (lenOf pd__II_I rfl) rfl rfl (Nat.le_of_eq rfl) (hb hby d30_49) e3 (by decide) (by decide) (by decide) (by decide)
  obtain ⟨rfl, N4q, e4⟩ := Q4
  have N4 := Fr.app N0 N4q
  refine own_go st4 ?_
  show own_R _ _ _ _ T4 (mkF m 52 #[.val (.ref a), .val (.int (1 : Int32)), .val (.int (0 : Int32)), .unset] [(.int (10 : Int32)), (.ref a)])
  obtain ⟨T5, h5, k5, X5, e5, E5, A5, Ex5, V5, st5⟩ := newRE X4 hx hZ hown (hw 266 rfl) (hw 267 rfl) e4 (g := (mkF m 52 #[.val (.ref a), .val (.int (1 : Int32)), .val (.int (0 : Int32)), .unset] [(.int (10 : Int32)), (.ref a)])) rfl (hb hby d30_52) rfl (by decide) (cap := 10) (by decide) (by decide) (by decide) (by decide) (ad := "[Ljava/lang/Object;") rfl
  obtain ⟨a5, g5⟩ : ∃ z, z = h0.size := ⟨_, rfl⟩
  rw [← g5] at A5 Ex5 st5
  refine own_go st5 ?_
  show own_R _ _ _ _ T5 (mkF m 55 #[.val (.ref a), .val (.int (1 : Int32)), .val (.int (0 : Int32)), .unset] [(.ref a5), (.ref a)])
  refine own_go (own_dupx1 X5 hx (hb hby d30_55)) ?_
  show own_R _ _ _ _ T5 (mkF m 56 #[.val (.ref a), .val (.int (1 : Int32)), .val (.int (0 : Int32)), .unset] [(.ref a5), (.ref a), (.ref a5)])
  have ne : a5 ≠ a := own_ne (Nat.lt_of_lt_of_le E.lt (Nat.le_of_eq g5.symm))
  obtain ⟨T6, h6, X6, e6, W6, st6⟩ := putF X5 hx hZ hown (host := "") (Or.inl (hw 24 rfl)) Via.refl e5 (Fe.ext E5) (E.ext E5) (Or.inl (hw 25 rfl)) (hw 1 rfl) (ty := (.array (.object "java/lang/Object"))) (by decide) rfl rfl (g := (mkF m 56 #[.val (.ref a), .val (.int (1 : Int32)), .val (.int (0 : Int32)), .unset] [(.ref a5), (.ref a), (.ref a5)])) rfl rfl (hb hby d30_56)
  refine own_go st6 ?_
  show own_R _ _ _ _ T6 (mkF m 59 #[.val (.ref a), .val (.int (1 : Int32)), .val (.int (0 : Int32)), .unset] [(.ref a5)])
  have N6 := Fr.snoc X6 N4 g9
  exact own_end X6 (some (.ref a5)) (fun h => by rw [hret] at h; cases h) hlk (fun fs hr => own_retA X6 hx hret rfl rfl (hb hby d30_59) hr) (by show own_Qg Z a md h0 n0 _ T6.heap _; rw [e6]; exact ⟨a5, k5, rfl, N6, ((Keep.refl h0 [a]).ext E5).wr W6 (Or.inl (by simp)), Nat.le_of_eq g5.symm, ⟨(E.ext E5).wr W6, (Fe.ext E5).same W6, (Fs.ext E5).other W6 (Or.inr (slot_ne (Or.inl (hw 69 rfl)) (Or.inl (hw 25 rfl)) (by decide) (t := .int) (t' := (.array (.object "java/lang/Object"))) (by decide) (by decide))), (Fm.ext E5).other W6 (Or.inr (slot_ne (Or.inl (hw 22 rfl)) (Or.inl (hw 25 rfl)) (by decide) (t := .int) (t' := (.array (.object "java/lang/Object"))) (by decide) (by decide)))⟩, (Arv.new A5 (by decide)).other W6 ne, V5, Ex5.wr W6⟩) (by decide) (by decide)
set_option maxRecDepth 65536 in
set_option maxHeartbeats 8000000 in
theorem rmG0 (l : Launch) (Z : State) (a0 : Array Value) (hw : own_T a0 Z) (ws : List Jvm.Cond) (h0 : Heap) (n0 : Nat) (a : Addr) (g9 : n0 ≤ a) (Z0 : n0 ≤ h0.size) (md : Int32) (de : Addr) (kd : ClassId) (L0 : own_AL Z h0 a de 0 md) (O1 : Sta Z Z.heap "java/util/ArrayList" "DEFAULTCAPACITY_EMPTY_ELEMENTDATA" "[Ljava/lang/Object;" (.ref de)) (Ad : Arv Z h0 de kd (.object "java/lang/Object") (0 : Int32) [] .null) (Od : Old Z n0 h0)  :
    own_C l Z own_y21 jdk_38_method_7_code 1 (some (.array (.object "java/lang/Object"))) ws ({ frames := 2, cells := 1, slots := 10, locals := 34 } : Room) #[(.ref a)] h0 (own_Qg Z a md h0 n0) := by
  refine own_body (ls := #[.val (.ref a)]) pn_29 (fun m => by first | (simp [entryFrame, mkF, argsToLocals, Value.category]; done) | rfl) ?_
  intro p e s m below meth c T0 hZ hx hby hml hown hnm hret hlk X0 e0
  replace hml : c.maxLocals = 1 := hml
  have N0 := Fr.nil n0
  have L1 := L0
  obtain ⟨E, Fe, Fs, Fm⟩ := L0
  refine own_go (fun _ => XS.aloadN X0.here hx rfl (hb hby d29_0) rfl rfl) ?_
  refine own_go (fun _ => XS.aloadN X0.here hx rfl (hb hby d29_1) rfl rfl) ?_
  show own_R _ _ _ _ T0 (mkF m 2 #[.val (.ref a)] [(.ref a), (.ref a)])
  obtain ⟨T1, X1, e1, st1⟩ := getF X0 hx hZ hown (host := "") (Or.inl (hw 68 rfl)) Via.refl e0 Fs (g := (mkF m 2 #[.val (.ref a)] [(.ref a), (.ref a)])) rfl rfl (hb hby d29_2)
  refine own_go st1 ?_
  show own_R _ _ _ _ T1 (mkF m 5 #[.val (.ref a)] [(.int (Int32.ofNat 0)), (.ref a)])
  refine own_go (fun _ => XS.iconst X1.here hx rfl (hb hby d29_5)) ?_
  refine own_go (fun _ => XS.iadd X1.here hx rfl (hb hby d29_6) rfl) ?_
  show own_R _ _ _ _ T1 (mkF m 7 #[.val (.ref a)] [(.int ((Int32.ofNat 0) + (1 : Int32))), (.ref a)])
  rw [show ((Int32.ofNat 0) + (1 : Int32)) = (1 : Int32) from by decide]
  show own_R _ _ _ _ T1 (mkF m 7 #[.val (.ref a)] [(.int (1 : Int32)), (.ref a)])
  obtain ⟨v2, T2, L2, X2, Q2, st2⟩ := own_callP X1 hx hZ hown (y := own_y22) (hw 257 rfl) (hw 259 rfl) (hw 260 rfl) (hw 258 rfl) (hw 261 rfl) (hw 2 rfl) (by decide) (b := a) (rmGI l Z a0 hw [] h0 n0 a g9 Z0 md de kd L1 O1 Ad Od) E (W := 0) (g := (mkF m 7 #[.val (.ref a)] [(.int (1 : Int32)), (.ref a)])) rfl (by rw [hml]; rfl) (argsL := [(.int (1 : Int32))]) (rest := []) (lenOf pd__I__Ljava_lang_Object_ rfl) rfl rfl (Nat.le_of_eq rfl) (hb hby d29_7) e1 (by decide) (by decide) (by decide) (by decide)
  obtain ⟨ed, k, rfl, N2q, q2⟩ := Q2
  have N2 := Fr.app N0 N2q
  refine own_go st2 ?_
  show own_R _ _ _ _ T2 (mkF m 10 #[.val (.ref a)] [(.ref ed)])
  exact own_end X2 (some (.ref ed)) (fun h => by rw [hret] at h; cases h) hlk (fun fs hr => own_retA X2 hx hret rfl rfl (hb hby d29_10) hr) ⟨ed, k, rfl, N2, q2⟩ (by decide) (by decide)
theorem own_ofNat {n : Nat} (h : n < 2147483648) : (Int32.ofNat n).toInt = n := Int32.toInt_ofNat_of_lt h
theorem own_clamp {n : Nat} (h : n < 2147483648) : (Int32.ofNat n).toNatClampNeg = n := by
  have q := own_ofNat h
  simp only [Int32.toNatClampNeg]; omega
theorem own_ge0 {n : Nat} (h : n < 2147483648) : ¬ Int32.ofNat n < 0 := by
  rw [Int32.lt_iff_toInt_lt, own_ofNat h]; show ¬ (n : Int) < 0; omega
theorem own_inc (n : Nat) : Int32.ofNat n + (1 : Int32) = Int32.ofNat (n + 1) := (Int32.ofNat_add n 1).symm
theorem own_n10 {n : Nat} (h : n < 10) : ¬ Int32.ofNat n = 10 := by
  intro q
  have q2 := own_ofNat (n := n) (by omega)
  rw [q] at q2
  have : (10 : Int32).toInt = 10 := rfl
  omega
theorem own_ni {a b : Addr} (h : a ≠ b) : a ∉ [b] := fun q => h (List.mem_singleton.mp q)
/-- an ArrayList of these references, its array of ten made -/
def own_L (Z : State) (h : Heap) (x ed : Addr) (k : ClassId) (vs : List Value) (md : Int32) : Prop := own_AL Z h x ed vs.length md ∧ Arv Z h ed k (.object "java/lang/Object") (10 : Int32) vs .null ∧ Ovr Z k "java/lang/Object" ∧ ed ≠ x ∧ Exa Z h ed "[Ljava/lang/Object;"
theorem own_app {Z : State} {h h' : Heap} {a : Addr} {k : ClassId} {vs : List Value} {j : Int32} {v : Value} (A : Arv Z h a k (.object "java/lang/Object") (10 : Int32) vs .null) (hj : j.toNatClampNeg = vs.length) (hv : fits (.object "java/lang/Object") v = true) (W : Wr h h' a j.toNatClampNeg v) : Arv Z h' a k (.object "java/lang/Object") (10 : Int32) (vs ++ [v]) .null := by
  have B : Arv Z h a k (.object "java/lang/Object") (10 : Int32) (vs ++ [.null]) .null := A.pad (fun i => by
    simp only [List.getD_eq_getElem?_getD]
    rcases Nat.lt_trichotomy i vs.length with q | q | q
    · rw [List.getElem?_append_left q]
    · subst q; simp
    · rw [List.getElem?_eq_none (by simp; omega), List.getElem?_eq_none (by omega)])
  obtain ⟨c, Ar, q1, q2, q3, q4, q5⟩ := B
  have := Arv.set Ar q1 q2 q3 q4 q5 hv W vs.length hj (by simp)
  rwa [show (vs ++ [Value.null]).set vs.length v = vs ++ [v] from by simp] at this
def own_Q3 (Z : State) (x : Addr) (vs : List Value) (md : Int32) (ws : List Addr) (lo : Nat) (h0 : Heap) (n0 : Nat) (v : Option Value) (h : Heap) (L : List Loc) : Prop := ∃ (ed : Addr) (k : ClassId), v = none ∧ Fr n0 L ∧ Keep h0 h ws ∧ n0 ≤ ed ∧ lo ≤ ed ∧ own_L Z h x ed k vs md
def own_Q1 (Z : State) (x : Addr) (vs : List Value) (md : Int32) (ws : List Addr) (lo : Nat) (h0 : Heap) (n0 : Nat) (v : Option Value) (h : Heap) (L : List Loc) : Prop := ∃ (ed : Addr) (k : ClassId), v = some (.int 1) ∧ Fr n0 L ∧ Keep h0 h ws ∧ n0 ≤ ed ∧ lo ≤ ed ∧ own_L Z h x ed k vs md
set_option maxRecDepth 65536 in
set_option maxHeartbeats 8000000 in
theorem rmA3F (l : Launch) (Z : State) (a0 : Array Value) (hw : own_T a0 Z) (ws : List Jvm.Cond) (h0 : Heap) (n0 : Nat) (a : Addr) (g9 : n0 ≤ a) (Z0 : n0 ≤ h0.size) (md : Int32) (de : Addr) (kd : ClassId) (L0 : own_AL Z h0 a de 0 md) (O1 : Sta Z Z.heap "java/util/ArrayList" "DEFAULTCAPACITY_EMPTY_ELEMENTDATA" "[Ljava/lang/Object;" (.ref de)) (Ad : Arv Z h0 de kd (.object "java/lang/Object") (0 : Int32) [] .null) (Od : Old Z n0 h0) (y : Addr) (CY : String) (Ey : Exa Z h0 y CY) (wy : (Jvm.Cond.castable CY "java/lang/Object").before a0 Z = true)  :
    own_C l Z own_y20 jdk_38_method_24_code 4 none ws ({ frames := 3, cells := 1, slots := 10, locals := 50 } : Room) #[(.ref a), (.ref y), (.ref de), (.int (Int32.ofNat 0))] h0 (own_Q3 Z a [.ref y] md [a] h0.size h0 n0) := by
  refine own_body (ls := #[.val (.ref a), .val (.ref y), .val (.ref de), .val (.int (Int32.ofNat 0))]) pn_28 (fun m => by first | (simp [entryFrame, mkF, argsToLocals, Value.category]; done) | rfl) ?_
  intro p e s m below meth c T0 hZ hx hby hml hown hnm hret hlk X0 e0
  replace hml : c.maxLocals = 4 := hml
  have N0 := Fr.nil n0
  refine own_go (fun _ => XS.iloadN X0.here hx rfl (hb hby d28_0) rfl ) ?_
  refine own_go (fun _ => XS.aloadN X0.here hx rfl (hb hby d28_1) rfl rfl) ?_
  show own_R _ _ _ _ T0 (mkF m 2 #[.val (.ref a), .val (.ref y), .val (.ref de), .val (.int (Int32.ofNat 0))] [(.ref de), (.int (Int32.ofNat 0))])
  refine own_go (own_len X0 hx hZ e0 Ad (g := (mkF m 2 #[.val (.ref a), .val (.ref y), .val (.ref de), .val (.int (Int32.ofNat 0))] [(.ref de), (.int (Int32.ofNat 0))])) rfl rfl (hb hby d28_2)) ?_
  show own_R _ _ _ _ T0 (mkF m 3 #[.val (.ref a), .val (.ref y), .val (.ref de), .val (.int (Int32.ofNat 0))] [(.int (0 : Int32)), (.int (Int32.ofNat 0))])
  refine own_go (fun _ => XS.icmpNo X0.here hx rfl (hb hby d28_3) rfl (teq (rfl : (Int32.ofNat 0) = (0 : Int32))).2) ?_
  show own_R _ _ _ _ T0 (mkF m 6 #[.val (.ref a), .val (.ref y), .val (.ref de), .val (.int (Int32.ofNat 0))] [])
  refine own_go (fun _ => XS.aloadN X0.here hx rfl (hb hby d28_6) rfl rfl) ?_
  show own_R _ _ _ _ T0 (mkF m 7 #[.val (.ref a), .val (.ref y), .val (.ref de), .val (.int (Int32.ofNat 0))] [(.ref a)])
  obtain ⟨v2, T2, L2, X2, Q2, st2⟩ := own_callP X0 hx hZ hown (y := own_y21) (hw 252 rfl) (hw 254 rfl) (hw 255 rfl) (hw 253 rfl) (hw 256 rfl) (hw 2 rfl) (by decide) (b := a) (rmG0 l Z a0 hw [] h0 n0 a g9 Z0 md de kd L0 O1 Ad Od) L0.1 (W := 0) (g := (mkF m 7 #[.val (.ref a), .val (.ref y), .val (.ref de), .val (.int (Int32.ofNat 0))] [(.ref a)])) rfl (by rw [hml]; rfl) (argsL := []) (rest := []) (lenOf pd____Ljava_lang_Object_ rfl) rfl rfl (Nat.le_of_eq rfl) (hb hby d28_7) e0 (by decide) (by decide) (by decide) (by decide)
  obtain ⟨ed, k, rfl, N2q, K2, g2, ⟨E2, Fe2, Fs2, Fm2⟩, A2, V2, X2e⟩ := Q2
  have N2 := Fr.app N0 N2q
  have ne : ed ≠ a := own_ne (Nat.lt_of_lt_of_le L0.1.lt g2)
  replace Ey := Ey.keep K2
  have ge : n0 ≤ ed := Nat.le_trans Z0 g2
  refine own_go st2 ?_
  show own_R _ _ _ _ T2 (mkF m 10 #[.val (.ref a), .val (.ref y), .val (.ref de), .val (.int (Int32.ofNat 0))] [(.ref ed)])
  refine own_go (fun _ => XS.astoreN X2.here hx rfl (hb hby d28_10) rfl rfl (l' := #[.val (.ref a), .val (.ref y), .val (.ref ed), .val (.int (Int32.ofNat 0))]) rfl) ?_
  refine own_go (fun _ => XS.aloadN X2.here hx rfl (hb hby d28_11) rfl rfl) ?_
  refine own_go (fun _ => XS.iloadN X2.here hx rfl (hb hby d28_12) rfl ) ?_
  refine own_go (fun _ => XS.aloadN X2.here hx rfl (hb hby d28_13) rfl rfl) ?_
  show own_R _ _ _ _ T2 (mkF m 14 #[.val (.ref a), .val (.ref y), .val (.ref ed), .val (.int (Int32.ofNat 0))] [(.ref y), (.int (Int32.ofNat 0)), (.ref ed)])
  obtain ⟨cl7, Ar7, qa, qb, qc, qd, qe⟩ := A2
  obtain ⟨T7, h7, X7, e7, W7, st7⟩ := stR X2 hx hZ rfl Ar7 (j := (Int32.ofNat 0)) (by rw [qb, own_clamp (by omega)]; intro q; rcases q with q | q; exact own_ge0 (by omega) q; exact absurd q (by show ¬ 10 ≤ _; omega)) rfl (Sto.ofV Ar7 qa V2 (Ins.of_exa Ey wy)) (g := (mkF m 14 #[.val (.ref a), .val (.ref y), .val (.ref ed), .val (.int (Int32.ofNat 0))] [(.ref y), (.int (Int32.ofNat 0)), (.ref ed)])) rfl rfl (hb hby d28_14)
  refine own_go st7 ?_
  show own_R _ _ _ _ T7 (mkF m 15 #[.val (.ref a), .val (.ref y), .val (.ref ed), .val (.int (Int32.ofNat 0))] [])
  have A7 := own_app (vs := []) ⟨cl7, Ar7, qa, qb, qc, qd, qe⟩ (own_clamp (n := 0) (by omega)) rfl W7
  have N7 := Fr.snoc X7 N2 ge
  refine own_go (fun _ => XS.aloadN X7.here hx rfl (hb hby d28_15) rfl rfl) ?_
  refine own_go (fun _ => XS.iloadN X7.here hx rfl (hb hby d28_16) rfl ) ?_
  refine own_go (fun _ => XS.iconst X7.here hx rfl (hb hby d28_17)) ?_
  refine own_go (fun _ => XS.iadd X7.here hx rfl (hb hby d28_18) rfl) ?_
  show own_R _ _ _ _ T7 (mkF m 19 #[.val (.ref a), .val (.ref y), .val (.ref ed), .val (.int (Int32.ofNat 0))] [(.int ((Int32.ofNat 0) + (1 : Int32))), (.ref a)])
  obtain ⟨T8, h8, X8, e8, W8, st8⟩ := putF X7 hx hZ hown (host := "") (Or.inl (hw 68 rfl)) Via.refl e7 (Fs2.other W7 (Or.inl (Ne.symm ne))) (E2.wr W7) (Or.inl (hw 69 rfl)) (hw 1 rfl) (ty := .int) (by decide) rfl rfl (g := (mkF m 19 #[.val (.ref a), .val (.ref y), .val (.ref ed), .val (.int (Int32.ofNat 0))] [(.int ((Int32.ofNat 0) + (1 : Int32))), (.ref a)])) rfl rfl (hb hby d28_19)
  refine own_go st8 ?_
  show own_R _ _ _ _ T8 (mkF m 22 #[.val (.ref a), .val (.ref y), .val (.ref ed), .val (.int (Int32.ofNat 0))] [])
  have N8 := Fr.snoc X8 N7 g9
  exact own_end X8 none (fun _ => rfl) hlk (fun fs hr => X8.returnOut hx hret (hb hby d28_22) hr) (by show own_Q3 Z a [.ref y] md [a] h0.size h0 n0 _ T8.heap _; rw [e8]; exact ⟨ed, k, rfl, N8, (K2.wr W7 (Or.inr g2)).wr W8 (Or.inl (by simp)), ge, g2, ⟨(E2.wr W7).wr W8, (Fe2.other W7 (Or.inl (Ne.symm ne))).other W8 (Or.inr (slot_ne (Or.inl (hw 25 rfl)) (Or.inl (hw 69 rfl)) (by decide) (t := (.array (.object "java/lang/Object"))) (t' := .int) (by decide) (by decide))), (Fs2.other W7 (Or.inl (Ne.symm ne))).same W8, (Fm2.other W7 (Or.inl (Ne.symm ne))).other W8 (Or.inr (slot_ne (Or.inl (hw 22 rfl)) (Or.inl (hw 69 rfl)) (by decide) (t := .int) (t' := .int) (by decide) (by decide)))⟩, A7.other W8 ne, V2, ne, (X2e.wr W7).wr W8⟩) (by decide) (by decide)
set_option maxRecDepth 65536 in
set_option maxHeartbeats 8000000 in
theorem rmA3M (l : Launch) (Z : State) (a0 : Array Value) (hw : own_T a0 Z) (ws : List Jvm.Cond) (h0 : Heap) (n0 : Nat) (a : Addr) (g9 : n0 ≤ a) (md : Int32) (ed : Addr) (k : ClassId) (vs : List Value) (hvs : vs.length ≤ 5) (L0 : own_L Z h0 a ed k vs md) (ge : n0 ≤ ed) (lo : Nat) (gl : lo ≤ ed) (y : Addr) (CY : String) (Ey : Exa Z h0 y CY) (wy : (Jvm.Cond.castable CY "java/lang/Object").before a0 Z = true)  :
    own_C l Z own_y20 jdk_38_method_24_code 4 none ws ({ frames := 0, cells := 0, slots := 0, locals := 0 } : Room) #[(.ref a), (.ref y), (.ref ed), (.int (Int32.ofNat vs.length))] h0 (own_Q3 Z a (vs ++ [.ref y]) md [a, ed] lo h0 n0) := by
  refine own_body (ls := #[.val (.ref a), .val (.ref y), .val (.ref ed), .val (.int (Int32.ofNat vs.length))]) pn_28 (fun m => by first | (simp [entryFrame, mkF, argsToLocals, Value.category]; done) | rfl) ?_
  intro p e s m below meth c T0 hZ hx hby hml hown hnm hret hlk X0 e0
  replace hml : c.maxLocals = 4 := hml
  have N0 := Fr.nil n0
  obtain ⟨⟨E2, Fe2, Fs2, Fm2⟩, A2, V2, ne, X2e⟩ := L0
  refine own_go (fun _ => XS.iloadN X0.here hx rfl (hb hby d28_0) rfl ) ?_
  refine own_go (fun _ => XS.aloadN X0.here hx rfl (hb hby d28_1) rfl rfl) ?_
  show own_R _ _ _ _ T0 (mkF m 2 #[.val (.ref a), .val (.ref y), .val (.ref ed), .val (.int (Int32.ofNat vs.length))] [(.ref ed), (.int (Int32.ofNat vs.length))])
  refine own_go (own_len X0 hx hZ e0 A2 (g := (mkF m 2 #[.val (.ref a), .val (.ref y), .val (.ref ed), .val (.int (Int32.ofNat vs.length))] [(.ref ed), (.int (Int32.ofNat vs.length))])) rfl rfl (hb hby d28_2)) ?_
  show own_R _ _ _ _ T0 (mkF m 3 #[.val (.ref a), .val (.ref y), .val (.ref ed), .val (.int (Int32.ofNat vs.length))] [(.int (10 : Int32)), (.int (Int32.ofNat vs.length))])
  refine own_go (fun _ => XS.icmpYes X0.here hx rfl (pc0 := 3) (pc' := 11) rfl (hb hby d28_3) rfl (feq (own_n10 (by omega) : ¬ ((Int32.ofNat vs.length) = (10 : Int32)))).2 (by decide) (by decide)) ?_
  show own_R _ _ _ _ T0 (mkF m 11 #[.val (.ref a), .val (.ref y), .val (.ref ed), .val (.int (Int32.ofNat vs.length))] [])
  refine own_go (fun _ => XS.aloadN X0.here hx rfl (hb hby d28_11) rfl rfl) ?_
  refine own_go (fun _ => XS.iloadN X0.here hx rfl (hb hby d28_12) rfl ) ?_
  refine own_go (fun _ => XS.aloadN X0.here hx rfl (hb hby d28_13) rfl rfl) ?_
  show own_R _ _ _ _ T0 (mkF m 14 #[.val (.ref a), .val (.ref y), .val (.ref ed), .val (.int (Int32.ofNat vs.length))] [(.ref y), (.int (Int32.ofNat vs.length)), (.ref ed)])
  obtain ⟨cl7, Ar7, qa, qb, qc, qd, qe⟩ := A2
  obtain ⟨T7, h7, X7, e7, W7, st7⟩ := stR X0 hx hZ e0 Ar7 (j := (Int32.ofNat vs.length)) (by rw [qb, own_clamp (by omega)]; intro q; rcases q with q | q; exact own_ge0 (by omega) q; exact absurd q (by show ¬ 10 ≤ _; omega)) rfl (Sto.ofV Ar7 qa V2 (Ins.of_exa Ey wy)) (g := (mkF m 14 #[.val (.ref a), .val (.ref y), .val (.ref ed), .val (.int (Int32.ofNat vs.length))] [(.ref y), (.int (Int32.ofNat vs.length)), (.ref ed)])) rfl rfl (hb hby d28_14)
  refine own_go st7 ?_
  show own_R _ _ _ _ T7 (mkF m 15 #[.val (.ref a), .val (.ref y), .val (.ref ed), .val (.int (Int32.ofNat vs.length))] [])
  have A7 := own_app (vs := vs) ⟨cl7, Ar7, qa, qb, qc, qd, qe⟩ (own_clamp (n := vs.length) (by omega)) rfl W7
  have N7 := Fr.snoc X7 N0 ge
  refine own_go (fun _ => XS.aloadN X7.here hx rfl (hb hby d28_15) rfl rfl) ?_
  refine own_go (fun _ => XS.iloadN X7.here hx rfl (hb hby d28_16) rfl ) ?_
  refine own_go (fun _ => XS.iconst X7.here hx rfl (hb hby d28_17)) ?_
  refine own_go (fun _ => XS.iadd X7.here hx rfl (hb hby d28_18) rfl) ?_
  show own_R _ _ _ _ T7 (mkF m 19 #[.val (.ref a), .val (.ref y), .val (.ref ed), .val (.int (Int32.ofNat vs.length))] [(.int ((Int32.ofNat vs.length) + (1 : Int32))), (.ref a)])
  rw [own_inc]
  show own_R _ _ _ _ T7 (mkF m 19 #[.val (.ref a), .val (.ref y), .val (.ref ed), .val (.int (Int32.ofNat vs.length))] [(.int (Int32.ofNat (vs.length + 1))), (.ref a)])
  obtain ⟨T8, h8, X8, e8, W8, st8⟩ := putF X7 hx hZ hown (host := "") (Or.inl (hw 68 rfl)) Via.refl e7 (Fs2.other W7 (Or.inl (Ne.symm ne))) (E2.wr W7) (Or.inl (hw 69 rfl)) (hw 1 rfl) (ty := .int) (by decide) rfl rfl (g := (mkF m 19 #[.val (.ref a), .val (.ref y), .val (.ref ed), .val (.int (Int32.ofNat vs.length))] [(.int (Int32.ofNat (vs.length + 1))), (.ref a)])) rfl rfl (hb hby d28_19)
  refine own_go st8 ?_
  show own_R _ _ _ _ T8 (mkF m 22 #[.val (.ref a), .val (.ref y), .val (.ref ed), .val (.int (Int32.ofNat vs.length))] [])
  have N8 := Fr.snoc X8 N7 g9
  have Fs8 := (Fs2.other W7 (Or.inl (Ne.symm ne))).same W8
  exact own_end X8 none (fun _ => rfl) hlk (fun fs hr => X8.returnOut hx hret (hb hby d28_22) hr) (by show own_Q3 Z a (vs ++ [.ref y]) md [a, ed] lo h0 n0 _ T8.heap _; rw [e8]; exact ⟨ed, k, rfl, N8, ((Keep.refl h0 [a, ed]).wr W7 (Or.inl (by simp))).wr W8 (Or.inl (by simp)), ge, gl, ⟨(E2.wr W7).wr W8, (Fe2.other W7 (Or.inl (Ne.symm ne))).other W8 (Or.inr (slot_ne (Or.inl (hw 25 rfl)) (Or.inl (hw 69 rfl)) (by decide) (t := (.array (.object "java/lang/Object"))) (t' := .int) (by decide) (by decide))), by rw [List.length_append]; exact Fs8, (Fm2.other W7 (Or.inl (Ne.symm ne))).other W8 (Or.inr (slot_ne (Or.inl (hw 22 rfl)) (Or.inl (hw 69 rfl)) (by decide) (t := .int) (t' := .int) (by decide) (by decide)))⟩, A7.other W8 ne, V2, ne, (X2e.wr W7).wr W8⟩) (by decide) (by decide)
set_option maxRecDepth 65536 in
set_option maxHeartbeats 8000000 in
theorem rmA1F (l : Launch) (Z : State) (a0 : Array Value) (hw : own_T a0 Z) (ws : List Jvm.Cond) (h0 : Heap) (n0 : Nat) (a : Addr) (g9 : n0 ≤ a) (Z0 : n0 ≤ h0.size) (md : Int32) (de : Addr) (kd : ClassId) (L0 : own_AL Z h0 a de 0 md) (O1 : Sta Z Z.heap "java/util/ArrayList" "DEFAULTCAPACITY_EMPTY_ELEMENTDATA" "[Ljava/lang/Object;" (.ref de)) (Ad : Arv Z h0 de kd (.object "java/lang/Object") (0 : Int32) [] .null) (Od : Old Z n0 h0) (y : Addr) (CY : String) (Ey : Exa Z h0 y CY) (wy : (Jvm.Cond.castable CY "java/lang/Object").before a0 Z = true)  :
    own_C l Z own_y19 jdk_38_method_25_code 2 (some .boolean) ws ({ frames := 4, cells := 1, slots := 10, locals := 70 } : Room) #[(.ref a), (.ref y)] h0 (own_Q1 Z a [.ref y] (md + 1) [a] h0.size h0 n0) := by
  refine own_body (ls := #[.val (.ref a), .val (.ref y)]) pn_27 (fun m => by first | (simp [entryFrame, mkF, argsToLocals, Value.category]; done) | rfl) ?_
  intro p e s m below meth c T0 hZ hx hby hml hown hnm hret hlk X0 e0
  replace hml : c.maxLocals = 2 := hml
  have N0 := Fr.nil n0
  obtain ⟨E, Fe, Fs, Fm⟩ := L0
  refine own_go (fun _ => XS.aloadN X0.here hx rfl (hb hby d27_0) rfl rfl) ?_
  refine own_go (fun _ => XS.dup X0.here hx rfl (hb hby d27_1) rfl rfl) ?_
  show own_R _ _ _ _ T0 (mkF m 2 #[.val (.ref a), .val (.ref y)] [(.ref a), (.ref a)])
  obtain ⟨T1, X1, e1, st1⟩ := getF X0 hx hZ hown (host := "") (Or.inl (hw 245 rfl)) (Via.of (hw 246 rfl)) e0 Fm (g := (mkF m 2 #[.val (.ref a), .val (.ref y)] [(.ref a), (.ref a)])) rfl rfl (hb hby d27_2)
  refine own_go st1 ?_
  show own_R _ _ _ _ T1 (mkF m 5 #[.val (.ref a), .val (.ref y)] [(.int md), (.ref a)])
  refine own_go (fun _ => XS.iconst X1.here hx rfl (hb hby d27_5)) ?_
  refine own_go (fun _ => XS.iadd X1.here hx rfl (hb hby d27_6) rfl) ?_
  show own_R _ _ _ _ T1 (mkF m 7 #[.val (.ref a), .val (.ref y)] [(.int (md + (1 : Int32))), (.ref a)])
  obtain ⟨T2, h2, X2, e2, W2, st2⟩ := putF X1 hx hZ hown (host := "") (Or.inl (hw 245 rfl)) (Via.of (hw 246 rfl)) e1 Fm E (Or.inl (hw 22 rfl)) (hw 1 rfl) (ty := .int) (by decide) rfl rfl (g := (mkF m 7 #[.val (.ref a), .val (.ref y)] [(.int (md + (1 : Int32))), (.ref a)])) rfl rfl (hb hby d27_7)
  refine own_go st2 ?_
  show own_R _ _ _ _ T2 (mkF m 10 #[.val (.ref a), .val (.ref y)] [])
  have N2 := Fr.snoc X2 N0 g9
  have E2 := E.wr W2
  have Fe2 := Fe.other W2 (Or.inr (slot_ne (Or.inl (hw 25 rfl)) (Or.inl (hw 22 rfl)) (by decide) (t := (.array (.object "java/lang/Object"))) (t' := .int) (by decide) (by decide)))
  have Fs2 := Fs.other W2 (Or.inr (slot_ne (Or.inl (hw 69 rfl)) (Or.inl (hw 22 rfl)) (by decide) (t := .int) (t' := .int) (by decide) (by decide)))
  have Fm2 := Fm.same W2
  have K2 := Keep.of_wr W2
  refine own_go (fun _ => XS.aloadN X2.here hx rfl (hb hby d27_10) rfl rfl) ?_
  refine own_go (fun _ => XS.aloadN X2.here hx rfl (hb hby d27_11) rfl rfl) ?_
  refine own_go (fun _ => XS.aloadN X2.here hx rfl (hb hby d27_12) rfl rfl) ?_
  show own_R _ _ _ _ T2 (mkF m 13 #[.val (.ref a), .val (.ref y)] [(.ref a), (.ref y), (.ref a)])
  obtain ⟨T3, X3, e3, st3⟩ := getF X2 hx hZ hown (host := "") (Or.inl (hw 24 rfl)) Via.refl e2 Fe2 (g := (mkF m 13 #[.val (.ref a), .val (.ref y)] [(.ref a), (.ref y), (.ref a)])) rfl rfl (hb hby d27_13)
  refine own_go st3 ?_
  show own_R _ _ _ _ T3 (mkF m 16 #[.val (.ref a), .val (.ref y)] [(.ref de), (.ref y), (.ref a)])
  refine own_go (fun _ => XS.aloadN X3.here hx rfl (hb hby d27_16) rfl rfl) ?_
  show own_R _ _ _ _ T3 (mkF m 17 #[.val (.ref a), .val (.ref y)] [(.ref a), (.ref de), (.ref y), (.ref a)])
  obtain ⟨T4, X4, e4, st4⟩ := getF X3 hx hZ hown (host := "") (Or.inl (hw 68 rfl)) Via.refl e3 Fs2 (g := (mkF m 17 #[.val (.ref a), .val (.ref y)] [(.ref a), (.ref de), (.ref y), (.ref a)])) rfl rfl (hb hby d27_17)
  refine own_go st4 ?_
  show own_R _ _ _ _ T4 (mkF m 20 #[.val (.ref a), .val (.ref y)] [(.int (Int32.ofNat 0)), (.ref de), (.ref y), (.ref a)])
  have nd : de ≠ a := Ne.symm (E.neArv Ad (hw 1 rfl))
  obtain ⟨v5, T5, L5, X5, Q5, st5⟩ := own_callP X4 hx hZ hown (y := own_y20) (hw 247 rfl) (hw 249 rfl) (hw 250 rfl) (hw 248 rfl) (hw 251 rfl) (hw 2 rfl) (by decide) (b := a) (rmA3F l Z a0 hw [] h2 n0 a g9 (Nat.le_trans Z0 K2.1) (md + 1) de kd ⟨E2, Fe2, Fs2, Fm2⟩ O1 (Ad.keep K2 (own_ni nd)) (Od.keep K2 (fun x hx => by cases List.mem_singleton.mp hx; exact g9)) y CY (Ey.keep K2) wy) E2 (W := 0) (g := (mkF m 20 #[.val (.ref a), .val (.ref y)] [(.int (Int32.ofNat 0)), (.ref de), (.ref y), (.ref a)])) rfl (by rw [hml]; rfl) (argsL := [(.ref y), (.ref de), (.int (Int32.ofNat 0))]) (rest := []) (lenOf pd__Ljava_lang_Object__Ljava_lang_Object_I_V rfl) rfl rfl (Nat.le_of_eq rfl) (hb hby d27_20) e4 (by decide) (by decide) (by decide) (by decide)
  obtain ⟨ed5, k5, rfl, N5q, K5, ge5, gl5, L5⟩ := Q5
  have N5 := Fr.app N2 N5q
  refine own_go st5 ?_
  show own_R _ _ _ _ T5 (mkF m 23 #[.val (.ref a), .val (.ref y)] [])
  refine own_go (fun _ => XS.iconst X5.here hx rfl (hb hby d27_23)) ?_
  show own_R _ _ _ _ T5 (mkF m 24 #[.val (.ref a), .val (.ref y)] [(.int (1 : Int32))])
  exact own_end X5 (some (.int (nar .boolean (1 : Int32)))) (fun h => by rw [hret] at h; cases h) hlk (fun fs hr => retN X5 hx (t := .boolean) hret (by simp) (hb hby d27_24) hr) ⟨ed5, k5, rfl, N5, ((Keep.refl h0 [a]).trans K2 (fun x hx => Or.inl (by cases List.mem_singleton.mp hx; simp))).trans K5 (fun x hx => Or.inl hx), ge5, Nat.le_trans K2.1 gl5, L5⟩ (by decide) (by decide)
set_option maxRecDepth 65536 in
set_option maxHeartbeats 8000000 in
theorem rmA1M (l : Launch) (Z : State) (a0 : Array Value) (hw : own_T a0 Z) (ws : List Jvm.Cond) (h0 : Heap) (n0 : Nat) (a : Addr) (g9 : n0 ≤ a) (md : Int32) (ed : Addr) (k : ClassId) (vs : List Value) (hvs : vs.length ≤ 5) (L0 : own_L Z h0 a ed k vs md) (ge : n0 ≤ ed) (lo : Nat) (gl : lo ≤ ed) (y : Addr) (CY : String) (Ey : Exa Z h0 y CY) (wy : (Jvm.Cond.castable CY "java/lang/Object").before a0 Z = true)  :
    own_C l Z own_y19 jdk_38_method_25_code 2 (some .boolean) ws ({ frames := 4, cells := 0, slots := 0, locals := 70 } : Room) #[(.ref a), (.ref y)] h0 (own_Q1 Z a (vs ++ [.ref y]) (md + 1) [a, ed] lo h0 n0) := by
  refine own_body (ls := #[.val (.ref a), .val (.ref y)]) pn_27 (fun m => by first | (simp [entryFrame, mkF, argsToLocals, Value.category]; done) | rfl) ?_
  intro p e s m below meth c T0 hZ hx hby hml hown hnm hret hlk X0 e0
  replace hml : c.maxLocals = 2 := hml
  have N0 := Fr.nil n0
  obtain ⟨⟨E, Fe, Fs, Fm⟩, A2, V2, ne, X2e⟩ := L0
  refine own_go (fun _ => XS.aloadN X0.here hx rfl (hb hby d27_0) rfl rfl) ?_
  refine own_go (fun _ => XS.dup X0.here hx rfl (hb hby d27_1) rfl rfl) ?_
  show own_R _ _ _ _ T0 (mkF m 2 #[.val (.ref a), .val (.ref y)] [(.ref a), (.ref a)])
  obtain ⟨T1, X1, e1, st1⟩ := getF X0 hx hZ hown (host := "") (Or.inl (hw 245 rfl)) (Via.of (hw 246 rfl)) e0 Fm (g := (mkF m 2 #[.val (.ref a), .val (.ref y)] [(.ref a), (.ref a)])) rfl rfl (hb hby d27_2)
  refine own_go st1 ?_
  show own_R _ _ _ _ T1 (mkF m 5 #[.val (.ref a), .val (.ref y)] [(.int md), (.ref a)])
  refine own_go (fun _ => XS.iconst X1.here hx rfl (hb hby d27_5)) ?_
  refine own_go (fun _ => XS.iadd X1.here hx rfl (hb hby d27_6) rfl) ?_
  show own_R _ _ _ _ T1 (mkF m 7 #[.val (.ref a), .val (.ref y)] [(.int (md + (1 : Int32))), (.ref a)])
  obtain ⟨T2, h2, X2, e2, W2, st2⟩ := putF X1 hx hZ hown (host := "") (Or.inl (hw 245 rfl)) (Via.of (hw 246 rfl)) e1 Fm E (Or.inl (hw 22 rfl)) (hw 1 rfl) (ty := .int) (by decide) rfl rfl (g := (mkF m 7 #[.val (.ref a), .val (.ref y)] [(.int (md + (1 : Int32))), (.ref a)])) rfl rfl (hb hby d27_7)
  refine own_go st2 ?_
  show own_R _ _ _ _ T2 (mkF m 10 #[.val (.ref a), .val (.ref y)] [])
  have N2 := Fr.snoc X2 N0 g9
  have E2 := E.wr W2
  have Fe2 := Fe.other W2 (Or.inr (slot_ne (Or.inl (hw 25 rfl)) (Or.inl (hw 22 rfl)) (by decide) (t := (.array (.object "java/lang/Object"))) (t' := .int) (by decide) (by decide)))
  have Fs2 := Fs.other W2 (Or.inr (slot_ne (Or.inl (hw 69 rfl)) (Or.inl (hw 22 rfl)) (by decide) (t := .int) (t' := .int) (by decide) (by decide)))
  have Fm2 := Fm.same W2
  have K2 := Keep.of_wr W2
  refine own_go (fun _ => XS.aloadN X2.here hx rfl (hb hby d27_10) rfl rfl) ?_
  refine own_go (fun _ => XS.aloadN X2.here hx rfl (hb hby d27_11) rfl rfl) ?_
  refine own_go (fun _ => XS.aloadN X2.here hx rfl (hb hby d27_12) rfl rfl) ?_
  show own_R _ _ _ _ T2 (mkF m 13 #[.val (.ref a), .val (.ref y)] [(.ref a), (.ref y), (.ref a)])
  obtain ⟨T3, X3, e3, st3⟩ := getF X2 hx hZ hown (host := "") (Or.inl (hw 24 rfl)) Via.refl e2 Fe2 (g := (mkF m 13 #[.val (.ref a), .val (.ref y)] [(.ref a), (.ref y), (.ref a)])) rfl rfl (hb hby d27_13)
  refine own_go st3 ?_
  show own_R _ _ _ _ T3 (mkF m 16 #[.val (.ref a), .val (.ref y)] [(.ref ed), (.ref y), (.ref a)])
  refine own_go (fun _ => XS.aloadN X3.here hx rfl (hb hby d27_16) rfl rfl) ?_
  show own_R _ _ _ _ T3 (mkF m 17 #[.val (.ref a), .val (.ref y)] [(.ref a), (.ref ed), (.ref y), (.ref a)])
  obtain ⟨T4, X4, e4, st4⟩ := getF X3 hx hZ hown (host := "") (Or.inl (hw 68 rfl)) Via.refl e3 Fs2 (g := (mkF m 17 #[.val (.ref a), .val (.ref y)] [(.ref a), (.ref ed), (.ref y), (.ref a)])) rfl rfl (hb hby d27_17)
  refine own_go st4 ?_
  show own_R _ _ _ _ T4 (mkF m 20 #[.val (.ref a), .val (.ref y)] [(.int (Int32.ofNat vs.length)), (.ref ed), (.ref y), (.ref a)])
  obtain ⟨v5, T5, L5, X5, Q5, st5⟩ := own_callP X4 hx hZ hown (y := own_y20) (hw 247 rfl) (hw 249 rfl) (hw 250 rfl) (hw 248 rfl) (hw 251 rfl) (hw 2 rfl) (by decide) (b := a) (rmA3M l Z a0 hw [] h2 n0 a g9 (md + 1) ed k vs hvs ⟨⟨E2, Fe2, Fs2, Fm2⟩, A2.keep K2 (own_ni ne), V2, ne, X2e.keep K2⟩ ge lo gl y CY (Ey.keep K2) wy) E2 (W := 0) (g := (mkF m 20 #[.val (.ref a), .val (.ref y)] [(.int (Int32.ofNat vs.length)), (.ref ed), (.ref y), (.ref a)])) rfl (by rw [hml]; rfl) (argsL := [(.ref y), (.ref ed), (.int (Int32.ofNat vs.length))]) (rest := []) (lenOf pd__Ljava_lang_Object__Ljava_lang_Object_I_V rfl) rfl rfl (Nat.le_of_eq rfl) (hb hby d27_20) e4 (by decide) (by decide) (by decide) (by decide)
  obtain ⟨ed5, k5, rfl, N5q, K5, ge5, gl5, L5⟩ := Q5
  have N5 := Fr.app N2 N5q
  refine own_go st5 ?_
  show own_R _ _ _ _ T5 (mkF m 23 #[.val (.ref a), .val (.ref y)] [])
  refine own_go (fun _ => XS.iconst X5.here hx rfl (hb hby d27_23)) ?_
  show own_R _ _ _ _ T5 (mkF m 24 #[.val (.ref a), .val (.ref y)] [(.int (1 : Int32))])
  exact own_end X5 (some (.int (nar .boolean (1 : Int32)))) (fun h => by rw [hret] at h; cases h) hlk (fun fs hr => retN X5 hx (t := .boolean) hret (by simp) (hb hby d27_24) hr) ⟨ed5, k5, rfl, N5, ((Keep.refl h0 [a, ed]).trans K2 (fun x hx => Or.inl (by cases List.mem_singleton.mp hx; simp))).trans K5 (fun x hx => Or.inl hx), ge5, gl5, L5⟩ (by decide) (by decide)
def own_Qk (sa : Addr) (h0 : Heap) (n0 : Nat) (v : Option Value) (h : Heap) (L : List Loc) : Prop := v = none ∧ Fr n0 L ∧ Keep h0 h [sa]
def own_Qz (h0 : Heap) (n0 : Nat) (v : Option Value) (h : Heap) (L : List Loc) : Prop := ∃ b : Addr, v = some (.ref b) ∧ Fr n0 L ∧ Keep h0 h [] ∧ h0.size ≤ b
theorem own_keep0 {h h' h2 : Heap} {b : Addr} (E : Keep h h' []) (K : Keep h' h2 [b]) (q : h.size ≤ b) : Keep h h2 [] := E.trans K (fun x hx => Or.inr (by cases List.mem_singleton.mp hx; exact q))
set_option maxRecDepth 65536 in
set_option maxHeartbeats 4000000 in
theorem rmCE (l : Launch) (Z : State) (a0 : Array Value) (hw : own_T a0 Z) (ws : List Jvm.Cond) (h0 : Heap) (n0 : Nat) (ch : Int32) (q : ¬ (255 : Int32) < ch) :
    own_C l Z own_y14 jdk_43_method_3_code 1 (some .boolean) ws ({ frames := 0, cells := 0, slots := 0, locals := 0 } : Room) #[(.int ch)] h0 (own_Qr (some (.int 1)) h0 n0) := by
  refine own_body (ls := #[.val (.int ch)]) pn_23 (fun m => by first | (simp [entryFrame, mkF, argsToLocals, Value.category]; done) | rfl) ?_
  intro p e s m below meth c T0 hZ hx hby hml hown hnm hret hlk X0 e0
  replace hml : c.maxLocals = 1 := hml
  have N0 := Fr.nil n0
  refine own_go (fun _ => XS.iloadN X0.here hx rfl (hb hby d23_0) rfl ) ?_
  refine own_go (fun _ => XS.sipush X0.here hx rfl (hb hby d23_1)) ?_
  show own_R _ _ _ _ T0 (mkF m 4 #[.val (.int ch)] [(.int (255 : Int32)), (.int ch)])
  refine own_go (fun _ => XS.icmpNo X0.here hx rfl (hb hby d23_4) rfl (flt q).2.2.1) ?_
  show own_R _ _ _ _ T0 (mkF m 7 #[.val (.int ch)] [])
  refine own_go (fun _ => XS.iconst X0.here hx rfl (hb hby d23_7)) ?_
  refine own_go (fun _ => XS.goto X0.here hx rfl (pc0 := 8) (pc' := 12) rfl (hb hby d23_8) (by decide) (by decide)) ?_
  show own_R _ _ _ _ T0 (mkF m 12 #[.val (.int ch)] [(.int (1 : Int32))])
  exact own_end X0 (some (.int (nar .boolean (1 : Int32)))) (fun h => by rw [hret] at h; cases h) hlk (fun fs hr => retN X0 hx (t := .boolean) hret (by simp) (hb hby d23_12) hr) ⟨rfl, N0, e0⟩ (by decide) (by decide)
set_option maxRecDepth 65536 in
set_option maxHeartbeats 4000000 in
theorem rmL1 (l : Launch) (Z : State) (a0 : Array Value) (hw : own_T a0 Z) (ws : List Jvm.Cond) (h0 : Heap) (n0 : Nat) (ch : Int32) (Z0 : n0 ≤ h0.size) :
    own_C l Z own_y15 jdk_43_method_46_code 1 (some (.array .byte)) ws ({ frames := 0, cells := 1, slots := 1, locals := 0 } : Room) #[(.int ch)] h0 (own_Qz h0 n0) := by
  refine own_body (ls := #[.val (.int ch)]) pn_24 (fun m => by first | (simp [entryFrame, mkF, argsToLocals, Value.category]; done) | rfl) ?_
  intro p e s m below meth c T0 hZ hx hby hml hown hnm hret hlk X0 e0
  replace hml : c.maxLocals = 1 := hml
  have N0 := Fr.nil n0
  refine own_go (fun _ => XS.iconst X0.here hx rfl (hb hby d24_0)) ?_
  show own_R _ _ _ _ T0 (mkF m 1 #[.val (.int ch)] [(.int (1 : Int32))])
  obtain ⟨T1, h1, k1, X1, e1, E1, A1, st1⟩ := newP X0 hx hZ (hw 210 rfl) e0 (g := (mkF m 1 #[.val (.int ch)] [(.int (1 : Int32))])) rfl (hb hby d24_1) rfl (by decide) (cap := 1) (by decide) (by decide) (by decide) (by decide)
  obtain ⟨a1, g1⟩ : ∃ z, z = h0.size := ⟨_, rfl⟩
  rw [← g1] at A1 st1
  refine own_go st1 ?_
  show own_R _ _ _ _ T1 (mkF m 3 #[.val (.int ch)] [(.ref a1)])
  refine own_go (fun _ => XS.dup X1.here hx rfl (hb hby d24_3) rfl rfl) ?_
  refine own_go (fun _ => XS.iconst X1.here hx rfl (hb hby d24_4)) ?_
  refine own_go (fun _ => XS.iloadN X1.here hx rfl (hb hby d24_5) rfl ) ?_
  refine own_go (fun _ => XS.i2b X1.here hx rfl (hb hby d24_6) rfl) ?_
  show own_R _ _ _ _ T1 (mkF m 7 #[.val (.int ch)] [(.int (ch.toInt8.toInt32)), (.int (0 : Int32)), (.ref a1), (.ref a1)])
  have Av : Arv Z h1 a1 k1 .byte (Int32.ofNat 1) [.int 0] (.int 0) := (Arv.new A1 (by decide)).pad (fun i => by rcases i with _ | i <;> rfl)
  obtain ⟨T2, h2, X2, e2, W2, A2, st2⟩ := own_stB X1 hx hZ e1 Av (j := (0 : Int32)) ⟨by decide, by decide⟩ 0 rfl (by decide) (g := (mkF m 7 #[.val (.int ch)] [(.int (ch.toInt8.toInt32)), (.int (0 : Int32)), (.ref a1), (.ref a1)])) rfl rfl (hb hby d24_7)
  refine own_go st2 ?_
  show own_R _ _ _ _ T2 (mkF m 8 #[.val (.int ch)] [(.ref a1)])
  have N2 := Fr.snoc X2 N0 (by omega : n0 ≤ a1)
  exact own_end X2 (some (.ref a1)) (fun h => by rw [hret] at h; cases h) hlk (fun fs hr => own_retA X2 hx hret rfl rfl (hb hby d24_8) hr) (by show own_Qz h0 n0 _ T2.heap _; rw [e2]; exact ⟨a1, rfl, N2, own_keep0 ((Keep.refl h0 []).ext E1) (Keep.of_wr W2) (by omega), by omega⟩) (by decide) (by decide)
set_option maxRecDepth 65536 in
set_option maxHeartbeats 4000000 in
theorem rmBB (l : Launch) (Z : State) (a0 : Array Value) (hw : own_T a0 Z) (ws : List Jvm.Cond) (h0 : Heap) (n0 : Nat) (sa b : Addr) (gs : n0 ≤ sa) (E : Exa Z h0 sa "java/lang/String") (Fv : Fld Z h0 sa "java/lang/String" "value" "[B" .null) (Fc : Fld Z h0 sa "java/lang/String" "coder" "B" (.int 0)) :
    own_C l Z own_y12 jdk_42_method_151_code 3 none ws ({ frames := 1, cells := 0, slots := 0, locals := 14 } : Room) #[(.ref sa), (.ref b), (.int (0 : Int32))] h0 (own_Qk sa h0 n0) := by
  refine own_body (ls := #[.val (.ref sa), .val (.ref b), .val (.int (0 : Int32))]) pn_25 (fun m => by first | (simp [entryFrame, mkF, argsToLocals, Value.category]; done) | rfl) ?_
  intro p e s m below meth c T0 hZ hx hby hml hown hnm hret hlk X0 e0
  replace hml : c.maxLocals = 3 := hml
  have N0 := Fr.nil n0
  refine own_go (fun _ => XS.aloadN X0.here hx rfl (hb hby d25_0) rfl rfl) ?_
  show own_R _ _ _ _ T0 (mkF m 1 #[.val (.ref sa), .val (.ref b), .val (.int (0 : Int32))] [(.ref sa)])
  obtain ⟨T1, X1, e1, st1⟩ := initO X0 hx hZ hown (hw 215 rfl) (hw 19 rfl) (hw 20 rfl) e0 (g := (mkF m 1 #[.val (.ref sa), .val (.ref b), .val (.int (0 : Int32))] [(.ref sa)])) rfl (by rw [hml]; rfl) rfl (hb hby d25_1) (by decide) (W := 0) (Nat.le_of_eq rfl) (by decide)
  refine own_go st1 ?_
  show own_R _ _ _ _ T1 (mkF m 4 #[.val (.ref sa), .val (.ref b), .val (.int (0 : Int32))] [])
  refine own_go (fun _ => XS.aloadN X1.here hx rfl (hb hby d25_4) rfl rfl) ?_
  refine own_go (fun _ => XS.aloadN X1.here hx rfl (hb hby d25_5) rfl rfl) ?_
  show own_R _ _ _ _ T1 (mkF m 6 #[.val (.ref sa), .val (.ref b), .val (.int (0 : Int32))] [(.ref b), (.ref sa)])
  obtain ⟨T2, h2, X2, e2, W2, st2⟩ := putF X1 hx hZ hown (host := "") (Or.inl (hw 216 rfl)) Via.refl e1 Fv E (Or.inr ⟨(hw 217 rfl), rfl, hnm⟩) (hw 206 rfl) (ty := (.array .byte)) (by decide) rfl rfl (g := (mkF m 6 #[.val (.ref sa), .val (.ref b), .val (.int (0 : Int32))] [(.ref b), (.ref sa)])) rfl rfl (hb hby d25_6)
  refine own_go st2 ?_
  show own_R _ _ _ _ T2 (mkF m 9 #[.val (.ref sa), .val (.ref b), .val (.int (0 : Int32))] [])
  have N2 := Fr.snoc X2 N0 gs
  refine own_go (fun _ => XS.aloadN X2.here hx rfl (hb hby d25_9) rfl rfl) ?_
  refine own_go (fun _ => XS.iloadN X2.here hx rfl (hb hby d25_10) rfl ) ?_
  show own_R _ _ _ _ T2 (mkF m 11 #[.val (.ref sa), .val (.ref b), .val (.int (0 : Int32))] [(.int (0 : Int32)), (.ref sa)])
  obtain ⟨T3, h3, X3, e3, W3, st3⟩ := putF X2 hx hZ hown (host := "") (Or.inl (hw 218 rfl)) Via.refl e2 (Fc.other W2 (Or.inr (slot_ne (Or.inr (hw 219 rfl)) (Or.inr (hw 217 rfl)) (by decide) (t := .byte) (t' := (.array .byte)) (by decide) (by decide)))) (E.wr W2) (Or.inr ⟨(hw 219 rfl), rfl, hnm⟩) (hw 206 rfl) (ty := .byte) (by decide) rfl rfl (g := (mkF m 11 #[.val (.ref sa), .val (.ref b), .val (.int (0 : Int32))] [(.int (0 : Int32)), (.ref sa)])) rfl rfl (hb hby d25_11)
  refine own_go st3 ?_
  show own_R _ _ _ _ T3 (mkF m 14 #[.val (.ref sa), .val (.ref b), .val (.int (0 : Int32))] [])
  have N3 := Fr.snoc X3 N2 gs
  exact own_end X3 none (fun _ => rfl) hlk (fun fs hr => X3.returnOut hx hret (hb hby d25_14) hr) (by show own_Qk sa h0 n0 _ T3.heap _; rw [e3]; exact ⟨rfl, N3, (Keep.of_wr W2).wr W3 (Or.inl (by simp))⟩) (by decide) (by decide)
set_option maxRecDepth 65536 in
set_option maxHeartbeats 8000000 in
theorem rmVO (l : Launch) (Z : State) (a0 : Array Value) (hw : own_T a0 Z) (ws : List Jvm.Cond) (h0 : Heap) (n0 : Nat) (zc : Int32) (OS : Sta Z Z.heap "java/lang/String" "COMPACT_STRINGS" "Z" (.int zc)) (hzc : ¬ zc = 0) (Od : Old Z n0 h0) (ch : Int32) (hch : ¬ (255 : Int32) < ch) (Z0 : n0 ≤ h0.size) :
    own_C l Z own_y13 jdk_42_method_139_code 1 (some (.object "java/lang/String")) ws ({ frames := 2, cells := 2, slots := 5, locals := 32 } : Room) #[(.int ch)] h0 (own_Qz h0 n0) := by
  refine own_body (ls := #[.val (.int ch)]) pn_22 (fun m => by first | (simp [entryFrame, mkF, argsToLocals, Value.category]; done) | rfl) ?_
  intro p e s m below meth c T0 hZ hx hby hml hown hnm hret hlk X0 e0
  replace hml : c.maxLocals = 1 := hml
  have N0 := Fr.nil n0
  obtain ⟨T1, X1, e1, st1⟩ := getS X0 hx hZ hown (host := "") (hw 200 rfl) Via.refl e0 (OS.ext Od.2) (g := (mkF m 0 #[.val (.int ch)] [])) rfl (hb hby d22_0)
  refine own_go st1 ?_
  show own_R _ _ _ _ T1 (mkF m 3 #[.val (.int ch)] [(.int zc)])
  refine own_go (fun _ => XS.ifNo X1.here hx rfl (hb hby d22_3) rfl ((if0 _ _).trans (feq hzc).1)) ?_
  show own_R _ _ _ _ T1 (mkF m 6 #[.val (.int ch)] [])
  refine own_go (fun _ => XS.iloadN X1.here hx rfl (hb hby d22_6) rfl ) ?_
  show own_R _ _ _ _ T1 (mkF m 7 #[.val (.int ch)] [(.int ch)])
  obtain ⟨v2, T2, L2, X2, Q2, st2⟩ := own_callS X1 hx hZ hown (y := own_y14) (hw 201 rfl) (hw 202 rfl) (hw 203 rfl) (hw 204 rfl) (by decide) (rmCE l Z a0 hw [] h0 n0 ch hch) (W := 0) (g := (mkF m 7 #[.val (.int ch)] [(.int ch)])) rfl (by rw [hml]; rfl) (argsL := [(.int ch)]) (rest := []) (lenOf pd__C_Z rfl) rfl rfl (Nat.le_of_eq rfl) (hb hby d22_7) e1 (by decide) (by decide) (by decide) (by decide)
  obtain ⟨rfl, N2q, e2⟩ := Q2
  have N2 := Fr.app N0 N2q
  refine own_go st2 ?_
  show own_R _ _ _ _ T2 (mkF m 10 #[.val (.int ch)] [(.int (1 : Int32))])
  refine own_go (fun _ => XS.ifNo X2.here hx rfl (hb hby d22_10) rfl ((if0 _ _).trans (feq (by decide : ¬ ((1 : Int32) = (0 : Int32)))).1)) ?_
  show own_R _ _ _ _ T2 (mkF m 13 #[.val (.int ch)] [])
  obtain ⟨T3, h3, X3, e3, E3, A3, D3, -, st3⟩ := newO X2 hx hZ hown (hw 205 rfl) (hw 206 rfl) (hw 198 rfl) e2 (g := (mkF m 13 #[.val (.int ch)] [])) rfl (hb hby d22_13) (by decide) (by decide)
  obtain ⟨a3, g3⟩ : ∃ z, z = h0.size := ⟨_, rfl⟩
  rw [← g3] at A3 D3 st3
  refine own_go st3 ?_
  show own_R _ _ _ _ T3 (mkF m 16 #[.val (.int ch)] [(.ref a3)])
  refine own_go (fun _ => XS.dup X3.here hx rfl (hb hby d22_16) rfl rfl) ?_
  refine own_go (fun _ => XS.iloadN X3.here hx rfl (hb hby d22_17) rfl ) ?_
  show own_R _ _ _ _ T3 (mkF m 18 #[.val (.int ch)] [(.int ch), (.ref a3), (.ref a3)])
  have Z3 : n0 ≤ h3.size := Nat.le_trans Z0 E3.1
  obtain ⟨v4, T4, L4, X4, Q4, st4⟩ := own_callS X3 hx hZ hown (y := own_y15) (hw 207 rfl) (hw 208 rfl) (hw 203 rfl) (hw 209 rfl) (by decide) (rmL1 l Z a0 hw [] h3 n0 ch Z3) (W := 2) (g := (mkF m 18 #[.val (.int ch)] [(.int ch), (.ref a3), (.ref a3)])) rfl (by rw [hml]; rfl) (argsL := [(.int ch)]) (rest := [(.ref a3), (.ref a3)]) (lenOf pd__C__B rfl) rfl rfl (Nat.le_of_eq rfl) (hb hby d22_18) e3 (by decide) (by decide) (by decide) (by decide)
  obtain ⟨b, rfl, N4q, K4, gb⟩ := Q4
  have N4 := Fr.app N2 N4q
  refine own_go st4 ?_
  show own_R _ _ _ _ T4 (mkF m 21 #[.val (.int ch)] [(.ref b), (.ref a3), (.ref a3)])
  refine own_go (fun _ => XS.iconst X4.here hx rfl (hb hby d22_21)) ?_
  show own_R _ _ _ _ T4 (mkF m 22 #[.val (.int ch)] [(.int (0 : Int32)), (.ref b), (.ref a3), (.ref a3)])
  obtain ⟨v5, T5, L5, X5, Q5, st5⟩ := own_callI X4 hx hZ hown (y := own_y12) rfl (hw 211 rfl) (hw 212 rfl) (hw 214 rfl) (hw 198 rfl) (by decide) (rmBB l Z a0 hw [] T4.heap n0 a3 b (by omega) (A3.keep K4) ((D3 (Or.inr (hw 217 rfl)) (ty := (.array .byte)) (by decide)).keep K4 (by simp)) ((D3 (Or.inr (hw 219 rfl)) (ty := .byte) (by decide)).keep K4 (by simp))) (W := 1) (g := (mkF m 22 #[.val (.int ch)] [(.int (0 : Int32)), (.ref b), (.ref a3), (.ref a3)])) rfl (by rw [hml]; rfl) (a := a3) (argsL := [(.ref b), (.int (0 : Int32))]) (rest := [(.ref a3)]) (lenOf pd___BB_V rfl) rfl rfl (Nat.le_of_eq rfl) (hb hby d22_22) rfl (by decide) (by decide) (by decide) (by decide)
  obtain ⟨rfl, N5q, K5⟩ := Q5
  have N5 := Fr.app N4 N5q
  refine own_go st5 ?_
  show own_R _ _ _ _ T5 (mkF m 25 #[.val (.int ch)] [(.ref a3)])
  exact own_end X5 (some (.ref a3)) (fun h => by rw [hret] at h; cases h) hlk (fun fs hr => own_retA X5 hx hret rfl rfl (hb hby d22_25) hr) ⟨a3, rfl, N5, own_keep0 (((Keep.refl h0 []).ext E3).trans K4 (fun x hx => by simp at hx)) K5 (by omega), by omega⟩ (by decide) (by decide)
set_option maxRecDepth 65536 in
set_option maxHeartbeats 4000000 in
theorem rmRec (l : Launch) (Z : State) (a0 : Array Value) (hw : own_T a0 Z) (ws : List Jvm.Cond) (h0 : Heap) (n0 : Nat) (a : Addr) :
    own_C l Z own_y11 jdk_30_method_1_code 1 none ws ({ frames := 1, cells := 0, slots := 0, locals := 12 } : Room) #[(.ref a)] h0 (own_Qr none h0 n0) := by
  refine own_body (ls := #[.val (.ref a)]) pn_8 (fun m => by first | (simp [entryFrame, mkF, argsToLocals, Value.category]; done) | rfl) ?_
  intro p e s m below meth c T0 hZ hx hby hml hown hnm hret hlk X0 e0
  replace hml : c.maxLocals = 1 := hml
  have N0 := Fr.nil n0
  refine own_go (fun _ => XS.aloadN X0.here hx rfl (hb hby d8_0) rfl rfl) ?_
  show own_R _ _ _ _ T0 (mkF m 1 #[.val (.ref a)] [(.ref a)])
  obtain ⟨T1, X1, e1, st1⟩ := initO X0 hx hZ hown (hw 46 rfl) (hw 19 rfl) (hw 20 rfl) e0 (g := (mkF m 1 #[.val (.ref a)] [(.ref a)])) rfl (by rw [hml]; rfl) rfl (hb hby d8_1) (by decide) (W := 0) (Nat.le_of_eq rfl) (by decide)
  refine own_go st1 ?_
  show own_R _ _ _ _ T1 (mkF m 4 #[.val (.ref a)] [])
  exact own_end X1 none (fun _ => rfl) hlk (fun fs hr => X1.returnOut hx hret (hb hby d8_4) hr) ⟨rfl, N0, e1⟩ (by decide) (by decide)
def own_Qar (Z : State) (a : Addr) (h0 : Heap) (n0 : Nat) (v : Option Value) (h : Heap) (L : List Loc) : Prop := v = none ∧ Fr n0 L ∧ Keep h0 h [a] ∧ Exa Z h a "com/example/zellwerk/zellwerk/model/Area"
set_option maxRecDepth 65536 in
set_option maxHeartbeats 8000000 in
theorem rmAr (l : Launch) (Z : State) (a0 : Array Value) (hw : own_T a0 Z) (ws : List Jvm.Cond) (h0 : Heap) (n0 : Nat) (a sr : Addr) (d1 d2 d3 d4 : UInt64) (g9 : n0 ≤ a) (E : Exa Z h0 a "com/example/zellwerk/zellwerk/model/Area") (Fname : Fld Z h0 a "com/example/zellwerk/zellwerk/model/Area" "name" "Ljava/lang/String;" .null) (FminX : Fld Z h0 a "com/example/zellwerk/zellwerk/model/Area" "minX" "D" (.double 0)) (FmaxX : Fld Z h0 a "com/example/zellwerk/zellwerk/model/Area" "maxX" "D" (.double 0)) (FminY : Fld Z h0 a "com/example/zellwerk/zellwerk/model/Area" "minY" "D" (.double 0)) (FmaxY : Fld Z h0 a "com/example/zellwerk/zellwerk/model/Area" "maxY" "D" (.double 0)) (FretreatOf : Fld Z h0 a "com/example/zellwerk/zellwerk/model/Area" "retreatOf" "Ljava/util/Optional;" .null) :
    own_C l Z own_y0 prog_17_method_1_code 11 none ws ({ frames := 2, cells := 0, slots := 0, locals := 26 } : Room) #[(.ref a), (.ref sr), (.double d1), (.double d2), (.double d3), (.double d4), .null] h0 (own_Qar Z a h0 n0) := by
  refine own_body (ls := #[.val (.ref a), .val (.ref sr), .val (.double d1), .second, .val (.double d2), .second, .val (.double d3), .second, .val (.double d4), .second, .val .null]) pn_26 (fun m => by first | (simp [entryFrame, mkF, argsToLocals, Value.category]; done) | rfl) ?_
  intro p e s m below meth c T0 hZ hx hby hml hown hnm hret hlk X0 e0
  replace hml : c.maxLocals = 11 := hml
  have N0 := Fr.nil n0
  refine own_go (fun _ => XS.aloadN X0.here hx rfl (hb hby d26_0) rfl rfl) ?_
  show own_R _ _ _ _ T0 (mkF m 1 #[.val (.ref a), .val (.ref sr), .val (.double d1), .second, .val (.double d2), .second, .val (.double d3), .second, .val (.double d4), .second, .val .null] [(.ref a)])
  obtain ⟨v1, T1, L1, X1, Q1, st1⟩ := own_callI X0 hx hZ hown (y := own_y11) rfl (hw 223 rfl) (hw 42 rfl) (hw 45 rfl) (hw 44 rfl) (by decide) (rmRec l Z a0 hw [] h0 n0 a) (W := 0) (g := (mkF m 1 #[.val (.ref a), .val (.ref sr), .val (.double d1), .second, .val (.double d2), .second, .val (.double d3), .second, .val (.double d4), .second, .val .null] [(.ref a)])) rfl (by rw [hml]; rfl) (a := a) (argsL := []) (rest := []) (lenOf pd___V rfl) rfl rfl (Nat.le_of_eq rfl) (hb hby d26_1) e0 (by decide) (by decide) (by decide) (by decide)
  obtain ⟨rfl, N1q, e1⟩ := Q1
  have N1 := Fr.app N0 N1q
  refine own_go st1 ?_
  show own_R _ _ _ _ T1 (mkF m 4 #[.val (.ref a), .val (.ref sr), .val (.double d1), .second, .val (.double d2), .second, .val (.double d3), .second, .val (.double d4), .second, .val .null] [])
  refine own_go (fun _ => XS.aloadN X1.here hx rfl (hb hby d26_4) rfl rfl) ?_
  show own_R _ _ _ _ T1 (mkF m 5 #[.val (.ref a), .val (.ref sr), .val (.double d1), .second, .val (.double d2), .second, .val (.double d3), .second, .val (.double d4), .second, .val .null] [(.ref a)])
  refine own_go (fun _ => XS.aloadN X1.here hx rfl (hb hby d26_5) rfl rfl) ?_
  show own_R _ _ _ _ T1 (mkF m 6 #[.val (.ref a), .val (.ref sr), .val (.double d1), .second, .val (.double d2), .second, .val (.double d3), .second, .val (.double d4), .second, .val .null] [(.ref sr), (.ref a)])
  obtain ⟨T2, h2, X2, e2, W2, st2⟩ := putF X1 hx hZ hown (host := "") (Or.inl (hw 224 rfl)) Via.refl e1 Fname E (Or.inr ⟨(hw 225 rfl), rfl, hnm⟩) (hw 194 rfl) (ty := (.object "java/lang/String")) (by decide) rfl rfl (g := (mkF m 6 #[.val (.ref a), .val (.ref sr), .val (.double d1), .second, .val (.double d2), .second, .val (.double d3), .second, .val (.double d4), .second, .val .null] [(.ref sr), (.ref a)])) rfl rfl (hb hby d26_6)
  refine own_go st2 ?_
  show own_R _ _ _ _ T2 (mkF m 9 #[.val (.ref a), .val (.ref sr), .val (.double d1), .second, .val (.double d2), .second, .val (.double d3), .second, .val (.double d4), .second, .val .null] [])
  have N2 := Fr.snoc X2 N1 g9
  have K2 := (Keep.refl h0 [a]).wr W2 (Or.inl (by simp))
  have E2 := E.wr W2
  have Fname2 := Fname.same W2
  have FminX2 := FminX.other W2 (Or.inr (slot_ne (Or.inr (hw 227 rfl)) (Or.inr (hw 225 rfl)) (by decide) (t := .double) (t' := (.object "java/lang/String")) (by decide) (by decide)))
  have FmaxX2 := FmaxX.other W2 (Or.inr (slot_ne (Or.inr (hw 229 rfl)) (Or.inr (hw 225 rfl)) (by decide) (t := .double) (t' := (.object "java/lang/String")) (by decide) (by decide)))
  have FminY2 := FminY.other W2 (Or.inr (slot_ne (Or.inr (hw 231 rfl)) (Or.inr (hw 225 rfl)) (by decide) (t := .double) (t' := (.object "java/lang/String")) (by decide) (by decide)))
  have FmaxY2 := FmaxY.other W2 (Or.inr (slot_ne (Or.inr (hw 233 rfl)) (Or.inr (hw 225 rfl)) (by decide) (t := .double) (t' := (.object "java/lang/String")) (by decide) (by decide)))
  have FretreatOf2 := FretreatOf.other W2 (Or.inr (slot_ne (Or.inr (hw 235 rfl)) (Or.inr (hw 225 rfl)) (by decide) (t := (.object "java/util/Optional")) (t' := (.object "java/lang/String")) (by decide) (by decide)))
  refine own_go (fun _ => XS.aloadN X2.here hx rfl (hb hby d26_9) rfl rfl) ?_
  show own_R _ _ _ _ T2 (mkF m 10 #[.val (.ref a), .val (.ref sr), .val (.double d1), .second, .val (.double d2), .second, .val (.double d3), .second, .val (.double d4), .second, .val .null] [(.ref a)])
  refine own_go (fun _ => XS.dloadN X2.here hx rfl (hb hby d26_10) rfl ) ?_
  show own_R _ _ _ _ T2 (mkF m 11 #[.val (.ref a), .val (.ref sr), .val (.double d1), .second, .val (.double d2), .second, .val (.double d3), .second, .val (.double d4), .second, .val .null] [(.double d1), (.ref a)])
  obtain ⟨T3, h3, X3, e3, W3, st3⟩ := putF X2 hx hZ hown (host := "") (Or.inl (hw 226 rfl)) Via.refl e2 FminX2 E2 (Or.inr ⟨(hw 227 rfl), rfl, hnm⟩) (hw 194 rfl) (ty := .double) (by decide) rfl rfl (g := (mkF m 11 #[.val (.ref a), .val (.ref sr), .val (.double d1), .second, .val (.double d2), .second, .val (.double d3), .second, .val (.double d4), .second, .val .null] [(.double d1), (.ref a)])) rfl rfl (hb hby d26_11)
  refine own_go st3 ?_
  show own_R _ _ _ _ T3 (mkF m 14 #[.val (.ref a), .val (.ref sr), .val (.double d1), .second, .val (.double d2), .second, .val (.double d3), .second, .val (.double d4), .second, .val .null] [])
  have N3 := Fr.snoc X3 N2 g9
  have K3 := K2.wr W3 (Or.inl (by simp))
  have E3 := E2.wr W3
  have Fname3 := Fname2.other W3 (Or.inr (slot_ne (Or.inr (hw 225 rfl)) (Or.inr (hw 227 rfl)) (by decide) (t := (.object "java/lang/String")) (t' := .double) (by decide) (by decide)))
  have FminX3 := FminX2.same W3
  have FmaxX3 := FmaxX2.other W3 (Or.inr (slot_ne (Or.inr (hw 229 rfl)) (Or.inr (hw 227 rfl)) (by decide) (t := .double) (t' := .double) (by decide) (by decide)))
  have FminY3 := FminY2.other W3 (Or.inr (slot_ne (Or.inr (hw 231 rfl)) (Or.inr (hw 227 rfl)) (by decide) (t := .double) (t' := .double) (by decide) (by decide)))
  have FmaxY3 := FmaxY2.other W3 (Or.inr (slot_ne (Or.inr (hw 233 rfl)) (Or.inr (hw 227 rfl)) (by decide) (t := .double) (t' := .double) (by decide) (by decide)))
  have FretreatOf3 := FretreatOf2.other W3 (Or.inr (slot_ne (Or.inr (hw 235 rfl)) (Or.inr (hw 227 rfl)) (by decide) (t := (.object "java/util/Optional")) (t' := .double) (by decide) (by decide)))
  refine own_go (fun _ => XS.aloadN X3.here hx rfl (hb hby d26_14) rfl rfl) ?_
  show own_R _ _ _ _ T3 (mkF m 15 #[.val (.ref a), .val (.ref sr), .val (.double d1), .second, .val (.double d2), .second, .val (.double d3), .second, .val (.double d4), .second, .val .null] [(.ref a)])
  refine own_go (fun _ => XS.dload X3.here hx rfl (hb hby d26_15) rfl ) ?_
  show own_R _ _ _ _ T3 (mkF m 17 #[.val (.ref a), .val (.ref sr), .val (.double d1), .second, .val (.double d2), .second, .val (.double d3), .second, .val (.double d4), .second, .val .null] [(.double d2), (.ref a)])
  obtain ⟨T4, h4, X4, e4, W4, st4⟩ := putF X3 hx hZ hown (host := "") (Or.inl (hw 228 rfl)) Via.refl e3 FmaxX3 E3 (Or.inr ⟨(hw 229 rfl), rfl, hnm⟩) (hw 194 rfl) (ty := .double) (by decide) rfl rfl (g := (mkF m 17 #[.val (.ref a), .val (.ref sr), .val (.double d1), .second, .val (.double d2), .second, .val (.double d3), .second, .val (.double d4), .second, .val .null] [(.double d2), (.ref a)])) rfl rfl (hb hby d26_17)
  refine own_go st4 ?_
  show own_R _ _ _ _ T4 (mkF m 20 #[.val (.ref a), .val (.ref sr), .val (.double d1), .second, .val (.double d2), .second, .val (.double d3), .second, .val (.double d4), .second, .val .null] [])
  have N4 := Fr.snoc X4 N3 g9
  have K4 := K3.wr W4 (Or.inl (by simp))
  have E4 := E3.wr W4
  have Fname4 := Fname3.other W4 (Or.inr (slot_ne (Or.inr (hw 225 rfl)) (Or.inr (hw 229 rfl)) (by decide) (t := (.object "java/lang/String")) (t' := .double) (by decide) (by decide)))
  have FminX4 := FminX3.other W4 (Or.inr (slot_ne (Or.inr (hw 227 rfl)) (Or.inr (hw 229 rfl)) (by decide) (t := .double) (t' := .double) (by decide) (by decide)))
  have FmaxX4 := FmaxX3.same W4
  have FminY4 := FminY3.other W4 (Or.inr (slot_ne (Or.inr (hw 231 rfl)) (Or.inr (hw 229 rfl)) (by decide) (t := .double) (t' := .double) (by decide) (by decide)))
  have FmaxY4 := FmaxY3.other W4 (Or.inr (slot_ne (Or.inr (hw 233 rfl)) (Or.inr (hw 229 rfl)) (by decide) (t := .double) (t' := .double) (by decide) (by decide)))
  have FretreatOf4 := FretreatOf3.other W4 (Or.inr (slot_ne (Or.inr (hw 235 rfl)) (Or.inr (hw 229 rfl)) (by decide) (t := (.object "java/util/Optional")) (t' := .double) (by decide) (by decide)))
  refine own_go (fun _ => XS.aloadN X4.here hx rfl (hb hby d26_20) rfl rfl) ?_
  show own_R _ _ _ _ T4 (mkF m 21 #[.val (.ref a), .val (.ref sr), .val (.double d1), .second, .val (.double d2), .second, .val (.double d3), .second, .val (.double d4), .second, .val .null] [(.ref a)])
  refine own_go (fun _ => XS.dload X4.here hx rfl (hb hby d26_21) rfl ) ?_
  show own_R _ _ _ _ T4 (mkF m 23 #[.val (.ref a), .val (.ref sr), .val (.double d1), .second, .val (.double d2), .second, .val (.double d3), .second, .val (.double d4), .second, .val .null] [(.double d3), (.ref a)])
  obtain ⟨T5, h5, X5, e5, W5, st5⟩ := putF X4 hx hZ hown (host := "") (Or.inl (hw 230 rfl)) Via.refl e4 FminY4 E4 (Or.inr ⟨(hw 231 rfl), rfl, hnm⟩) (hw 194 rfl) (ty := .double) (by decide) rfl rfl (g := (mkF m 23 #[.val (.ref a), .val (.ref sr), .val (.double d1), .second, .val (.double d2), .second, .val (.double d3), .second, .val (.double d4), .second, .val .null] [(.double d3), (.ref a)])) rfl rfl (hb hby d26_23)
  refine own_go st5 ?_
  show own_R _ _ _ _ T5 (mkF m 26 #[.val (.ref a), .val (.ref sr), .val (.double d1), .second, .val (.double d2), .second, .val (.double d3), .second, .val (.double d4), .second, .val .null] [])
  have N5 := Fr.snoc X5 N4 g9
  have K5 := K4.wr W5 (Or.inl (by simp))
  have E5 := E4.wr W5
  have Fname5 := Fname4.other W5 (Or.inr (slot_ne (Or.inr (hw 225 rfl)) (Or.inr (hw 231 rfl)) (by decide) (t := (.object "java/lang/String")) (t' := .double) (by decide) (by decide)))
  have FminX5 := FminX4.other W5 (Or.inr (slot_ne (Or.inr (hw 227 rfl)) (Or.inr (hw 231 rfl)) (by decide) (t := .double) (t' := .double) (by decide) (by decide)))
  have FmaxX5 := FmaxX4.other W5 (Or.inr (slot_ne (Or.inr (hw 229 rfl)) (Or.inr (hw 231 rfl)) (by decide) (t := .double) (t' := .double) (by decide) (by decide)))
  have FminY5 := FminY4.same W5
  have FmaxY5 := FmaxY4.other W5 (Or.inr (slot_ne (Or.inr (hw 233 rfl)) (Or.inr (hw 231 rfl)) (by decide) (t := .double) (t' := .double) (by decide) (by decide)))
  have FretreatOf5 := FretreatOf4.other W5 (Or.inr (slot_ne (Or.inr (hw 235 rfl)) (Or.inr (hw 231 rfl)) (by decide) (t := (.object "java/util/Optional")) (t' := .double) (by decide) (by decide)))
  refine own_go (fun _ => XS.aloadN X5.here hx rfl (hb hby d26_26) rfl rfl) ?_
  show own_R _ _ _ _ T5 (mkF m 27 #[.val (.ref a), .val (.ref sr), .val (.double d1), .second, .val (.double d2), .second, .val (.double d3), .second, .val (.double d4), .second, .val .null] [(.ref a)])
  refine own_go (fun _ => XS.dload X5.here hx rfl (hb hby d26_27) rfl ) ?_
  show own_R _ _ _ _ T5 (mkF m 29 #[.val (.ref a), .val (.ref sr), .val (.double d1), .second, .val (.double d2), .second, .val (.double d3), .second, .val (.double d4), .second, .val .null] [(.double d4), (.ref a)])
  obtain ⟨T6, h6, X6, e6, W6, st6⟩ := putF X5 hx hZ hown (host := "") (Or.inl (hw 232 rfl)) Via.refl e5 FmaxY5 E5 (Or.inr ⟨(hw 233 rfl), rfl, hnm⟩) (hw 194 rfl) (ty := .double) (by decide) rfl rfl (g := (mkF m 29 #[.val (.ref a), .val (.ref sr), .val (.double d1), .second, .val (.double d2), .second, .val (.double d3), .second, .val (.double d4), .second, .val .null] [(.double d4), (.ref a)])) rfl rfl (hb hby d26_29)
  refine own_go st6 ?_
  show own_R _ _ _ _ T6 (mkF m 32 #[.val (.ref a), .val (.ref sr), .val (.double d1), .second, .val (.double d2), .second, .val (.double d3), .second, .val (.double d4), .second, .val .null] [])
  have N6 := Fr.snoc X6 N5 g9
  have K6 := K5.wr W6 (Or.inl (by simp))
  have E6 := E5.wr W6
  have Fname6 := Fname5.other W6 (Or.inr (slot_ne (Or.inr (hw 225 rfl)) (Or.inr (hw 233 rfl)) (by decide) (t := (.object "java/lang/String")) (t' := .double) (by decide) (by decide)))
  have FminX6 := FminX5.other W6 (Or.inr (slot_ne (Or.inr (hw 227 rfl)) (Or.inr (hw 233 rfl)) (by decide) (t := .double) (t' := .double) (by decide) (by decide)))
  have FmaxX6 := FmaxX5.other W6 (Or.inr (slot_ne (Or.inr (hw 229 rfl)) (Or.inr (hw 233 rfl)) (by decide) (t := .double) (t' := .double) (by decide) (by decide)))
  have FminY6 := FminY5.other W6 (Or.inr (slot_ne (Or.inr (hw 231 rfl)) (Or.inr (hw 233 rfl)) (by decide) (t := .double) (t' := .double) (by decide) (by decide)))
  have FmaxY6 := FmaxY5.same W6
  have FretreatOf6 := FretreatOf5.other W6 (Or.inr (slot_ne (Or.inr (hw 235 rfl)) (Or.inr (hw 233 rfl)) (by decide) (t := (.object "java/util/Optional")) (t' := .double) (by decide) (by decide)))
  refine own_go (fun _ => XS.aloadN X6.here hx rfl (hb hby d26_32) rfl rfl) ?_
  show own_R _ _ _ _ T6 (mkF m 33 #[.val (.ref a), .val (.ref sr), .val (.double d1), .second, .val (.double d2), .second, .val (.double d3), .second, .val (.double d4), .second, .val .null] [(.ref a)])
  refine own_go (fun _ => XS.aload X6.here hx rfl (hb hby d26_33) rfl rfl) ?_
  show own_R _ _ _ _ T6 (mkF m 35 #[.val (.ref a), .val (.ref sr), .val (.double d1), .second, .val (.double d2), .second, .val (.double d3), .second, .val (.double d4), .second, .val .null] [.null, (.ref a)])
  obtain ⟨T7, h7, X7, e7, W7, st7⟩ := putF X6 hx hZ hown (host := "") (Or.inl (hw 234 rfl)) Via.refl e6 FretreatOf6 E6 (Or.inr ⟨(hw 235 rfl), rfl, hnm⟩) (hw 194 rfl) (ty := (.object "java/util/Optional")) (by decide) rfl rfl (g := (mkF m 35 #[.val (.ref a), .val (.ref sr), .val (.double d1), .second, .val (.double d2), .second, .val (.double d3), .second, .val (.double d4), .second, .val .null] [.null, (.ref a)])) rfl rfl (hb hby d26_35)
  refine own_go st7 ?_
  show own_R _ _ _ _ T7 (mkF m 38 #[.val (.ref a), .val (.ref sr), .val (.double d1), .second, .val (.double d2), .second, .val (.double d3), .second, .val (.double d4), .second, .val .null] [])
  have N7 := Fr.snoc X7 N6 g9
  have K7 := K6.wr W7 (Or.inl (by simp))
  have E7 := E6.wr W7
  have Fname7 := Fname6.other W7 (Or.inr (slot_ne (Or.inr (hw 225 rfl)) (Or.inr (hw 235 rfl)) (by decide) (t := (.object "java/lang/String")) (t' := (.object "java/util/Optional")) (by decide) (by decide)))
  have FminX7 := FminX6.other W7 (Or.inr (slot_ne (Or.inr (hw 227 rfl)) (Or.inr (hw 235 rfl)) (by decide) (t := .double) (t' := (.object "java/util/Optional")) (by decide) (by decide)))
  have FmaxX7 := FmaxX6.other W7 (Or.inr (slot_ne (Or.inr (hw 229 rfl)) (Or.inr (hw 235 rfl)) (by decide) (t := .double) (t' := (.object "java/util/Optional")) (by decide) (by decide)))
  have FminY7 := FminY6.other W7 (Or.inr (slot_ne (Or.inr (hw 231 rfl)) (Or.inr (hw 235 rfl)) (by decide) (t := .double) (t' := (.object "java/util/Optional")) (by decide) (by decide)))
  have FmaxY7 := FmaxY6.other W7 (Or.inr (slot_ne (Or.inr (hw 233 rfl)) (Or.inr (hw 235 rfl)) (by decide) (t := .double) (t' := (.object "java/util/Optional")) (by decide) (by decide)))
  exact own_end X7 none (fun _ => rfl) hlk (fun fs hr => X7.returnOut hx hret (hb hby d26_38) hr) (by show own_Qar Z a h0 n0 _ T7.heap _; rw [e7]; exact ⟨rfl, N7, K7, E7⟩) (by decide) (by decide)
theorem d6_0 : decode jdk_40_method_36_code 0 = .ok (.getstatic 90, 3) := by decide +kernel
theorem d6_3 : decode jdk_40_method_36_code 3 = .ok (.areturn, 1) := by decide +kernel

theorem pn_6 : plainFor own_y52 = true := by first | exact plainFor_of_name (by first | (simp [plainName, overriddenIn]; done) | decide +kernel) | decide +kernel

theorem d36_0 : decode jdk_40_method_47_code 0 = .ok (.aload_n 0, 1) := by decide +kernel
theorem d36_1 : decode jdk_40_method_47_code 1 = .ok (.arraylength, 1) := by decide +kernel
theorem d36_2 : decode jdk_40_method_47_code 2 = .ok (.tableswitch 57 0 2 #[26, 32, 43], 26) := by decide +kernel
theorem d36_34 : decode jdk_40_method_47_code 34 = .ok (.new 96, 3) := by decide +kernel
theorem d36_37 : decode jdk_40_method_47_code 37 = .ok (.dup, 1) := by decide +kernel
theorem d36_38 : decode jdk_40_method_47_code 38 = .ok (.aload_n 0, 1) := by decide +kernel
theorem d36_39 : decode jdk_40_method_47_code 39 = .ok (.iconst 0, 1) := by decide +kernel
theorem d36_40 : decode jdk_40_method_47_code 40 = .ok (.aaload, 1) := by decide +kernel
theorem d36_41 : decode jdk_40_method_47_code 41 = .ok (.invokespecial 98, 3) := by decide +kernel
theorem d36_44 : decode jdk_40_method_47_code 44 = .ok (.areturn, 1) := by decide +kernel
theorem d36_45 : decode jdk_40_method_47_code 45 = .ok (.new 96, 3) := by decide +kernel
theorem d36_48 : decode jdk_40_method_47_code 48 = .ok (.dup, 1) := by decide +kernel
theorem d36_49 : decode jdk_40_method_47_code 49 = .ok (.aload_n 0, 1) := by decide +kernel
theorem d36_50 : decode jdk_40_method_47_code 50 = .ok (.iconst 0, 1) := by decide +kernel
theorem d36_51 : decode jdk_40_method_47_code 51 = .ok (.aaload, 1) := by decide +kernel
theorem d36_52 : decode jdk_40_method_47_code 52 = .ok (.aload_n 0, 1) := by decide +kernel
theorem d36_53 : decode jdk_40_method_47_code 53 = .ok (.iconst 1, 1) := by decide +kernel
theorem d36_54 : decode jdk_40_method_47_code 54 = .ok (.aaload, 1) := by decide +kernel
theorem d36_55 : decode jdk_40_method_47_code 55 = .ok (.invokespecial 100, 3) := by decide +kernel
theorem d36_58 : decode jdk_40_method_47_code 58 = .ok (.areturn, 1) := by decide +kernel
theorem d36_59 : decode jdk_40_method_47_code 59 = .ok (.aload_n 0, 1) := by decide +kernel
theorem d36_60 : decode jdk_40_method_47_code 60 = .ok (.invokestatic 109, 3) := by decide +kernel
theorem d36_63 : decode jdk_40_method_47_code 63 = .ok (.areturn, 1) := by decide +kernel

theorem pn_36 : plainFor own_y53 = true := by first | exact plainFor_of_name (by first | (simp [plainName, overriddenIn]; done) | decide +kernel) | decide +kernel

theorem d11_0 : decode jdk_38_method_9_code 0 = .ok (.aload_n 0, 1) := by decide +kernel
theorem d11_1 : decode jdk_38_method_9_code 1 = .ok (.getfield 48, 3) := by decide +kernel
theorem d11_4 : decode jdk_38_method_9_code 4 = .ok (.ifCond .ne 7, 3) := by decide +kernel
theorem d11_7 : decode jdk_38_method_9_code 7 = .ok (.iconst 1, 1) := by decide +kernel
theorem d11_8 : decode jdk_38_method_9_code 8 = .ok (.goto 4, 3) := by decide +kernel
theorem d11_11 : decode jdk_38_method_9_code 11 = .ok (.iconst 0, 1) := by decide +kernel
theorem d11_12 : decode jdk_38_method_9_code 12 = .ok (.ireturn, 1) := by decide +kernel

theorem pn_11 : plainFor own_y23 = true := by first | exact plainFor_of_name (by first | (simp [plainName, overriddenIn]; done) | decide +kernel) | decide +kernel

theorem d17_0 : decode jdk_31_method_10_code 0 = .ok (.aload_n 0, 1) := by decide +kernel
theorem d17_1 : decode jdk_31_method_10_code 1 = .ok (.ifnonnull 11, 3) := by decide +kernel
theorem d17_12 : decode jdk_31_method_10_code 12 = .ok (.aload_n 0, 1) := by decide +kernel
theorem d17_13 : decode jdk_31_method_10_code 13 = .ok (.areturn, 1) := by decide +kernel

theorem pn_17 : plainFor own_y55 = true := by first | exact plainFor_of_name (by first | (simp [plainName, overriddenIn]; done) | decide +kernel) | decide +kernel

theorem d35_0 : decode jdk_29_method_69_code 0 = .ok (.iload_n 0, 1) := by decide +kernel
theorem d35_1 : decode jdk_29_method_69_code 1 = .ok (.iload_n 1, 1) := by decide +kernel
theorem d35_2 : decode jdk_29_method_69_code 2 = .ok (.if_icmp .gt 7, 3) := by decide +kernel
theorem d35_9 : decode jdk_29_method_69_code 9 = .ok (.iload_n 1, 1) := by decide +kernel
theorem d35_10 : decode jdk_29_method_69_code 10 = .ok (.ireturn, 1) := by decide +kernel

theorem pn_35 : plainFor own_y10 = true := by first | exact plainFor_of_name (by first | (simp [plainName, overriddenIn]; done) | decide +kernel) | decide +kernel

theorem d34_0 : decode jdk_65_method_120_code 0 = .ok (.aload_n 2, 1) := by decide +kernel
theorem d34_1 : decode jdk_65_method_120_code 1 = .ok (.ldc 110, 2) := by decide +kernel
theorem d34_3 : decode jdk_65_method_120_code 3 = .ok (.if_acmp .ne 10, 3) := by decide +kernel
theorem d34_6 : decode jdk_65_method_120_code 6 = .ok (.iload_n 1, 1) := by decide +kernel
theorem d34_7 : decode jdk_65_method_120_code 7 = .ok (.anewarray 2, 3) := by decide +kernel
theorem d34_10 : decode jdk_65_method_120_code 10 = .ok (.goto 14, 3) := by decide +kernel
theorem d34_24 : decode jdk_65_method_120_code 24 = .ok (.astore_n 3, 1) := by decide +kernel
theorem d34_25 : decode jdk_65_method_120_code 25 = .ok (.aload_n 0, 1) := by decide +kernel
theorem d34_26 : decode jdk_65_method_120_code 26 = .ok (.iconst 0, 1) := by decide +kernel
theorem d34_27 : decode jdk_65_method_120_code 27 = .ok (.aload_n 3, 1) := by decide +kernel
theorem d34_28 : decode jdk_65_method_120_code 28 = .ok (.iconst 0, 1) := by decide +kernel
theorem d34_29 : decode jdk_65_method_120_code 29 = .ok (.aload_n 0, 1) := by decide +kernel
theorem d34_30 : decode jdk_65_method_120_code 30 = .ok (.arraylength, 1) := by decide +kernel
theorem d34_31 : decode jdk_65_method_120_code 31 = .ok (.iload_n 1, 1) := by decide +kernel
theorem d34_32 : decode jdk_65_method_120_code 32 = .ok (.invokestatic 304, 3) := by decide +kernel
theorem d34_35 : decode jdk_65_method_120_code 35 = .ok (.invokestatic 150, 3) := by decide +kernel
theorem d34_38 : decode jdk_65_method_120_code 38 = .ok (.aload_n 3, 1) := by decide +kernel
theorem d34_39 : decode jdk_65_method_120_code 39 = .ok (.areturn, 1) := by decide +kernel

theorem pn_34 : plainFor own_y26 = true := by first | exact plainFor_of_name (by first | (simp [plainName, overriddenIn]; done) | decide +kernel) | decide +kernel

theorem d33_0 : decode jdk_65_method_119_code 0 = .ok (.aload_n 0, 1) := by decide +kernel
theorem d33_1 : decode jdk_65_method_119_code 1 = .ok (.iload_n 1, 1) := by decide +kernel
theorem d33_2 : decode jdk_65_method_119_code 2 = .ok (.aload_n 0, 1) := by decide +kernel
theorem d33_3 : decode jdk_65_method_119_code 3 = .ok (.invokevirtual 86, 3) := by decide +kernel
theorem d33_6 : decode jdk_65_method_119_code 6 = .ok (.invokestatic 300, 3) := by decide +kernel
theorem d33_9 : decode jdk_65_method_119_code 9 = .ok (.areturn, 1) := by decide +kernel

theorem pn_33 : plainFor own_y25 = true := by first | exact plainFor_of_name (by first | (simp [plainName, overriddenIn]; done) | decide +kernel) | decide +kernel

theorem d32_0 : decode jdk_38_method_16_code 0 = .ok (.aload_n 0, 1) := by decide +kernel
theorem d32_1 : decode jdk_38_method_16_code 1 = .ok (.getfield 9, 3) := by decide +kernel
theorem d32_4 : decode jdk_38_method_16_code 4 = .ok (.aload_n 0, 1) := by decide +kernel
theorem d32_5 : decode jdk_38_method_16_code 5 = .ok (.getfield 48, 3) := by decide +kernel
theorem d32_8 : decode jdk_38_method_16_code 8 = .ok (.invokestatic 66, 3) := by decide +kernel
theorem d32_11 : decode jdk_38_method_16_code 11 = .ok (.areturn, 1) := by decide +kernel

theorem pn_32 : plainFor own_y24 = true := by first | exact plainFor_of_name (by first | (simp [plainName, overriddenIn]; done) | decide +kernel) | decide +kernel

theorem d40_0 : decode jdk_47_method_1_code 0 = .ok (.aload_n 0, 1) := by decide +kernel
theorem d40_1 : decode jdk_47_method_1_code 1 = .ok (.invokespecial 1, 3) := by decide +kernel
theorem d40_4 : decode jdk_47_method_1_code 4 = .ok (.return_, 1) := by decide +kernel

theorem pn_40 : plainFor own_y32 = true := by first | exact plainFor_of_name (by first | (simp [plainName, overriddenIn]; done) | decide +kernel) | decide +kernel

theorem d39_0 : decode jdk_46_method_1_code 0 = .ok (.aload_n 0, 1) := by decide +kernel
theorem d39_1 : decode jdk_46_method_1_code 1 = .ok (.invokespecial 1, 3) := by decide +kernel
theorem d39_4 : decode jdk_46_method_1_code 4 = .ok (.return_, 1) := by decide +kernel

theorem pn_39 : plainFor own_y33 = true := by first | exact plainFor_of_name (by first | (simp [plainName, overriddenIn]; done) | decide +kernel) | decide +kernel

theorem d38_0 : decode jdk_45_method_1_code 0 = .ok (.aload_n 0, 1) := by decide +kernel
theorem d38_1 : decode jdk_45_method_1_code 1 = .ok (.invokespecial 1, 3) := by decide +kernel
theorem d38_4 : decode jdk_45_method_1_code 4 = .ok (.aload_n 0, 1) := by decide +kernel
theorem d38_5 : decode jdk_45_method_1_code 5 = .ok (.aload_n 1, 1) := by decide +kernel
theorem d38_6 : decode jdk_45_method_1_code 6 = .ok (.putfield 7, 3) := by decide +kernel
theorem d38_9 : decode jdk_45_method_1_code 9 = .ok (.aload_n 0, 1) := by decide +kernel
theorem d38_10 : decode jdk_45_method_1_code 10 = .ok (.iload_n 2, 1) := by decide +kernel
theorem d38_11 : decode jdk_45_method_1_code 11 = .ok (.putfield 13, 3) := by decide +kernel
theorem d38_14 : decode jdk_45_method_1_code 14 = .ok (.return_, 1) := by decide +kernel

theorem pn_38 : plainFor own_y43 = true := by first | exact plainFor_of_name (by first | (simp [plainName, overriddenIn]; done) | decide +kernel) | decide +kernel

theorem d37_0 : decode jdk_56_method_4_code 0 = .ok (.aload_n 0, 1) := by decide +kernel
theorem d37_1 : decode jdk_56_method_4_code 1 = .ok (.arraylength, 1) := by decide +kernel
theorem d37_2 : decode jdk_56_method_4_code 2 = .ok (.anewarray 2, 3) := by decide +kernel
theorem d37_5 : decode jdk_56_method_4_code 5 = .ok (.astore_n 1, 1) := by decide +kernel
theorem d37_6 : decode jdk_56_method_4_code 6 = .ok (.iconst 0, 1) := by decide +kernel
theorem d37_7 : decode jdk_56_method_4_code 7 = .ok (.istore_n 2, 1) := by decide +kernel
theorem d37_8 : decode jdk_56_method_4_code 8 = .ok (.iload_n 2, 1) := by decide +kernel
theorem d37_9 : decode jdk_56_method_4_code 9 = .ok (.aload_n 0, 1) := by decide +kernel
theorem d37_10 : decode jdk_56_method_4_code 10 = .ok (.arraylength, 1) := by decide +kernel
theorem d37_11 : decode jdk_56_method_4_code 11 = .ok (.if_icmp .ge 18, 3) := by decide +kernel
theorem d37_14 : decode jdk_56_method_4_code 14 = .ok (.aload_n 1, 1) := by decide +kernel
theorem d37_15 : decode jdk_56_method_4_code 15 = .ok (.iload_n 2, 1) := by decide +kernel
theorem d37_16 : decode jdk_56_method_4_code 16 = .ok (.aload_n 0, 1) := by decide +kernel
theorem d37_17 : decode jdk_56_method_4_code 17 = .ok (.iload_n 2, 1) := by decide +kernel
theorem d37_18 : decode jdk_56_method_4_code 18 = .ok (.aaload, 1) := by decide +kernel
theorem d37_19 : decode jdk_56_method_4_code 19 = .ok (.invokestatic 37, 3) := by decide +kernel
theorem d37_22 : decode jdk_56_method_4_code 22 = .ok (.aastore, 1) := by decide +kernel
theorem d37_23 : decode jdk_56_method_4_code 23 = .ok (.iinc 2 1, 3) := by decide +kernel
theorem d37_26 : decode jdk_56_method_4_code 26 = .ok (.goto (-18), 3) := by decide +kernel
theorem d37_29 : decode jdk_56_method_4_code 29 = .ok (.new 12, 3) := by decide +kernel
theorem d37_32 : decode jdk_56_method_4_code 32 = .ok (.dup, 1) := by decide +kernel
theorem d37_33 : decode jdk_56_method_4_code 33 = .ok (.aload_n 1, 1) := by decide +kernel
theorem d37_34 : decode jdk_56_method_4_code 34 = .ok (.iconst 0, 1) := by decide +kernel
theorem d37_35 : decode jdk_56_method_4_code 35 = .ok (.invokespecial 43, 3) := by decide +kernel
theorem d37_38 : decode jdk_56_method_4_code 38 = .ok (.areturn, 1) := by decide +kernel

theorem pn_37 : plainFor own_y31 = true := by first | exact plainFor_of_name (by first | (simp [plainName, overriddenIn]; done) | decide +kernel) | decide +kernel

theorem d46_0 : decode jdk_44_method_1_code 0 = .ok (.aload_n 0, 1) := by decide +kernel
theorem d46_1 : decode jdk_44_method_1_code 1 = .ok (.invokespecial 1, 3) := by decide +kernel
theorem d46_4 : decode jdk_44_method_1_code 4 = .ok (.aload_n 0, 1) := by decide +kernel
theorem d46_5 : decode jdk_44_method_1_code 5 = .ok (.aload_n 1, 1) := by decide +kernel
theorem d46_6 : decode jdk_44_method_1_code 6 = .ok (.invokestatic 7, 3) := by decide +kernel
theorem d46_9 : decode jdk_44_method_1_code 9 = .ok (.putfield 13, 3) := by decide +kernel
theorem d46_12 : decode jdk_44_method_1_code 12 = .ok (.aload_n 0, 1) := by decide +kernel
theorem d46_13 : decode jdk_44_method_1_code 13 = .ok (.getstatic 19, 3) := by decide +kernel
theorem d46_16 : decode jdk_44_method_1_code 16 = .ok (.putfield 24, 3) := by decide +kernel
theorem d46_19 : decode jdk_44_method_1_code 19 = .ok (.return_, 1) := by decide +kernel

theorem pn_46 : plainFor own_y36 = true := by first | exact plainFor_of_name (by first | (simp [plainName, overriddenIn]; done) | decide +kernel) | decide +kernel

theorem d43_0 : decode jdk_44_method_2_code 0 = .ok (.aload_n 0, 1) := by decide +kernel
theorem d43_1 : decode jdk_44_method_2_code 1 = .ok (.invokespecial 1, 3) := by decide +kernel
theorem d43_4 : decode jdk_44_method_2_code 4 = .ok (.aload_n 0, 1) := by decide +kernel
theorem d43_5 : decode jdk_44_method_2_code 5 = .ok (.aload_n 1, 1) := by decide +kernel
theorem d43_6 : decode jdk_44_method_2_code 6 = .ok (.invokestatic 7, 3) := by decide +kernel
theorem d43_9 : decode jdk_44_method_2_code 9 = .ok (.putfield 13, 3) := by decide +kernel
theorem d43_12 : decode jdk_44_method_2_code 12 = .ok (.aload_n 0, 1) := by decide +kernel
theorem d43_13 : decode jdk_44_method_2_code 13 = .ok (.aload_n 2, 1) := by decide +kernel
theorem d43_14 : decode jdk_44_method_2_code 14 = .ok (.invokestatic 7, 3) := by decide +kernel
theorem d43_17 : decode jdk_44_method_2_code 17 = .ok (.putfield 24, 3) := by decide +kernel
theorem d43_20 : decode jdk_44_method_2_code 20 = .ok (.return_, 1) := by decide +kernel

theorem pn_43 : plainFor own_y37 = true := by first | exact plainFor_of_name (by first | (simp [plainName, overriddenIn]; done) | decide +kernel) | decide +kernel

theorem d10_0 : decode jdk_56_method_3_code 0 = .ok (.aload_n 0, 1) := by decide +kernel
theorem d10_1 : decode jdk_56_method_3_code 1 = .ok (.instanceof 10, 3) := by decide +kernel
theorem d10_4 : decode jdk_56_method_3_code 4 = .ok (.ifCond .ne 22, 3) := by decide +kernel
theorem d10_7 : decode jdk_56_method_3_code 7 = .ok (.aload_n 0, 1) := by decide +kernel
theorem d10_8 : decode jdk_56_method_3_code 8 = .ok (.instanceof 12, 3) := by decide +kernel
theorem d10_11 : decode jdk_56_method_3_code 11 = .ok (.ifCond .eq 20, 3) := by decide +kernel
theorem d10_14 : decode jdk_56_method_3_code 14 = .ok (.aload_n 0, 1) := by decide +kernel
theorem d10_15 : decode jdk_56_method_3_code 15 = .ok (.checkcast 12, 3) := by decide +kernel
theorem d10_18 : decode jdk_56_method_3_code 18 = .ok (.astore_n 1, 1) := by decide +kernel
theorem d10_19 : decode jdk_56_method_3_code 19 = .ok (.aload_n 1, 1) := by decide +kernel
theorem d10_20 : decode jdk_56_method_3_code 20 = .ok (.getfield 14, 3) := by decide +kernel
theorem d10_23 : decode jdk_56_method_3_code 23 = .ok (.ifCond .ne 8, 3) := by decide +kernel
theorem d10_26 : decode jdk_56_method_3_code 26 = .ok (.aload_n 0, 1) := by decide +kernel
theorem d10_27 : decode jdk_56_method_3_code 27 = .ok (.checkcast 18, 3) := by decide +kernel
theorem d10_30 : decode jdk_56_method_3_code 30 = .ok (.areturn, 1) := by decide +kernel
theorem d10_31 : decode jdk_56_method_3_code 31 = .ok (.aload_n 0, 1) := by decide +kernel
theorem d10_32 : decode jdk_56_method_3_code 32 = .ok (.invokeinterface 20 1, 5) := by decide +kernel
theorem d10_37 : decode jdk_56_method_3_code 37 = .ok (.ifCond .eq 7, 3) := by decide +kernel
theorem d10_40 : decode jdk_56_method_3_code 40 = .ok (.invokestatic 26, 3) := by decide +kernel
theorem d10_43 : decode jdk_56_method_3_code 43 = .ok (.areturn, 1) := by decide +kernel
theorem d10_44 : decode jdk_56_method_3_code 44 = .ok (.aload_n 0, 1) := by decide +kernel
theorem d10_45 : decode jdk_56_method_3_code 45 = .ok (.invokeinterface 30 1, 5) := by decide +kernel
theorem d10_50 : decode jdk_56_method_3_code 50 = .ok (.invokestatic 34, 3) := by decide +kernel
theorem d10_53 : decode jdk_56_method_3_code 53 = .ok (.areturn, 1) := by decide +kernel

theorem pn_10 : plainFor own_y30 = true := by first | exact plainFor_of_name (by first | (simp [plainName, overriddenIn]; done) | decide +kernel) | decide +kernel

theorem d9_0 : decode jdk_40_method_48_code 0 = .ok (.aload_n 0, 1) := by decide +kernel
theorem d9_1 : decode jdk_40_method_48_code 1 = .ok (.invokestatic 112, 3) := by decide +kernel
theorem d9_4 : decode jdk_40_method_48_code 4 = .ok (.areturn, 1) := by decide +kernel

theorem pn_9 : plainFor own_y49 = true := by first | exact plainFor_of_name (by first | (simp [plainName, overriddenIn]; done) | decide +kernel) | decide +kernel

theorem d7_0 : decode prog_24_method_1_code 0 = .ok (.aload_n 0, 1) := by decide +kernel
theorem d7_1 : decode prog_24_method_1_code 1 = .ok (.invokespecial 1, 3) := by decide +kernel
theorem d7_4 : decode prog_24_method_1_code 4 = .ok (.aload_n 3, 1) := by decide +kernel
theorem d7_5 : decode prog_24_method_1_code 5 = .ok (.invokestatic 7, 3) := by decide +kernel
theorem d7_8 : decode prog_24_method_1_code 8 = .ok (.astore_n 3, 1) := by decide +kernel
theorem d7_9 : decode prog_24_method_1_code 9 = .ok (.aload 4, 2) := by decide +kernel
theorem d7_11 : decode prog_24_method_1_code 11 = .ok (.invokestatic 7, 3) := by decide +kernel
theorem d7_14 : decode prog_24_method_1_code 14 = .ok (.astore 4, 2) := by decide +kernel
theorem d7_16 : decode prog_24_method_1_code 16 = .ok (.aload 5, 2) := by decide +kernel
theorem d7_18 : decode prog_24_method_1_code 18 = .ok (.invokestatic 7, 3) := by decide +kernel
theorem d7_21 : decode prog_24_method_1_code 21 = .ok (.astore 5, 2) := by decide +kernel
theorem d7_23 : decode prog_24_method_1_code 23 = .ok (.aload 8, 2) := by decide +kernel
theorem d7_25 : decode prog_24_method_1_code 25 = .ok (.invokestatic 7, 3) := by decide +kernel
theorem d7_28 : decode prog_24_method_1_code 28 = .ok (.astore 8, 2) := by decide +kernel
theorem d7_30 : decode prog_24_method_1_code 30 = .ok (.aload 9, 2) := by decide +kernel
theorem d7_32 : decode prog_24_method_1_code 32 = .ok (.invokestatic 7, 3) := by decide +kernel
theorem d7_35 : decode prog_24_method_1_code 35 = .ok (.astore 9, 2) := by decide +kernel
theorem d7_37 : decode prog_24_method_1_code 37 = .ok (.aload_n 0, 1) := by decide +kernel
theorem d7_38 : decode prog_24_method_1_code 38 = .ok (.dload_n 1, 1) := by decide +kernel
theorem d7_39 : decode prog_24_method_1_code 39 = .ok (.putfield 13, 3) := by decide +kernel
theorem d7_42 : decode prog_24_method_1_code 42 = .ok (.aload_n 0, 1) := by decide +kernel
theorem d7_43 : decode prog_24_method_1_code 43 = .ok (.aload_n 3, 1) := by decide +kernel
theorem d7_44 : decode prog_24_method_1_code 44 = .ok (.putfield 19, 3) := by decide +kernel
theorem d7_47 : decode prog_24_method_1_code 47 = .ok (.aload_n 0, 1) := by decide +kernel
theorem d7_48 : decode prog_24_method_1_code 48 = .ok (.aload 4, 2) := by decide +kernel
theorem d7_50 : decode prog_24_method_1_code 50 = .ok (.putfield 23, 3) := by decide +kernel
theorem d7_53 : decode prog_24_method_1_code 53 = .ok (.aload_n 0, 1) := by decide +kernel
theorem d7_54 : decode prog_24_method_1_code 54 = .ok (.aload 5, 2) := by decide +kernel
theorem d7_56 : decode prog_24_method_1_code 56 = .ok (.putfield 26, 3) := by decide +kernel
theorem d7_59 : decode prog_24_method_1_code 59 = .ok (.aload_n 0, 1) := by decide +kernel
theorem d7_60 : decode prog_24_method_1_code 60 = .ok (.dload 6, 2) := by decide +kernel
theorem d7_62 : decode prog_24_method_1_code 62 = .ok (.putfield 29, 3) := by decide +kernel
theorem d7_65 : decode prog_24_method_1_code 65 = .ok (.aload_n 0, 1) := by decide +kernel
theorem d7_66 : decode prog_24_method_1_code 66 = .ok (.aload 8, 2) := by decide +kernel
theorem d7_68 : decode prog_24_method_1_code 68 = .ok (.putfield 32, 3) := by decide +kernel
theorem d7_71 : decode prog_24_method_1_code 71 = .ok (.aload_n 0, 1) := by decide +kernel
theorem d7_72 : decode prog_24_method_1_code 72 = .ok (.aload 9, 2) := by decide +kernel
theorem d7_74 : decode prog_24_method_1_code 74 = .ok (.putfield 35, 3) := by decide +kernel
theorem d7_77 : decode prog_24_method_1_code 77 = .ok (.return_, 1) := by decide +kernel

theorem pn_7 : plainFor own_y2 = true := by first | exact plainFor_of_name (by first | (simp [plainName, overriddenIn]; done) | decide +kernel) | decide +kernel

theorem d5_0 : decode prog_24_method_2_code 0 = .ok (.aload_n 0, 1) := by decide +kernel
theorem d5_1 : decode prog_24_method_2_code 1 = .ok (.dload_n 1, 1) := by decide +kernel
theorem d5_2 : decode prog_24_method_2_code 2 = .ok (.aload_n 3, 1) := by decide +kernel
theorem d5_3 : decode prog_24_method_2_code 3 = .ok (.aload 4, 2) := by decide +kernel
theorem d5_5 : decode prog_24_method_2_code 5 = .ok (.aload 5, 2) := by decide +kernel
theorem d5_7 : decode prog_24_method_2_code 7 = .ok (.dconst 0, 1) := by decide +kernel
theorem d5_8 : decode prog_24_method_2_code 8 = .ok (.invokestatic 38, 3) := by decide +kernel
theorem d5_11 : decode prog_24_method_2_code 11 = .ok (.invokestatic 38, 3) := by decide +kernel
theorem d5_14 : decode prog_24_method_2_code 14 = .ok (.invokespecial 42, 3) := by decide +kernel
theorem d5_17 : decode prog_24_method_2_code 17 = .ok (.return_, 1) := by decide +kernel

theorem pn_5 : plainFor own_y1 = true := by first | exact plainFor_of_name (by first | (simp [plainName, overriddenIn]; done) | decide +kernel) | decide +kernel

theorem pd___Ljava_util_List_ : parseMethodDescriptor "()Ljava/util/List;" = some ⟨[], some (.object "java/util/List")⟩ := by decide +kernel
theorem pd___Ljava_lang_Object__Ljava_util_List_ : parseMethodDescriptor "([Ljava/lang/Object;)Ljava/util/List;" = some ⟨[(.array (.object "java/lang/Object"))], some (.object "java/util/List")⟩ := by decide +kernel
theorem pd___Z : parseMethodDescriptor "()Z" = some ⟨[], some .boolean⟩ := by decide +kernel
theorem pd__Ljava_lang_Object__Ljava_lang_Object_ : parseMethodDescriptor "(Ljava/lang/Object;)Ljava/lang/Object;" = some ⟨[(.object "java/lang/Object")], some (.object "java/lang/Object")⟩ := by decide +kernel
theorem pd___Ljava_lang_Object_ILjava_lang_Class___Ljava_lang_Object_ : parseMethodDescriptor "([Ljava/lang/Object;ILjava/lang/Class;)[Ljava/lang/Object;" = some ⟨[(.array (.object "java/lang/Object")), .int, (.object "java/lang/Class")], some (.array (.object "java/lang/Object"))⟩ := by decide +kernel
theorem pd___Ljava_lang_Object_I__Ljava_lang_Object_ : parseMethodDescriptor "([Ljava/lang/Object;I)[Ljava/lang/Object;" = some ⟨[(.array (.object "java/lang/Object")), .int], some (.array (.object "java/lang/Object"))⟩ := by decide +kernel
theorem pd___Ljava_lang_Object_Z_V : parseMethodDescriptor "([Ljava/lang/Object;Z)V" = some ⟨[(.array (.object "java/lang/Object")), .boolean], none⟩ := by decide +kernel
theorem pd__Ljava_lang_Object__V : parseMethodDescriptor "(Ljava/lang/Object;)V" = some ⟨[(.object "java/lang/Object")], none⟩ := by decide +kernel
theorem pd__Ljava_lang_Object_Ljava_lang_Object__V : parseMethodDescriptor "(Ljava/lang/Object;Ljava/lang/Object;)V" = some ⟨[(.object "java/lang/Object"), (.object "java/lang/Object")], none⟩ := by decide +kernel
theorem pd__Ljava_util_Collection__Ljava_util_List_ : parseMethodDescriptor "(Ljava/util/Collection;)Ljava/util/List;" = some ⟨[(.object "java/util/Collection")], some (.object "java/util/List")⟩ := by decide +kernel
theorem pd__DLjava_util_List_Ljava_util_List_Ljava_util_List_DLjava_util_List_Ljava_util_List__V : parseMethodDescriptor "(DLjava/util/List;Ljava/util/List;Ljava/util/List;DLjava/util/List;Ljava/util/List;)V" = some ⟨[.double, (.object "java/util/List"), (.object "java/util/List"), (.object "java/util/List"), .double, (.object "java/util/List"), (.object "java/util/List")], none⟩ := by decide +kernel
theorem pd__DLjava_util_List_Ljava_util_List_Ljava_util_List__V : parseMethodDescriptor "(DLjava/util/List;Ljava/util/List;Ljava/util/List;)V" = some ⟨[.double, (.object "java/util/List"), (.object "java/util/List"), (.object "java/util/List")], none⟩ := by decide +kernel
theorem pd___Ljava_lang_Object_ : parseMethodDescriptor "()Ljava/lang/Object;" = some ⟨[], some (.object "java/lang/Object")⟩ := by decide +kernel

def own_G (Z : State) (de : Addr) (kd : ClassId) (el ea : Addr) (ka : ClassId) (em mr : Addr) : Prop :=
  Sta Z Z.heap "java/util/ArrayList" "DEFAULTCAPACITY_EMPTY_ELEMENTDATA" "[Ljava/lang/Object;" (.ref de) ∧ Arv Z Z.heap de kd (.object "java/lang/Object") (0 : Int32) [] .null ∧ Sta Z Z.heap "java/util/ImmutableCollections" "EMPTY_LIST" "Ljava/util/ImmutableCollections$ListN;" (.ref el) ∧ Exa Z Z.heap el "java/util/ImmutableCollections$ListN" ∧ Fld Z Z.heap el "java/util/ImmutableCollections$ListN" "allowNulls" "Z" (.int 0) ∧ Fld Z Z.heap el "java/util/ImmutableCollections$ListN" "elements" "[Ljava/lang/Object;" (.ref ea) ∧ Arv Z Z.heap ea ka (.object "java/lang/Object") (0 : Int32) [] .null ∧
  Sta Z Z.heap "java/util/ImmutableCollections" "EMPTY" "Ljava/lang/Object;" (.ref em) ∧ Exa Z Z.heap em "java/lang/Object" ∧ Mir Z "[Ljava/lang/Object;" mr
set_option maxRecDepth 65536 in
set_option maxHeartbeats 4000000 in
theorem rmLO (l : Launch) (Z : State) (a0 : Array Value) (hw : own_T a0 Z) (ws : List Jvm.Cond) (h0 : Heap) (n0 : Nat) (de : Addr) (kd : ClassId) (el ea : Addr) (ka : ClassId) (em mr : Addr) (G : own_G Z de kd el ea ka em mr) (Od : Old Z n0 h0)  :
    own_C l Z own_y52 jdk_40_method_36_code 0 (some (.object "java/util/List")) ws ({ frames := 0, cells := 0, slots := 0, locals := 0 } : Room) #[] h0 (own_Qr (some (.ref el)) h0 n0) := by
  refine own_body (ls := #[]) pn_6 (fun m => by first | (simp [entryFrame, mkF, argsToLocals, Value.category]; done) | rfl) ?_
  intro p e s m below meth c T0 hZ hx hby hml hown hnm hret hlk X0 e0
  replace hml : c.maxLocals = 0 := hml
  have N0 := Fr.nil n0
  obtain ⟨T1, X1, e1, st1⟩ := getS X0 hx hZ hown (host := "") (hw 36 rfl) Via.refl e0 (G.2.2.1.ext Od.2) (g := (mkF m 0 #[] [])) rfl (hb hby d6_0)
  refine own_go st1 ?_
  show own_R _ _ _ _ T1 (mkF m 3 #[] [(.ref el)])
  exact own_end X1 (some (.ref el)) (fun h => by rw [hret] at h; cases h) hlk (fun fs hr => own_retA X1 hx hret rfl rfl (hb hby d6_3) hr) ⟨rfl, N0, e1⟩ (by decide) (by decide)
set_option maxRecDepth 65536 in
set_option maxHeartbeats 4000000 in
theorem rmIE0 (l : Launch) (Z : State) (a0 : Array Value) (hw : own_T a0 Z) (ws : List Jvm.Cond) (h0 : Heap) (n0 : Nat) (a : Addr) (nn : Int32) (Fs : Fld Z h0 a "java/util/ArrayList" "size" "I" (.int nn)) (q : nn = 0) :
    own_C l Z own_y23 jdk_38_method_9_code 1 (some .boolean) ws ({ frames := 0, cells := 0, slots := 0, locals := 0 } : Room) #[(.ref a)] h0 (own_Qr (some (.int 1)) h0 n0) := by
  refine own_body (ls := #[.val (.ref a)]) pn_11 (fun m => by first | (simp [entryFrame, mkF, argsToLocals, Value.category]; done) | rfl) ?_
  intro p e s m below meth c T0 hZ hx hby hml hown hnm hret hlk X0 e0
  replace hml : c.maxLocals = 1 := hml
  have N0 := Fr.nil n0
  refine own_go (fun _ => XS.aloadN X0.here hx rfl (hb hby d11_0) rfl rfl) ?_
  show own_R _ _ _ _ T0 (mkF m 1 #[.val (.ref a)] [(.ref a)])
  obtain ⟨T1, X1, e1, st1⟩ := getF X0 hx hZ hown (host := "") (Or.inl (hw 68 rfl)) Via.refl e0 Fs (g := (mkF m 1 #[.val (.ref a)] [(.ref a)])) rfl rfl (hb hby d11_1)
  refine own_go st1 ?_
  show own_R _ _ _ _ T1 (mkF m 4 #[.val (.ref a)] [(.int nn)])
  refine own_go (fun _ => XS.ifNo X1.here hx rfl (hb hby d11_4) rfl ((if0 _ _).trans (teq q).2)) ?_
  show own_R _ _ _ _ T1 (mkF m 7 #[.val (.ref a)] [])
  refine own_go (fun _ => XS.iconst X1.here hx rfl (hb hby d11_7)) ?_
  refine own_go (fun _ => XS.goto X1.here hx rfl (pc0 := 8) (pc' := 12) rfl (hb hby d11_8) (by decide) (by decide)) ?_
  show own_R _ _ _ _ T1 (mkF m 12 #[.val (.ref a)] [(.int (1 : Int32))])
  exact own_end X1 (some (.int (nar .boolean (1 : Int32)))) (fun h => by rw [hret] at h; cases h) hlk (fun fs hr => retN X1 hx (t := .boolean) hret (by simp) (hb hby d11_12) hr) ⟨rfl, N0, e1⟩ (by decide) (by decide)
set_option maxRecDepth 65536 in
set_option maxHeartbeats 4000000 in
theorem rmIE1 (l : Launch) (Z : State) (a0 : Array Value) (hw : own_T a0 Z) (ws : List Jvm.Cond) (h0 : Heap) (n0 : Nat) (a : Addr) (nn : Int32) (Fs : Fld Z h0 a "java/util/ArrayList" "size" "I" (.int nn)) (q : ¬ nn = 0) :
    own_C l Z own_y23 jdk_38_method_9_code 1 (some .boolean) ws ({ frames := 0, cells := 0, slots := 0, locals := 0 } : Room) #[(.ref a)] h0 (own_Qr (some (.int 0)) h0 n0) := by
  refine own_body (ls := #[.val (.ref a)]) pn_11 (fun m => by first | (simp [entryFrame, mkF, argsToLocals, Value.category]; done) | rfl) ?_
  intro p e s m below meth c T0 hZ hx hby hml hown hnm hret hlk X0 e0
  replace hml : c.maxLocals = 1 := hml
  have N0 := Fr.nil n0
  refine own_go (fun _ => XS.aloadN X0.here hx rfl (hb hby d11_0) rfl rfl) ?_
  show own_R _ _ _ _ T0 (mkF m 1 #[.val (.ref a)] [(.ref a)])
  obtain ⟨T1, X1, e1, st1⟩ := getF X0 hx hZ hown (host := "") (Or.inl (hw 68 rfl)) Via.refl e0 Fs (g := (mkF m 1 #[.val (.ref a)] [(.ref a)])) rfl rfl (hb hby d11_1)
  refine own_go st1 ?_
  show own_R _ _ _ _ T1 (mkF m 4 #[.val (.ref a)] [(.int nn)])
  refine own_go (fun _ => XS.ifYes X1.here hx rfl (pc0 := 4) (pc' := 11) rfl (hb hby d11_4) rfl ((if0 _ _).trans (feq q).2) (by decide) (by decide)) ?_
  show own_R _ _ _ _ T1 (mkF m 11 #[.val (.ref a)] [])
  refine own_go (fun _ => XS.iconst X1.here hx rfl (hb hby d11_11)) ?_
  show own_R _ _ _ _ T1 (mkF m 12 #[.val (.ref a)] [(.int (0 : Int32))])
  exact own_end X1 (some (.int (nar .boolean (0 : Int32)))) (fun h => by rw [hret] at h; cases h) hlk (fun fs hr => retN X1 hx (t := .boolean) hret (by simp) (hb hby d11_12) hr) ⟨rfl, N0, e1⟩ (by decide) (by decide)
set_option maxRecDepth 65536 in
set_option maxHeartbeats 4000000 in
theorem rmReq (l : Launch) (Z : State) (a0 : Array Value) (hw : own_T a0 Z) (ws : List Jvm.Cond) (h0 : Heap) (n0 : Nat) (a : Addr) :
    own_C l Z own_y55 jdk_31_method_10_code 1 (some (.object "java/lang/Object")) ws ({ frames := 0, cells := 0, slots := 0, locals := 0 } : Room) #[(.ref a)] h0 (own_Qr (some (.ref a)) h0 n0) := by
  refine own_body (ls := #[.val (.ref a)]) pn_17 (fun m => by first | (simp [entryFrame, mkF, argsToLocals, Value.category]; done) | rfl) ?_
  intro p e s m below meth c T0 hZ hx hby hml hown hnm hret hlk X0 e0
  replace hml : c.maxLocals = 1 := hml
  have N0 := Fr.nil n0
  refine own_go (fun _ => XS.aloadN X0.here hx rfl (hb hby d17_0) rfl rfl) ?_
  show own_R _ _ _ _ T0 (mkF m 1 #[.val (.ref a)] [(.ref a)])
  refine own_go (fun _ => XS.ifnonnullYes X0.here hx rfl (pc0 := 1) (pc' := 12) rfl (hb hby d17_1) rfl (by decide) (by decide)) ?_
  show own_R _ _ _ _ T0 (mkF m 12 #[.val (.ref a)] [])
  refine own_go (fun _ => XS.aloadN X0.here hx rfl (hb hby d17_12) rfl rfl) ?_
  show own_R _ _ _ _ T0 (mkF m 13 #[.val (.ref a)] [(.ref a)])
  exact own_end X0 (some (.ref a)) (fun h => by rw [hret] at h; cases h) hlk (fun fs hr => own_retA X0 hx hret rfl rfl (hb hby d17_13) hr) ⟨rfl, N0, e0⟩ (by decide) (by decide)
set_option maxRecDepth 65536 in
set_option maxHeartbeats 4000000 in
theorem rmMin (l : Launch) (Z : State) (a0 : Array Value) (hw : own_T a0 Z) (ws : List Jvm.Cond) (h0 : Heap) (n0 : Nat) (a b : Int32) (q : b < a) :
    own_C l Z own_y10 jdk_29_method_69_code 2 (some .int) ws ({ frames := 0, cells := 0, slots := 0, locals := 0 } : Room) #[(.int a), (.int b)] h0 (own_Qr (some (.int b)) h0 n0) := by
  refine own_body (ls := #[.val (.int a), .val (.int b)]) pn_35 (fun m => by first | (simp [entryFrame, mkF, argsToLocals, Value.category]; done) | rfl) ?_
  intro p e s m below meth c T0 hZ hx hby hml hown hnm hret hlk X0 e0
  replace hml : c.maxLocals = 2 := hml
  have N0 := Fr.nil n0
  refine own_go (fun _ => XS.iloadN X0.here hx rfl (hb hby d35_0) rfl ) ?_
  refine own_go (fun _ => XS.iloadN X0.here hx rfl (hb hby d35_1) rfl ) ?_
  show own_R _ _ _ _ T0 (mkF m 2 #[.val (.int a), .val (.int b)] [(.int b), (.int a)])
  refine own_go (fun _ => XS.icmpYes X0.here hx rfl (pc0 := 2) (pc' := 9) rfl (hb hby d35_2) rfl (tlt q).2.2.1 (by decide) (by decide)) ?_
  show own_R _ _ _ _ T0 (mkF m 9 #[.val (.int a), .val (.int b)] [])
  refine own_go (fun _ => XS.iloadN X0.here hx rfl (hb hby d35_9) rfl ) ?_
  show own_R _ _ _ _ T0 (mkF m 10 #[.val (.int a), .val (.int b)] [(.int b)])
  exact own_end X0 (some (.int b)) (fun h => by rw [hret] at h; cases h) hlk (fun fs hr => own_retI X0 hx hret (hb hby d35_10) hr) ⟨rfl, N0, e0⟩ (by decide) (by decide)
def own_Qc (Z : State) (vs : List Value) (h0 : Heap) (n0 : Nat) (v : Option Value) (h : Heap) (L : List Loc) : Prop := ∃ (b : Addr) (k : ClassId), v = some (.ref b) ∧ Fr n0 L ∧ Keep h0 h [] ∧ h0.size ≤ b ∧ Arv Z h b k (.object "java/lang/Object") (Int32.ofNat vs.length) vs .null
theorem own_pad (n : Nat) : ∀ i, (List.replicate n Value.null).getD i .null = ([] : List Value).getD i .null := fun i => by
  simp [List.getD_eq_getElem?_getD, List.getElem?_replicate]; split <;> rfl
theorem own_ltn {n : Nat} (h : n < 10) : Int32.ofNat n < 10 := by
  rw [Int32.lt_iff_toInt_lt, own_ofNat (by omega)]
  show (n : Int) < 10
  omega
set_option maxRecDepth 65536 in
set_option maxHeartbeats 8000000 in
theorem rmC3 (l : Launch) (Z : State) (a0 : Array Value) (hw : own_T a0 Z) (ws : List Jvm.Cond) (h0 : Heap) (n0 : Nat) (de : Addr) (kd : ClassId) (el ea : Addr) (ka : ClassId) (em mr : Addr) (G : own_G Z de kd el ea ka em mr) (Od : Old Z n0 h0) (src : Addr) (k : ClassId) (ys : List Addr) (hn : ys.length ≤ 5) (A : Arv Z h0 src k (.object "java/lang/Object") (10 : Int32) (ys.map Value.ref) .null) (Hy : ∀ y ∈ ys, Exa Z h0 y "com/example/zellwerk/zellwerk/model/Area")  :
    own_C l Z own_y26 jdk_65_method_120_code 4 (some (.array (.object "java/lang/Object"))) ws ({ frames := 1, cells := 1, slots := 5, locals := 60 } : Room) #[(.ref src), (.int (Int32.ofNat (ys.map Value.ref).length)), (.ref mr)] h0 (own_Qc Z (ys.map Value.ref) h0 n0) := by
  refine own_body (ls := #[.val (.ref src), .val (.int (Int32.ofNat (ys.map Value.ref).length)), .val (.ref mr), .unset]) pn_34 (fun m => by first | (simp [entryFrame, mkF, argsToLocals, Value.category]; done) | rfl) ?_
  intro p e s m below meth c T0 hZ hx hby hml hown hnm hret hlk X0 e0
  replace hml : c.maxLocals = 4 := hml
  have N0 := Fr.nil n0
  have hl5 : (ys.map Value.ref).length ≤ 5 := by simpa using hn
  refine own_go (fun _ => XS.aloadN X0.here hx rfl (hb hby d34_0) rfl rfl) ?_
  show own_R _ _ _ _ T0 (mkF m 1 #[.val (.ref src), .val (.int (Int32.ofNat (ys.map Value.ref).length)), .val (.ref mr), .unset] [(.ref mr)])
  obtain ⟨T1, X1, e1, st1⟩ := own_ldcM X0 hx hZ hown (hw 289 rfl) G.2.2.2.2.2.2.2.2.2 e0 (g := (mkF m 1 #[.val (.ref src), .val (.int (Int32.ofNat (ys.map Value.ref).length)), .val (.ref mr), .unset] [(.ref mr)])) rfl (hb hby d34_1)
  refine own_go st1 ?_
  show own_R _ _ _ _ T1 (mkF m 3 #[.val (.ref src), .val (.int (Int32.ofNat (ys.map Value.ref).length)), .val (.ref mr), .unset] [(.ref mr), (.ref mr)])
  refine own_go (fun _ => Jvm.RoadKit.acmp (g := (mkF m 3 #[.val (.ref src), .val (.int (Int32.ofNat (ys.map Value.ref).length)), .val (.ref mr), .unset] [(.ref mr), (.ref mr)])) X1 hx rfl rfl rfl (pc0 := 3) (pc' := 6) (same := true) rfl (hb hby d34_3) rfl (decide_eq_true rfl) (by decide) (by decide)) ?_
  show own_R _ _ _ _ T1 (mkF m 6 #[.val (.ref src), .val (.int (Int32.ofNat (ys.map Value.ref).length)), .val (.ref mr), .unset] [])
  refine own_go (fun _ => XS.iloadN X1.here hx rfl (hb hby d34_6) rfl ) ?_
  show own_R _ _ _ _ T1 (mkF m 7 #[.val (.ref src), .val (.int (Int32.ofNat (ys.map Value.ref).length)), .val (.ref mr), .unset] [(.int (Int32.ofNat (ys.map Value.ref).length))])
  obtain ⟨T2, h2, k2, X2, e2, E2, A2, Ex2, V2, st2⟩ := newRE X1 hx hZ hown (hw 290 rfl) (hw 267 rfl) e1 (g := (mkF m 7 #[.val (.ref src), .val (.int (Int32.ofNat (ys.map Value.ref).length)), .val (.ref mr), .unset] [(.int (Int32.ofNat (ys.map Value.ref).length))])) rfl (hb hby d34_7) rfl (own_ge0 (by omega)) (cap := 5) (by rw [own_clamp (by omega)]; exact hl5) (by decide) (by decide) (by decide) (ad := "[Ljava/lang/Object;") rfl
  obtain ⟨b, gb⟩ : ∃ z, z = h0.size := ⟨_, rfl⟩
  rw [← gb] at A2 Ex2 st2
  refine own_go st2 ?_
  show own_R _ _ _ _ T2 (mkF m 10 #[.val (.ref src), .val (.int (Int32.ofNat (ys.map Value.ref).length)), .val (.ref mr), .unset] [(.ref b)])
  refine own_go (fun _ => XS.goto X2.here hx rfl (pc0 := 10) (pc' := 24) rfl (hb hby d34_10) (by decide) (by decide)) ?_
  refine own_go (fun _ => XS.astoreN X2.here hx rfl (hb hby d34_24) rfl rfl (l' := #[.val (.ref src), .val (.int (Int32.ofNat (ys.map Value.ref).length)), .val (.ref mr), .val (.ref b)]) rfl) ?_
  refine own_go (fun _ => XS.aloadN X2.here hx rfl (hb hby d34_25) rfl rfl) ?_
  refine own_go (fun _ => XS.iconst X2.here hx rfl (hb hby d34_26)) ?_
  refine own_go (fun _ => XS.aloadN X2.here hx rfl (hb hby d34_27) rfl rfl) ?_
  refine own_go (fun _ => XS.iconst X2.here hx rfl (hb hby d34_28)) ?_
  refine own_go (fun _ => XS.aloadN X2.here hx rfl (hb hby d34_29) rfl rfl) ?_
  show own_R _ _ _ _ T2 (mkF m 30 #[.val (.ref src), .val (.int (Int32.ofNat (ys.map Value.ref).length)), .val (.ref mr), .val (.ref b)] [(.ref src), (.int (0 : Int32)), (.ref b), (.int (0 : Int32)), (.ref src)])
  refine own_go (own_len X2 hx hZ e2 (A.ext E2) (g := (mkF m 30 #[.val (.ref src), .val (.int (Int32.ofNat (ys.map Value.ref).length)), .val (.ref mr), .val (.ref b)] [(.ref src), (.int (0 : Int32)), (.ref b), (.int (0 : Int32)), (.ref src)])) rfl rfl (hb hby d34_30)) ?_
  show own_R _ _ _ _ T2 (mkF m 31 #[.val (.ref src), .val (.int (Int32.ofNat (ys.map Value.ref).length)), .val (.ref mr), .val (.ref b)] [(.int (10 : Int32)), (.int (0 : Int32)), (.ref b), (.int (0 : Int32)), (.ref src)])
  refine own_go (fun _ => XS.iloadN X2.here hx rfl (hb hby d34_31) rfl ) ?_
  show own_R _ _ _ _ T2 (mkF m 32 #[.val (.ref src), .val (.int (Int32.ofNat (ys.map Value.ref).length)), .val (.ref mr), .val (.ref b)] [(.int (Int32.ofNat (ys.map Value.ref).length)), (.int (10 : Int32)), (.int (0 : Int32)), (.ref b), (.int (0 : Int32)), (.ref src)])
  obtain ⟨v3, T3, L3, X3, Q3, st3⟩ := own_callS X2 hx hZ hown (y := own_y10) (hw 291 rfl) (hw 292 rfl) (hw 264 rfl) (hw 293 rfl) (by decide) (rmMin l Z a0 hw [] h2 n0 10 (Int32.ofNat (ys.map Value.ref).length) (own_ltn (by omega))) (W := 4) (g := (mkF m 32 #[.val (.ref src), .val (.int (Int32.ofNat (ys.map Value.ref).length)), .val (.ref mr), .val (.ref b)] [(.int (Int32.ofNat (ys.map Value.ref).length)), (.int (10 : Int32)), (.int (0 : Int32)), (.ref b), (.int (0 : Int32)), (.ref src)])) rfl (by rw [hml]; rfl) (argsL := [(.int (10 : Int32)), (.int (Int32.ofNat (ys.map Value.ref).length))]) (rest := [(.int (0 : Int32)), (.ref b), (.int (0 : Int32)), (.ref src)]) (lenOf pd__II_I rfl) rfl rfl (Nat.le_of_eq rfl) (hb hby d34_32) e2 (by decide) (by decide) (by decide) (by decide)
  obtain ⟨rfl, N3q, e3⟩ := Q3
  have N3 := Fr.app N0 N3q
  refine own_go st3 ?_
  show own_R _ _ _ _ T3 (mkF m 35 #[.val (.ref src), .val (.int (Int32.ofNat (ys.map Value.ref).length)), .val (.ref mr), .val (.ref b)] [(.int (Int32.ofNat (ys.map Value.ref).length)), (.int (0 : Int32)), (.ref b), (.int (0 : Int32)), (.ref src)])
  have B2 : Arv Z h2 b k2 (.object "java/lang/Object") (Int32.ofNat (ys.map Value.ref).length) (List.replicate (ys.map Value.ref).length Value.null) .null := (Arv.new A2 (own_ge0 (by omega))).pad (own_pad _)
  have hI : ∀ y ∈ ys, Ins Z h2 y "java/lang/Object" true := fun y hy => Ins.of_exa ((Hy y hy).ext E2) (hw 268 rfl)
  have SL : StoL Z h2 b (ys.map Value.ref) := own_stol A2 rfl V2 ys hI
  have cN := own_clamp (n := (ys.map Value.ref).length) (by omega)
  obtain ⟨T4, h4, L4, X4, e4, N4, K4, A4, st4⟩ := cpA X3 hx hZ hown (hw 294 rfl) (hw 297 rfl) (hw 295 rfl) (hw 296 rfl) e3 (A.ext E2) B2 (sp := 0) (dp := 0) (nn := (Int32.ofNat (ys.map Value.ref).length)) (us := ys.map Value.ref) (Or.inr ⟨rfl, rfl, SL⟩) (by decide) (by decide) (own_ge0 (by omega)) (by rw [cN]; show 0 + _ ≤ 10; omega) (by rw [cN]; show 0 + _ ≤ _; omega) (by rw [cN]; exact (own_rng .null _).symm) (by rw [cN, List.length_replicate]; show 0 + _ ≤ _; omega) N3 (by rw [gb]; exact Od.1 ▸ Od.2.1) (g := (mkF m 35 #[.val (.ref src), .val (.int (Int32.ofNat (ys.map Value.ref).length)), .val (.ref mr), .val (.ref b)] [(.int (Int32.ofNat (ys.map Value.ref).length)), (.int (0 : Int32)), (.ref b), (.int (0 : Int32)), (.ref src)])) rfl (by rw [hml]; rfl) rfl (hb hby d34_35) (by decide) (W := 0) (Nat.le_of_eq rfl) (by decide)
  refine own_go st4 ?_
  show own_R _ _ _ _ T4 (mkF m 38 #[.val (.ref src), .val (.int (Int32.ofNat (ys.map Value.ref).length)), .val (.ref mr), .val (.ref b)] [])
  refine own_go (fun _ => XS.aloadN X4.here hx rfl (hb hby d34_38) rfl rfl) ?_
  show own_R _ _ _ _ T4 (mkF m 39 #[.val (.ref src), .val (.int (Int32.ofNat (ys.map Value.ref).length)), .val (.ref mr), .val (.ref b)] [(.ref b)])
  have A4q : Arv Z h4 b k2 (.object "java/lang/Object") (Int32.ofNat (ys.map Value.ref).length) (ys.map Value.ref) .null := by
    have q := A4
    rw [cN] at q
    simpa using q
  exact own_end X4 (some (.ref b)) (fun h => by rw [hret] at h; cases h) hlk (fun fs hr => own_retA X4 hx hret rfl rfl (hb hby d34_39) hr) (by show own_Qc Z (ys.map Value.ref) h0 n0 _ T4.heap _; rw [e4]; exact ⟨b, k2, rfl, N4, own_keep0 ((Keep.refl h0 []).ext E2) K4 (Nat.le_of_eq gb.symm), Nat.le_of_eq gb.symm, A4q⟩) (by decide) (by decide)
set_option maxRecDepth 65536 in
set_option maxHeartbeats 8000000 in
theorem rmC2 (l : Launch) (Z : State) (a0 : Array Value) (hw : own_T a0 Z) (ws : List Jvm.Cond) (h0 : Heap) (n0 : Nat) (de : Addr) (kd : ClassId) (el ea : Addr) (ka : ClassId) (em mr : Addr) (G : own_G Z de kd el ea ka em mr) (Od : Old Z n0 h0) (src : Addr) (k : ClassId) (ys : List Addr) (hn : ys.length ≤ 5) (A : Arv Z h0 src k (.object "java/lang/Object") (10 : Int32) (ys.map Value.ref) .null) (Hy : ∀ y ∈ ys, Exa Z h0 y "com/example/zellwerk/zellwerk/model/Area") (Es : Exa Z h0 src "[Ljava/lang/Object;") :
    own_C l Z own_y25 jdk_65_method_119_code 2 (some (.array (.object "java/lang/Object"))) ws ({ frames := 2, cells := 1, slots := 5, locals := 100 } : Room) #[(.ref src), (.int (Int32.ofNat (ys.map Value.ref).length))] h0 (own_Qc Z (ys.map Value.ref) h0 n0) := by
  refine own_body (ls := #[.val (.ref src), .val (.int (Int32.ofNat (ys.map Value.ref).length))]) pn_33 (fun m => by first | (simp [entryFrame, mkF, argsToLocals, Value.category]; done) | rfl) ?_
  intro p e s m below meth c T0 hZ hx hby hml hown hnm hret hlk X0 e0
  replace hml : c.maxLocals = 2 := hml
  have N0 := Fr.nil n0
  refine own_go (fun _ => XS.aloadN X0.here hx rfl (hb hby d33_0) rfl rfl) ?_
  refine own_go (fun _ => XS.iloadN X0.here hx rfl (hb hby d33_1) rfl ) ?_
  refine own_go (fun _ => XS.aloadN X0.here hx rfl (hb hby d33_2) rfl rfl) ?_
  show own_R _ _ _ _ T0 (mkF m 3 #[.val (.ref src), .val (.int (Int32.ofNat (ys.map Value.ref).length))] [(.ref src), (.int (Int32.ofNat (ys.map Value.ref).length)), (.ref src)])
  obtain ⟨T1, X1, e1, st1⟩ := gcls X0 hx hZ hown (hw 280 rfl) (hw 281 rfl) (hw 57 rfl) (hw 283 rfl) (hw 282 rfl) (hw 284 rfl) e0 Es G.2.2.2.2.2.2.2.2.2 (g := (mkF m 3 #[.val (.ref src), .val (.int (Int32.ofNat (ys.map Value.ref).length))] [(.ref src), (.int (Int32.ofNat (ys.map Value.ref).length)), (.ref src)])) rfl (by rw [hml]; rfl) rfl (hb hby d33_3) (by decide) (W := 2) (Nat.le_of_eq rfl) (by decide)
  refine own_go st1 ?_
  show own_R _ _ _ _ T1 (mkF m 6 #[.val (.ref src), .val (.int (Int32.ofNat (ys.map Value.ref).length))] [(.ref mr), (.int (Int32.ofNat (ys.map Value.ref).length)), (.ref src)])
  obtain ⟨v2, T2, L2, X2, Q2, st2⟩ := own_callS X1 hx hZ hown (y := own_y26) (hw 286 rfl) (hw 287 rfl) (hw 132 rfl) (hw 288 rfl) (by decide) (rmC3 l Z a0 hw [] h0 n0 de kd el ea ka em mr G Od src k ys hn A Hy) (W := 0) (g := (mkF m 6 #[.val (.ref src), .val (.int (Int32.ofNat (ys.map Value.ref).length))] [(.ref mr), (.int (Int32.ofNat (ys.map Value.ref).length)), (.ref src)])) rfl (by rw [hml]; rfl) (argsL := [(.ref src), (.int (Int32.ofNat (ys.map Value.ref).length)), (.ref mr)]) (rest := []) (lenOf pd___Ljava_lang_Object_ILjava_lang_Class___Ljava_lang_Object_ rfl) rfl rfl (Nat.le_of_eq rfl) (hb hby d33_6) e1 (by decide) (by decide) (by decide) (by decide)
  obtain ⟨b, k2, rfl, N2q, q2⟩ := Q2
  have N2 := Fr.app N0 N2q
  refine own_go st2 ?_
  show own_R _ _ _ _ T2 (mkF m 9 #[.val (.ref src), .val (.int (Int32.ofNat (ys.map Value.ref).length))] [(.ref b)])
  exact own_end X2 (some (.ref b)) (fun h => by rw [hret] at h; cases h) hlk (fun fs hr => own_retA X2 hx hret rfl rfl (hb hby d33_9) hr) ⟨b, k2, rfl, N2, q2⟩ (by decide) (by decide)
set_option maxRecDepth 65536 in
set_option maxHeartbeats 8000000 in
theorem rmTA (l : Launch) (Z : State) (a0 : Array Value) (hw : own_T a0 Z) (ws : List Jvm.Cond) (h0 : Heap) (n0 : Nat) (de : Addr) (kd : ClassId) (el ea : Addr) (ka : ClassId) (em mr : Addr) (G : own_G Z de kd el ea ka em mr) (Od : Old Z n0 h0) (a : Addr) (ed : Addr) (k : ClassId) (ys : List Addr) (md : Int32) (hn : ys.length ≤ 5) (L0 : own_L Z h0 a ed k (ys.map Value.ref) md) (Hy : ∀ y ∈ ys, Exa Z h0 y "com/example/zellwerk/zellwerk/model/Area")  :
    own_C l Z own_y24 jdk_38_method_16_code 1 (some (.array (.object "java/lang/Object"))) ws ({ frames := 3, cells := 1, slots := 5, locals := 130 } : Room) #[(.ref a)] h0 (own_Qc Z (ys.map Value.ref) h0 n0) := by
  refine own_body (ls := #[.val (.ref a)]) pn_32 (fun m => by first | (simp [entryFrame, mkF, argsToLocals, Value.category]; done) | rfl) ?_
  intro p e s m below meth c T0 hZ hx hby hml hown hnm hret hlk X0 e0
  replace hml : c.maxLocals = 1 := hml
  have N0 := Fr.nil n0
  obtain ⟨⟨E, Fe, Fs, Fm⟩, A2, V2, ne, X2e⟩ := L0
  refine own_go (fun _ => XS.aloadN X0.here hx rfl (hb hby d32_0) rfl rfl) ?_
  show own_R _ _ _ _ T0 (mkF m 1 #[.val (.ref a)] [(.ref a)])
  obtain ⟨T1, X1, e1, st1⟩ := getF X0 hx hZ hown (host := "") (Or.inl (hw 24 rfl)) Via.refl e0 Fe (g := (mkF m 1 #[.val (.ref a)] [(.ref a)])) rfl rfl (hb hby d32_1)
  refine own_go st1 ?_
  show own_R _ _ _ _ T1 (mkF m 4 #[.val (.ref a)] [(.ref ed)])
  refine own_go (fun _ => XS.aloadN X1.here hx rfl (hb hby d32_4) rfl rfl) ?_
  show own_R _ _ _ _ T1 (mkF m 5 #[.val (.ref a)] [(.ref a), (.ref ed)])
  obtain ⟨T2, X2, e2, st2⟩ := getF X1 hx hZ hown (host := "") (Or.inl (hw 68 rfl)) Via.refl e1 Fs (g := (mkF m 5 #[.val (.ref a)] [(.ref a), (.ref ed)])) rfl rfl (hb hby d32_5)
  refine own_go st2 ?_
  show own_R _ _ _ _ T2 (mkF m 8 #[.val (.ref a)] [(.int (Int32.ofNat (ys.map Value.ref).length)), (.ref ed)])
  obtain ⟨v3, T3, L3, X3, Q3, st3⟩ := own_callS X2 hx hZ hown (y := own_y25) (hw 277 rfl) (hw 278 rfl) (hw 132 rfl) (hw 279 rfl) (by decide) (rmC2 l Z a0 hw [] h0 n0 de kd el ea ka em mr G Od ed k ys hn A2 Hy X2e) (W := 0) (g := (mkF m 8 #[.val (.ref a)] [(.int (Int32.ofNat (ys.map Value.ref).length)), (.ref ed)])) rfl (by rw [hml]; rfl) (argsL := [(.ref ed), (.int (Int32.ofNat (ys.map Value.ref).length))]) (rest := []) (lenOf pd___Ljava_lang_Object_I__Ljava_lang_Object_ rfl) rfl rfl (Nat.le_of_eq rfl) (hb hby d32_8) e2 (by decide) (by decide) (by decide) (by decide)
  obtain ⟨b, k2, rfl, N3q, q3⟩ := Q3
  have N3 := Fr.app N0 N3q
  refine own_go st3 ?_
  show own_R _ _ _ _ T3 (mkF m 11 #[.val (.ref a)] [(.ref b)])
  exact own_end X3 (some (.ref b)) (fun h => by rw [hret] at h; cases h) hlk (fun fs hr => own_retA X3 hx hret rfl rfl (hb hby d32_11) hr) ⟨b, k2, rfl, N3, q3⟩ (by decide) (by decide)
set_option maxRecDepth 65536 in
set_option maxHeartbeats 4000000 in
theorem rmAIC (l : Launch) (Z : State) (a0 : Array Value) (hw : own_T a0 Z) (ws : List Jvm.Cond) (h0 : Heap) (n0 : Nat) (a : Addr) :
    own_C l Z own_y32 jdk_47_method_1_code 1 none ws ({ frames := 2, cells := 0, slots := 0, locals := 26 } : Room) #[(.ref a)] h0 (own_Qr none h0 n0) := by
  refine own_body (ls := #[.val (.ref a)]) pn_40 (fun m => by first | (simp [entryFrame, mkF, argsToLocals, Value.category]; done) | rfl) ?_
  intro p e s m below meth c T0 hZ hx hby hml hown hnm hret hlk X0 e0
  replace hml : c.maxLocals = 1 := hml
  have N0 := Fr.nil n0
  refine own_go (fun _ => XS.aloadN X0.here hx rfl (hb hby d40_0) rfl rfl) ?_
  show own_R _ _ _ _ T0 (mkF m 1 #[.val (.ref a)] [(.ref a)])
  obtain ⟨v1, T1, L1, X1, Q1, st1⟩ := own_callI X0 hx hZ hown (y := own_y16) rfl (hw 321 rfl) (hw 13 rfl) (hw 17 rfl) (hw 16 rfl) (by decide) (rmAC l Z a0 hw [] h0 n0 a) (W := 0) (g := (mkF m 1 #[.val (.ref a)] [(.ref a)])) rfl (by rw [hml]; rfl) (a := a) (argsL := []) (rest := []) (lenOf pd___V rfl) rfl rfl (Nat.le_of_eq rfl) (hb hby d40_1) e0 (by decide) (by decide) (by decide) (by decide)
  obtain ⟨rfl, N1q, e1⟩ := Q1
  have N1 := Fr.app N0 N1q
  refine own_go st1 ?_
  show own_R _ _ _ _ T1 (mkF m 4 #[.val (.ref a)] [])
  exact own_end X1 none (fun _ => rfl) hlk (fun fs hr => X1.returnOut hx hret (hb hby d40_4) hr) ⟨rfl, N1, e1⟩ (by decide) (by decide)
set_option maxRecDepth 65536 in
set_option maxHeartbeats 4000000 in
theorem rmAIL (l : Launch) (Z : State) (a0 : Array Value) (hw : own_T a0 Z) (ws : List Jvm.Cond) (h0 : Heap) (n0 : Nat) (a : Addr) :
    own_C l Z own_y33 jdk_46_method_1_code 1 none ws ({ frames := 3, cells := 0, slots := 0, locals := 40 } : Room) #[(.ref a)] h0 (own_Qr none h0 n0) := by
  refine own_body (ls := #[.val (.ref a)]) pn_39 (fun m => by first | (simp [entryFrame, mkF, argsToLocals, Value.category]; done) | rfl) ?_
  intro p e s m below meth c T0 hZ hx hby hml hown hnm hret hlk X0 e0
  replace hml : c.maxLocals = 1 := hml
  have N0 := Fr.nil n0
  refine own_go (fun _ => XS.aloadN X0.here hx rfl (hb hby d39_0) rfl rfl) ?_
  show own_R _ _ _ _ T0 (mkF m 1 #[.val (.ref a)] [(.ref a)])
  obtain ⟨v1, T1, L1, X1, Q1, st1⟩ := own_callI X0 hx hZ hown (y := own_y32) rfl (hw 315 rfl) (hw 316 rfl) (hw 320 rfl) (hw 319 rfl) (by decide) (rmAIC l Z a0 hw [] h0 n0 a) (W := 0) (g := (mkF m 1 #[.val (.ref a)] [(.ref a)])) rfl (by rw [hml]; rfl) (a := a) (argsL := []) (rest := []) (lenOf pd___V rfl) rfl rfl (Nat.le_of_eq rfl) (hb hby d39_1) e0 (by decide) (by decide) (by decide) (by decide)
  obtain ⟨rfl, N1q, e1⟩ := Q1
  have N1 := Fr.app N0 N1q
  refine own_go st1 ?_
  show own_R _ _ _ _ T1 (mkF m 4 #[.val (.ref a)] [])
  exact own_end X1 none (fun _ => rfl) hlk (fun fs hr => X1.returnOut hx hret (hb hby d39_4) hr) ⟨rfl, N1, e1⟩ (by decide) (by decide)
def own_Qn (Z : State) (a xe : Addr) (h0 : Heap) (n0 : Nat) (v : Option Value) (h : Heap) (L : List Loc) : Prop := v = none ∧ Fr n0 L ∧ Keep h0 h [a] ∧ Exa Z h a "java/util/ImmutableCollections$ListN" ∧ Fld Z h a "java/util/ImmutableCollections$ListN" "elements" "[Ljava/lang/Object;" (.ref xe)
set_option maxRecDepth 65536 in
set_option maxHeartbeats 8000000 in
theorem rmNI (l : Launch) (Z : State) (a0 : Array Value) (hw : own_T a0 Z) (ws : List Jvm.Cond) (h0 : Heap) (n0 : Nat) (a xe : Addr) (g9 : n0 ≤ a) (E : Exa Z h0 a "java/util/ImmutableCollections$ListN") (Felements : Fld Z h0 a "java/util/ImmutableCollections$ListN" "elements" "[Ljava/lang/Object;" .null) (FallowNulls : Fld Z h0 a "java/util/ImmutableCollections$ListN" "allowNulls" "Z" (.int 0)) :
    own_C l Z own_y43 jdk_45_method_1_code 3 none ws ({ frames := 4, cells := 0, slots := 0, locals := 56 } : Room) #[(.ref a), (.ref xe), (.int (0 : Int32))] h0 (own_Qn Z a xe h0 n0) := by
  refine own_body (ls := #[.val (.ref a), .val (.ref xe), .val (.int (0 : Int32))]) pn_38 (fun m => by first | (simp [entryFrame, mkF, argsToLocals, Value.category]; done) | rfl) ?_
  intro p e s m below meth c T0 hZ hx hby hml hown hnm hret hlk X0 e0
  replace hml : c.maxLocals = 3 := hml
  have N0 := Fr.nil n0
  refine own_go (fun _ => XS.aloadN X0.here hx rfl (hb hby d38_0) rfl rfl) ?_
  show own_R _ _ _ _ T0 (mkF m 1 #[.val (.ref a), .val (.ref xe), .val (.int (0 : Int32))] [(.ref a)])
  obtain ⟨v1, T1, L1, X1, Q1, st1⟩ := own_callI X0 hx hZ hown (y := own_y33) rfl (hw 310 rfl) (hw 311 rfl) (hw 314 rfl) (hw 157 rfl) (by decide) (rmAIL l Z a0 hw [] h0 n0 a) (W := 0) (g := (mkF m 1 #[.val (.ref a), .val (.ref xe), .val (.int (0 : Int32))] [(.ref a)])) rfl (by rw [hml]; rfl) (a := a) (argsL := []) (rest := []) (lenOf pd___V rfl) rfl rfl (Nat.le_of_eq rfl) (hb hby d38_1) e0 (by decide) (by decide) (by decide) (by decide)
  obtain ⟨rfl, N1q, e1⟩ := Q1
  have N1 := Fr.app N0 N1q
  refine own_go st1 ?_
  show own_R _ _ _ _ T1 (mkF m 4 #[.val (.ref a), .val (.ref xe), .val (.int (0 : Int32))] [])
  refine own_go (fun _ => XS.aloadN X1.here hx rfl (hb hby d38_4) rfl rfl) ?_
  show own_R _ _ _ _ T1 (mkF m 5 #[.val (.ref a), .val (.ref xe), .val (.int (0 : Int32))] [(.ref a)])
  refine own_go (fun _ => XS.aloadN X1.here hx rfl (hb hby d38_5) rfl rfl) ?_
  show own_R _ _ _ _ T1 (mkF m 6 #[.val (.ref a), .val (.ref xe), .val (.int (0 : Int32))] [(.ref xe), (.ref a)])
  obtain ⟨T2, h2, X2, e2, W2, st2⟩ := putF X1 hx hZ hown (host := "") (Or.inl (hw 120 rfl)) Via.refl e1 Felements E (Or.inr ⟨(hw 121 rfl), rfl, hnm⟩) (hw 306 rfl) (ty := (.array (.object "java/lang/Object"))) (by decide) rfl rfl (g := (mkF m 6 #[.val (.ref a), .val (.ref xe), .val (.int (0 : Int32))] [(.ref xe), (.ref a)])) rfl rfl (hb hby d38_6)
  refine own_go st2 ?_
  show own_R _ _ _ _ T2 (mkF m 9 #[.val (.ref a), .val (.ref xe), .val (.int (0 : Int32))] [])
  have N2 := Fr.snoc X2 N1 g9
  have K2 := (Keep.refl h0 [a]).wr W2 (Or.inl (by simp))
  have E2 := E.wr W2
  have Felements2 := Felements.same W2
  have FallowNulls2 := FallowNulls.other W2 (Or.inr (slot_ne (Or.inr (hw 76 rfl)) (Or.inr (hw 121 rfl)) (by decide) (t := .boolean) (t' := (.array (.object "java/lang/Object"))) (by decide) (by decide)))
  refine own_go (fun _ => XS.aloadN X2.here hx rfl (hb hby d38_9) rfl rfl) ?_
  show own_R _ _ _ _ T2 (mkF m 10 #[.val (.ref a), .val (.ref xe), .val (.int (0 : Int32))] [(.ref a)])
  refine own_go (fun _ => XS.iloadN X2.here hx rfl (hb hby d38_10) rfl ) ?_
  show own_R _ _ _ _ T2 (mkF m 11 #[.val (.ref a), .val (.ref xe), .val (.int (0 : Int32))] [(.int (0 : Int32)), (.ref a)])
  obtain ⟨T3, h3, X3, e3, W3, st3⟩ := putF X2 hx hZ hown (host := "") (Or.inl (hw 323 rfl)) Via.refl e2 FallowNulls2 E2 (Or.inr ⟨(hw 76 rfl), rfl, hnm⟩) (hw 306 rfl) (ty := .boolean) (by decide) rfl rfl (g := (mkF m 11 #[.val (.ref a), .val (.ref xe), .val (.int (0 : Int32))] [(.int (0 : Int32)), (.ref a)])) rfl rfl (hb hby d38_11)
  refine own_go st3 ?_
  show own_R _ _ _ _ T3 (mkF m 14 #[.val (.ref a), .val (.ref xe), .val (.int (0 : Int32))] [])
  have N3 := Fr.snoc X3 N2 g9
  have K3 := K2.wr W3 (Or.inl (by simp))
  have E3 := E2.wr W3
  have Felements3 := Felements2.other W3 (Or.inr (slot_ne (Or.inr (hw 121 rfl)) (Or.inr (hw 76 rfl)) (by decide) (t := (.array (.object "java/lang/Object"))) (t' := .boolean) (by decide) (by decide)))
  exact own_end X3 none (fun _ => rfl) hlk (fun fs hr => X3.returnOut hx hret (hb hby d38_14) hr) (by show own_Qn Z a xe h0 n0 _ T3.heap _; rw [e3]; exact ⟨rfl, N3, K3, E3, Felements3⟩) (by decide) (by decide)
def own_Qt (Z : State) (a y0 y1 : Addr) (h0 : Heap) (n0 : Nat) (v : Option Value) (h : Heap) (L : List Loc) : Prop := v = none ∧ Fr n0 L ∧ Keep h0 h [a] ∧ Exa Z h a "java/util/ImmutableCollections$List12" ∧ Fld Z h a "java/util/ImmutableCollections$List12" "e0" "Ljava/lang/Object;" (.ref y0) ∧ Fld Z h a "java/util/ImmutableCollections$List12" "e1" "Ljava/lang/Object;" (.ref y1)
set_option maxRecDepth 65536 in
set_option maxHeartbeats 8000000 in
theorem rm12a (l : Launch) (Z : State) (a0 : Array Value) (hw : own_T a0 Z) (ws : List Jvm.Cond) (h0 : Heap) (n0 : Nat) (de : Addr) (kd : ClassId) (el ea : Addr) (ka : ClassId) (em mr : Addr) (G : own_G Z de kd el ea ka em mr) (Od : Old Z n0 h0) (a y0 : Addr) (g9 : n0 ≤ a) (E : Exa Z h0 a "java/util/ImmutableCollections$List12") (Fe0 : Fld Z h0 a "java/util/ImmutableCollections$List12" "e0" "Ljava/lang/Object;" .null) (Fe1 : Fld Z h0 a "java/util/ImmutableCollections$List12" "e1" "Ljava/lang/Object;" .null) :
    own_C l Z own_y36 jdk_44_method_1_code 2 none ws ({ frames := 4, cells := 0, slots := 0, locals := 60 } : Room) #[(.ref a), (.ref y0)] h0 (own_Qt Z a y0 em h0 n0) := by
  refine own_body (ls := #[.val (.ref a), .val (.ref y0)]) pn_46 (fun m => by first | (simp [entryFrame, mkF, argsToLocals, Value.category]; done) | rfl) ?_
  intro p e s m below meth c T0 hZ hx hby hml hown hnm hret hlk X0 e0
  replace hml : c.maxLocals = 2 := hml
  have N0 := Fr.nil n0
  refine own_go (fun _ => XS.aloadN X0.here hx rfl (hb hby d46_0) rfl rfl) ?_
  show own_R _ _ _ _ T0 (mkF m 1 #[.val (.ref a), .val (.ref y0)] [(.ref a)])
  obtain ⟨v1, T1, L1, X1, Q1, st1⟩ := own_callI X0 hx hZ hown (y := own_y33) rfl (hw 356 rfl) (hw 311 rfl) (hw 314 rfl) (hw 157 rfl) (by decide) (rmAIL l Z a0 hw [] h0 n0 a) (W := 0) (g := (mkF m 1 #[.val (.ref a), .val (.ref y0)] [(.ref a)])) rfl (by rw [hml]; rfl) (a := a) (argsL := []) (rest := []) (lenOf pd___V rfl) rfl rfl (Nat.le_of_eq rfl) (hb hby d46_1) e0 (by decide) (by decide) (by decide) (by decide)
  obtain ⟨rfl, N1q, e1⟩ := Q1
  have N1 := Fr.app N0 N1q
  refine own_go st1 ?_
  show own_R _ _ _ _ T1 (mkF m 4 #[.val (.ref a), .val (.ref y0)] [])
  refine own_go (fun _ => XS.aloadN X1.here hx rfl (hb hby d46_4) rfl rfl) ?_
  refine own_go (fun _ => XS.aloadN X1.here hx rfl (hb hby d46_5) rfl rfl) ?_
  show own_R _ _ _ _ T1 (mkF m 6 #[.val (.ref a), .val (.ref y0)] [(.ref y0), (.ref a)])
  obtain ⟨v2, T2, L2, X2, Q2, st2⟩ := own_callS X1 hx hZ hown (y := own_y55) (hw 360 rfl) (hw 147 rfl) (hw 148 rfl) (hw 149 rfl) (by decide) (rmReq l Z a0 hw [] h0 n0 y0) (W := 1) (g := (mkF m 6 #[.val (.ref a), .val (.ref y0)] [(.ref y0), (.ref a)])) rfl (by rw [hml]; rfl) (argsL := [(.ref y0)]) (rest := [(.ref a)]) (lenOf pd__Ljava_lang_Object__Ljava_lang_Object_ rfl) rfl rfl (Nat.le_of_eq rfl) (hb hby d46_6) e1 (by decide) (by decide) (by decide) (by decide)
  obtain ⟨rfl, N2q, e2⟩ := Q2
  have N2 := Fr.app N1 N2q
  refine own_go st2 ?_
  show own_R _ _ _ _ T2 (mkF m 9 #[.val (.ref a), .val (.ref y0)] [(.ref y0), (.ref a)])
  obtain ⟨T3, h3, X3, e3, W3, st3⟩ := putF X2 hx hZ hown (host := "") (Or.inl (hw 361 rfl)) Via.refl e2 Fe0 E (Or.inr ⟨(hw 362 rfl), rfl, hnm⟩) (hw 350 rfl) (ty := (.object "java/lang/Object")) (by decide) rfl rfl (g := (mkF m 9 #[.val (.ref a), .val (.ref y0)] [(.ref y0), (.ref a)])) rfl rfl (hb hby d46_9)
  refine own_go st3 ?_
  show own_R _ _ _ _ T3 (mkF m 12 #[.val (.ref a), .val (.ref y0)] [])
  have N3 := Fr.snoc X3 N2 g9
  have K3 := (Keep.refl h0 [a]).wr W3 (Or.inl (by simp))
  have E3 := E.wr W3
  have Fe03 := Fe0.same W3
  have Fe13 := Fe1.other W3 (Or.inr (slot_ne (Or.inr (hw 364 rfl)) (Or.inr (hw 362 rfl)) (by decide) (t := (.object "java/lang/Object")) (t' := (.object "java/lang/Object")) (by decide) (by decide)))
  refine own_go (fun _ => XS.aloadN X3.here hx rfl (hb hby d46_12) rfl rfl) ?_
  show own_R _ _ _ _ T3 (mkF m 13 #[.val (.ref a), .val (.ref y0)] [(.ref a)])
  have Od3 := Od.keep K3 (fun x hx => by cases List.mem_singleton.mp hx; exact g9)
  obtain ⟨T4, X4, e4, st4⟩ := getS2 X3 hx hZ hown (Or.inr (hw 371 rfl)) Via.refl e3 (G.2.2.2.2.2.2.2.1.ext Od3.2) (g := (mkF m 13 #[.val (.ref a), .val (.ref y0)] [(.ref a)])) rfl (hb hby d46_13)
  refine own_go st4 ?_
  show own_R _ _ _ _ T4 (mkF m 16 #[.val (.ref a), .val (.ref y0)] [(.ref em), (.ref a)])
  obtain ⟨T5, h5, X5, e5, W5, st5⟩ := putF X4 hx hZ hown (host := "") (Or.inl (hw 363 rfl)) Via.refl e4 Fe13 E3 (Or.inr ⟨(hw 364 rfl), rfl, hnm⟩) (hw 350 rfl) (ty := (.object "java/lang/Object")) (by decide) rfl rfl (g := (mkF m 16 #[.val (.ref a), .val (.ref y0)] [(.ref em), (.ref a)])) rfl rfl (hb hby d46_16)
  refine own_go st5 ?_
  show own_R _ _ _ _ T5 (mkF m 19 #[.val (.ref a), .val (.ref y0)] [])
  have N5 := Fr.snoc X5 N3 g9
  have K5 := K3.wr W5 (Or.inl (by simp))
  have E5 := E3.wr W5
  have Fe05 := Fe03.other W5 (Or.inr (slot_ne (Or.inr (hw 362 rfl)) (Or.inr (hw 364 rfl)) (by decide) (t := (.object "java/lang/Object")) (t' := (.object "java/lang/Object")) (by decide) (by decide)))
  have Fe15 := Fe13.same W5
  exact own_end X5 none (fun _ => rfl) hlk (fun fs hr => X5.returnOut hx hret (hb hby d46_19) hr) (by show own_Qt Z a y0 em h0 n0 _ T5.heap _; rw [e5]; exact ⟨rfl, N5, K5, E5, Fe05, Fe15⟩) (by decide) (by decide)
set_option maxRecDepth 65536 in
set_option maxHeartbeats 8000000 in
theorem rm12b (l : Launch) (Z : State) (a0 : Array Value) (hw : own_T a0 Z) (ws : List Jvm.Cond) (h0 : Heap) (n0 : Nat) (a y0 y1 : Addr) (g9 : n0 ≤ a) (E : Exa Z h0 a "java/util/ImmutableCollections$List12") (Fe0 : Fld Z h0 a "java/util/ImmutableCollections$List12" "e0" "Ljava/lang/Object;" .null) (Fe1 : Fld Z h0 a "java/util/ImmutableCollections$List12" "e1" "Ljava/lang/Object;" .null) :
    own_C l Z own_y37 jdk_44_method_2_code 3 none ws ({ frames := 4, cells := 0, slots := 0, locals := 60 } : Room) #[(.ref a), (.ref y0), (.ref y1)] h0 (own_Qt Z a y0 y1 h0 n0) := by
  refine own_body (ls := #[.val (.ref a), .val (.ref y0), .val (.ref y1)]) pn_43 (fun m => by first | (simp [entryFrame, mkF, argsToLocals, Value.category]; done) | rfl) ?_
  intro p e s m below meth c T0 hZ hx hby hml hown hnm hret hlk X0 e0
  replace hml : c.maxLocals = 3 := hml
  have N0 := Fr.nil n0
  refine own_go (fun _ => XS.aloadN X0.here hx rfl (hb hby d43_0) rfl rfl) ?_
  show own_R _ _ _ _ T0 (mkF m 1 #[.val (.ref a), .val (.ref y0), .val (.ref y1)] [(.ref a)])
  obtain ⟨v1, T1, L1, X1, Q1, st1⟩ := own_callI X0 hx hZ hown (y := own_y33) rfl (hw 356 rfl) (hw 311 rfl) (hw 314 rfl) (hw 157 rfl) (by decide) (rmAIL l Z a0 hw [] h0 n0 a) (W := 0) (g := (mkF m 1 #[.val (.ref a), .val (.ref y0), .val (.ref y1)] [(.ref a)])) rfl (by rw [hml]; rfl) (a := a) (argsL := []) (rest := []) (lenOf pd___V rfl) rfl rfl (Nat.le_of_eq rfl) (hb hby d43_1) e0 (by decide) (by decide) (by decide) (by decide)
  obtain ⟨rfl, N1q, e1⟩ := Q1
  have N1 := Fr.app N0 N1q
  refine own_go st1 ?_
  show own_R _ _ _ _ T1 (mkF m 4 #[.val (.ref a), .val (.ref y0), .val (.ref y1)] [])
  refine own_go (fun _ => XS.aloadN X1.here hx rfl (hb hby d43_4) rfl rfl) ?_
  refine own_go (fun _ => XS.aloadN X1.here hx rfl (hb hby d43_5) rfl rfl) ?_
  show own_R _ _ _ _ T1 (mkF m 6 #[.val (.ref a), .val (.ref y0), .val (.ref y1)] [(.ref y0), (.ref a)])
  obtain ⟨v2, T2, L2, X2, Q2, st2⟩ := own_callS X1 hx hZ hown (y := own_y55) (hw 360 rfl) (hw 147 rfl) (hw 148 rfl) (hw 149 rfl) (by decide) (rmReq l Z a0 hw [] h0 n0 y0) (W := 1) (g := (mkF m 6 #[.val (.ref a), .val (.ref y0), .val (.ref y1)] [(.ref y0), (.ref a)])) rfl (by rw [hml]; rfl) (argsL := [(.ref y0)]) (rest := [(.ref a)]) (lenOf pd__Ljava_lang_Object__Ljava_lang_Object_ rfl) rfl rfl (Nat.le_of_eq rfl) (hb hby d43_6) e1 (by decide) (by decide) (by decide) (by decide)
  obtain ⟨rfl, N2q, e2⟩ := Q2
  have N2 := Fr.app N1 N2q
  refine own_go st2 ?_
  show own_R _ _ _ _ T2 (mkF m 9 #[.val (.ref a), .val (.ref y0), .val (.ref y1)] [(.ref y0), (.ref a)])
  obtain ⟨T3, h3, X3, e3, W3, st3⟩ := putF X2 hx hZ hown (host := "") (Or.inl (hw 361 rfl)) Via.refl e2 Fe0 E (Or.inr ⟨(hw 362 rfl), rfl, hnm⟩) (hw 350 rfl) (ty := (.object "java/lang/Object")) (by decide) rfl rfl (g := (mkF m 9 #[.val (.ref a), .val (.ref y0), .val (.ref y1)] [(.ref y0), (.ref a)])) rfl rfl (hb hby d43_9)
  refine own_go st3 ?_
  show own_R _ _ _ _ T3 (mkF m 12 #[.val (.ref a), .val (.ref y0), .val (.ref y1)] [])
  have N3 := Fr.snoc X3 N2 g9
  have K3 := (Keep.refl h0 [a]).wr W3 (Or.inl (by simp))
  have E3 := E.wr W3
  have Fe03 := Fe0.same W3
  have Fe13 := Fe1.other W3 (Or.inr (slot_ne (Or.inr (hw 364 rfl)) (Or.inr (hw 362 rfl)) (by decide) (t := (.object "java/lang/Object")) (t' := (.object "java/lang/Object")) (by decide) (by decide)))
  refine own_go (fun _ => XS.aloadN X3.here hx rfl (hb hby d43_12) rfl rfl) ?_
  refine own_go (fun _ => XS.aloadN X3.here hx rfl (hb hby d43_13) rfl rfl) ?_
  show own_R _ _ _ _ T3 (mkF m 14 #[.val (.ref a), .val (.ref y0), .val (.ref y1)] [(.ref y1), (.ref a)])
  obtain ⟨v4, T4, L4, X4, Q4, st4⟩ := own_callS X3 hx hZ hown (y := own_y55) (hw 360 rfl) (hw 147 rfl) (hw 148 rfl) (hw 149 rfl) (by decide) (rmReq l Z a0 hw [] h3 n0 y1) (W := 1) (g := (mkF m 14 #[.val (.ref a), .val (.ref y0), .val (.ref y1)] [(.ref y1), (.ref a)])) rfl (by rw [hml]; rfl) (argsL := [(.ref y1)]) (rest := [(.ref a)]) (lenOf pd__Ljava_lang_Object__Ljava_lang_Object_ rfl) rfl rfl (Nat.le_of_eq rfl) (hb hby d43_14) e3 (by decide) (by decide) (by decide) (by decide)
  obtain ⟨rfl, N4q, e4⟩ := Q4
  have N4 := Fr.app N3 N4q
  refine own_go st4 ?_
  show own_R _ _ _ _ T4 (mkF m 17 #[.val (.ref a), .val (.ref y0), .val (.ref y1)] [(.ref y1), (.ref a)])
  obtain ⟨T5, h5, X5, e5, W5, st5⟩ := putF X4 hx hZ hown (host := "") (Or.inl (hw 363 rfl)) Via.refl e4 Fe13 E3 (Or.inr ⟨(hw 364 rfl), rfl, hnm⟩) (hw 350 rfl) (ty := (.object "java/lang/Object")) (by decide) rfl rfl (g := (mkF m 17 #[.val (.ref a), .val (.ref y0), .val (.ref y1)] [(.ref y1), (.ref a)])) rfl rfl (hb hby d43_17)
  refine own_go st5 ?_
  show own_R _ _ _ _ T5 (mkF m 20 #[.val (.ref a), .val (.ref y0), .val (.ref y1)] [])
  have N5 := Fr.snoc X5 N4 g9
  have K5 := K3.wr W5 (Or.inl (by simp))
  have E5 := E3.wr W5
  have Fe05 := Fe03.other W5 (Or.inr (slot_ne (Or.inr (hw 362 rfl)) (Or.inr (hw 364 rfl)) (by decide) (t := (.object "java/lang/Object")) (t' := (.object "java/lang/Object")) (by decide) (by decide)))
  have Fe15 := Fe13.same W5
  exact own_end X5 none (fun _ => rfl) hlk (fun fs hr => X5.returnOut hx hret (hb hby d43_20) hr) (by show own_Qt Z a y0 y1 h0 n0 _ T5.heap _; rw [e5]; exact ⟨rfl, N5, K5, E5, Fe05, Fe15⟩) (by decide) (by decide)
def own_I12 (Z : State) (h : Heap) (x y0 y1 : Addr) : Prop := Exa Z h x "java/util/ImmutableCollections$List12" ∧ Fld Z h x "java/util/ImmutableCollections$List12" "e0" "Ljava/lang/Object;" (.ref y0) ∧ Fld Z h x "java/util/ImmutableCollections$List12" "e1" "Ljava/lang/Object;" (.ref y1)
def own_IN (Z : State) (h : Heap) (x xa : Addr) (k : ClassId) (nn : Int32) (vs : List Value) : Prop := Exa Z h x "java/util/ImmutableCollections$ListN" ∧ Fld Z h x "java/util/ImmutableCollections$ListN" "elements" "[Ljava/lang/Object;" (.ref xa) ∧ Arv Z h xa k (.object "java/lang/Object") nn vs .null
def own_Qi (Z : State) (y0 y1 : Addr) (h0 : Heap) (n0 : Nat) (v : Option Value) (h : Heap) (L : List Loc) : Prop := ∃ x : Addr, v = some (.ref x) ∧ Fr n0 L ∧ Keep h0 h [] ∧ h0.size ≤ x ∧ own_I12 Z h x y0 y1
def own_Qj (Z : State) (y0 y1 y2 : Addr) (h0 : Heap) (n0 : Nat) (v : Option Value) (h : Heap) (L : List Loc) : Prop := ∃ (x xa : Addr) (k : ClassId), v = some (.ref x) ∧ Fr n0 L ∧ Keep h0 h [] ∧ h0.size ≤ x ∧ h0.size ≤ xa ∧ own_IN Z h x xa k (Int32.ofNat 3) [.ref y0, .ref y1, .ref y2]
theorem own_appz {Z : State} {h h' : Heap} {a : Addr} {k : ClassId} {z : Int32} {vs : List Value} {j : Int32} {v : Value} (A : Arv Z h a k (.object "java/lang/Object") z vs .null) (hj : j.toNatClampNeg = vs.length) (hv : fits (.object "java/lang/Object") v = true) (W : Wr h h' a j.toNatClampNeg v) : Arv Z h' a k (.object "java/lang/Object") z (vs ++ [v]) .null := by
  have B : Arv Z h a k (.object "java/lang/Object") z (vs ++ [.null]) .null := A.pad (fun i => by
    simp only [List.getD_eq_getElem?_getD]
    rcases Nat.lt_trichotomy i vs.length with q | q | q
    · rw [List.getElem?_append_left q]
    · subst q; simp
    · rw [List.getElem?_eq_none (by simp; omega), List.getElem?_eq_none (by omega)])
  obtain ⟨c, Ar, q1, q2, q3, q4, q5⟩ := B
  have := Arv.set Ar q1 q2 q3 q4 q5 hv W vs.length hj (by simp)
  rwa [show (vs ++ [Value.null]).set vs.length v = vs ++ [v] from by simp] at this
set_option maxRecDepth 65536 in
set_option maxHeartbeats 16000000 in
theorem rmLF (l : Launch) (Z : State) (a0 : Array Value) (hw : own_T a0 Z) (ws : List Jvm.Cond) (h0 : Heap) (n0 : Nat) (de : Addr) (kd : ClassId) (el ea : Addr) (ka : ClassId) (em mr : Addr) (G : own_G Z de kd el ea ka em mr) (Od : Old Z n0 h0) (y0 y1 y2 : Addr) (Ey0 : Exa Z h0 y0 "com/example/zellwerk/zellwerk/model/Area") (Ey1 : Exa Z h0 y1 "com/example/zellwerk/zellwerk/model/Area") (Ey2 : Exa Z h0 y2 "com/example/zellwerk/zellwerk/model/Area") (src : Addr) (k : ClassId) (A : Arv Z h0 src k (.object "java/lang/Object") (Int32.ofNat 3) [.ref y0, .ref y1, .ref y2] .null)  :
    own_C l Z own_y31 jdk_56_method_4_code 3 (some (.object "java/util/List")) ws ({ frames := 5, cells := 2, slots := 5, locals := 80 } : Room) #[(.ref src)] h0 (own_Qj Z y0 y1 y2 h0 n0) := by
  refine own_body (ls := #[.val (.ref src), .unset, .unset]) pn_37 (fun m => by first | (simp [entryFrame, mkF, argsToLocals, Value.category]; done) | rfl) ?_
  intro p e s m below meth c T0 hZ hx hby hml hown hnm hret hlk X0 e0
  replace hml : c.maxLocals = 3 := hml
  have N0 := Fr.nil n0
  refine own_go (fun _ => XS.aloadN X0.here hx rfl (hb hby d37_0) rfl rfl) ?_
  show own_R _ _ _ _ T0 (mkF m 1 #[.val (.ref src), .unset, .unset] [(.ref src)])
  refine own_go (own_len X0 hx hZ e0 A (g := (mkF m 1 #[.val (.ref src), .unset, .unset] [(.ref src)])) rfl rfl (hb hby d37_1)) ?_
  show own_R _ _ _ _ T0 (mkF m 2 #[.val (.ref src), .unset, .unset] [(.int (Int32.ofNat 3))])
  obtain ⟨T1, h1, k1, X1, e1, E1, A1, Ex1, V1, st1⟩ := newRE X0 hx hZ hown (hw 304 rfl) (hw 267 rfl) e0 (g := (mkF m 2 #[.val (.ref src), .unset, .unset] [(.int (Int32.ofNat 3))])) rfl (hb hby d37_2) rfl (by decide) (cap := 3) (by decide) (by decide) (by decide) (by decide) (ad := "[Ljava/lang/Object;") rfl
  obtain ⟨na, gn⟩ : ∃ z, z = h0.size := ⟨_, rfl⟩
  rw [← gn] at A1 Ex1 st1
  refine own_go st1 ?_
  show own_R _ _ _ _ T1 (mkF m 5 #[.val (.ref src), .unset, .unset] [(.ref na)])
  have gN : h0.size ≤ na := Nat.le_of_eq gn.symm
  have gn0 : n0 ≤ na := Nat.le_trans (Od.1 ▸ Od.2.1) gN
  have nsa : src ≠ na := fun q => Nat.lt_irrefl _ (Nat.lt_of_lt_of_le A.lt (q ▸ gN))
  have Av1 := Arv.new A1 (by decide)
  have K1 := (Keep.refl h0 []).ext E1
  have As1 := A.ext E1
  refine own_go (fun _ => XS.astoreN X1.here hx rfl (hb hby d37_5) rfl rfl (l' := #[.val (.ref src), .val (.ref na), .unset]) rfl) ?_
  refine own_go (fun _ => XS.iconst X1.here hx rfl (hb hby d37_6)) ?_
  refine own_go (fun _ => XS.istoreN X1.here hx rfl (hb hby d37_7) rfl (l' := #[.val (.ref src), .val (.ref na), .val (.int (0 : Int32))]) rfl) ?_
  refine own_go (fun _ => XS.iloadN X1.here hx rfl (hb hby d37_8) rfl ) ?_
  refine own_go (fun _ => XS.aloadN X1.here hx rfl (hb hby d37_9) rfl rfl) ?_
  show own_R _ _ _ _ T1 (mkF m 10 #[.val (.ref src), .val (.ref na), .val (.int (0 : Int32))] [(.ref src), (.int (0 : Int32))])
  refine own_go (own_len X1 hx hZ e1 As1 (g := (mkF m 10 #[.val (.ref src), .val (.ref na), .val (.int (0 : Int32))] [(.ref src), (.int (0 : Int32))])) rfl rfl (hb hby d37_10)) ?_
  show own_R _ _ _ _ T1 (mkF m 11 #[.val (.ref src), .val (.ref na), .val (.int (0 : Int32))] [(.int (Int32.ofNat 3)), (.int (0 : Int32))])
  refine own_go (fun _ => XS.icmpNo X1.here hx rfl (hb hby d37_11) rfl (tlt (by decide : ((0 : Int32) : Int32) < (Int32.ofNat 3))).2.1) ?_
  show own_R _ _ _ _ T1 (mkF m 14 #[.val (.ref src), .val (.ref na), .val (.int (0 : Int32))] [])
  refine own_go (fun _ => XS.aloadN X1.here hx rfl (hb hby d37_14) rfl rfl) ?_
  refine own_go (fun _ => XS.iloadN X1.here hx rfl (hb hby d37_15) rfl ) ?_
  refine own_go (fun _ => XS.aloadN X1.here hx rfl (hb hby d37_16) rfl rfl) ?_
  refine own_go (fun _ => XS.iloadN X1.here hx rfl (hb hby d37_17) rfl ) ?_
  show own_R _ _ _ _ T1 (mkF m 18 #[.val (.ref src), .val (.ref na), .val (.int (0 : Int32))] [(.int (0 : Int32)), (.ref src), (.int (0 : Int32)), (.ref na)])
  refine own_go (own_ldR X1 hx hZ e1 As1 rfl ⟨by decide, by decide⟩ (v := (.ref y0)) rfl (g := (mkF m 18 #[.val (.ref src), .val (.ref na), .val (.int (0 : Int32))] [(.int (0 : Int32)), (.ref src), (.int (0 : Int32)), (.ref na)])) rfl rfl (hb hby d37_18)) ?_
  show own_R _ _ _ _ T1 (mkF m 19 #[.val (.ref src), .val (.ref na), .val (.int (0 : Int32))] [(.ref y0), (.int (0 : Int32)), (.ref na)])
  obtain ⟨v10, T10, L10, X10, Q10, st10⟩ := own_callS X1 hx hZ hown (y := own_y55) (hw 305 rfl) (hw 147 rfl) (hw 148 rfl) (hw 149 rfl) (by decide) (rmReq l Z a0 hw [] h1 n0 y0) (W := 2) (g := (mkF m 19 #[.val (.ref src), .val (.ref na), .val (.int (0 : Int32))] [(.ref y0), (.int (0 : Int32)), (.ref na)])) rfl (by rw [hml]; rfl) (argsL := [(.ref y0)]) (rest := [(.int (0 : Int32)), (.ref na)]) (lenOf pd__Ljava_lang_Object__Ljava_lang_Object_ rfl) rfl rfl (Nat.le_of_eq rfl) (hb hby d37_19) e1 (by decide) (by decide) (by decide) (by decide)
  obtain ⟨rfl, N10q, e10⟩ := Q10
  have N10 := Fr.app N0 N10q
  refine own_go st10 ?_
  show own_R _ _ _ _ T10 (mkF m 22 #[.val (.ref src), .val (.ref na), .val (.int (0 : Int32))] [(.ref y0), (.int (0 : Int32)), (.ref na)])
  obtain ⟨cl11, Ar11, qa11, qb11, qc11, qd11, qe11⟩ := Av1
  obtain ⟨T11, h11, X11, e11, W11, st11⟩ := stR X10 hx hZ e10 Ar11 (j := (0 : Int32)) (by rw [qb11]; decide) rfl (Sto.ofV Ar11 qa11 V1 (Ins.of_exa (Ey0.keep K1) (hw 268 rfl))) (g := (mkF m 22 #[.val (.ref src), .val (.ref na), .val (.int (0 : Int32))] [(.ref y0), (.int (0 : Int32)), (.ref na)])) rfl rfl (hb hby d37_22)
  refine own_go st11 ?_
  show own_R _ _ _ _ T11 (mkF m 23 #[.val (.ref src), .val (.ref na), .val (.int (0 : Int32))] [])
  have Av11 : Arv Z h11 na k1 (.object "java/lang/Object") (Int32.ofNat 3) [.ref y0] .null := own_appz (vs := []) ⟨cl11, Ar11, qa11, qb11, qc11, qd11, qe11⟩ rfl rfl W11
  have K11 := K1.wr W11 (Or.inr gN)
  have As11 := As1.other W11 nsa
  have N11 := Fr.snoc X11 N10 gn0
  refine own_go (fun _ => XS.iinc X11.here hx rfl (hb hby d37_23) rfl (l' := #[.val (.ref src), .val (.ref na), .val (.int ((0 : Int32) + (1 : Int32)))]) rfl) ?_
  show own_R _ _ _ _ T11 (mkF m 26 #[.val (.ref src), .val (.ref na), .val (.int ((0 : Int32) + (1 : Int32)))] [])
  refine own_go (fun _ => XS.goto X11.here hx rfl (pc0 := 26) (pc' := 8) rfl (hb hby d37_26) (by decide) (by decide)) ?_
  show own_R _ _ _ _ T11 (mkF m 8 #[.val (.ref src), .val (.ref na), .val (.int ((0 : Int32) + (1 : Int32)))] [])
  rw [show ((0 : Int32) + (1 : Int32)) = (1 : Int32) from by decide]
  show own_R _ _ _ _ T11 (mkF m 8 #[.val (.ref src), .val (.ref na), .val (.int (1 : Int32))] [])
  refine own_go (fun _ => XS.iloadN X11.here hx rfl (hb hby d37_8) rfl ) ?_
  refine own_go (fun _ => XS.aloadN X11.here hx rfl (hb hby d37_9) rfl rfl) ?_
  show own_R _ _ _ _ T11 (mkF m 10 #[.val (.ref src), .val (.ref na), .val (.int (1 : Int32))] [(.ref src), (.int (1 : Int32))])
  refine own_go (own_len X11 hx hZ e11 As11 (g := (mkF m 10 #[.val (.ref src), .val (.ref na), .val (.int (1 : Int32))] [(.ref src), (.int (1 : Int32))])) rfl rfl (hb hby d37_10)) ?_
  show own_R _ _ _ _ T11 (mkF m 11 #[.val (.ref src), .val (.ref na), .val (.int (1 : Int32))] [(.int (Int32.ofNat 3)), (.int (1 : Int32))])
  refine own_go (fun _ => XS.icmpNo X11.here hx rfl (hb hby d37_11) rfl (tlt (by decide : ((1 : Int32) : Int32) < (Int32.ofNat 3))).2.1) ?_
  show own_R _ _ _ _ T11 (mkF m 14 #[.val (.ref src), .val (.ref na), .val (.int (1 : Int32))] [])
  refine own_go (fun _ => XS.aloadN X11.here hx rfl (hb hby d37_14) rfl rfl) ?_
  refine own_go (fun _ => XS.iloadN X11.here hx rfl (hb hby d37_15) rfl ) ?_
  refine own_go (fun _ => XS.aloadN X11.here hx rfl (hb hby d37_16) rfl rfl) ?_
  refine own_go (fun _ => XS.iloadN X11.here hx rfl (hb hby d37_17) rfl ) ?_
  show own_R _ _ _ _ T11 (mkF m 18 #[.val (.ref src), .val (.ref na), .val (.int (1 : Int32))] [(.int (1 : Int32)), (.ref src), (.int (1 : Int32)), (.ref na)])
  refine own_go (own_ldR X11 hx hZ e11 As11 rfl ⟨by decide, by decide⟩ (v := (.ref y1)) rfl (g := (mkF m 18 #[.val (.ref src), .val (.ref na), .val (.int (1 : Int32))] [(.int (1 : Int32)), (.ref src), (.int (1 : Int32)), (.ref na)])) rfl rfl (hb hby d37_18)) ?_
  show own_R _ _ _ _ T11 (mkF m 19 #[.val (.ref src), .val (.ref na), .val (.int (1 : Int32))] [(.ref y1), (.int (1 : Int32)), (.ref na)])
  obtain ⟨v12, T12, L12, X12, Q12, st12⟩ := own_callS X11 hx hZ hown (y := own_y55) (hw 305 rfl) (hw 147 rfl) (hw 148 rfl) (hw 149 rfl) (by decide) (rmReq l Z a0 hw [] h11 n0 y1) (W := 2) (g := (mkF m 19 #[.val (.ref src), .val (.ref na), .val (.int (1 : Int32))] [(.ref y1), (.int (1 : Int32)), (.ref na)])) rfl (by rw [hml]; rfl) (argsL := [(.ref y1)]) (rest := [(.int (1 : Int32)), (.ref na)]) (lenOf pd__Ljava_lang_Object__Ljava_lang_Object_ rfl) rfl rfl (Nat.le_of_eq rfl) (hb hby d37_19) e11 (by decide) (by decide) (by decide) (by decide)
  obtain ⟨rfl, N12q, e12⟩ := Q12
  have N12 := Fr.app N11 N12q
  refine own_go st12 ?_
  show own_R _ _ _ _ T12 (mkF m 22 #[.val (.ref src), .val (.ref na), .val (.int (1 : Int32))] [(.ref y1), (.int (1 : Int32)), (.ref na)])
  obtain ⟨cl13, Ar13, qa13, qb13, qc13, qd13, qe13⟩ := Av11
  obtain ⟨T13, h13, X13, e13, W13, st13⟩ := stR X12 hx hZ e12 Ar13 (j := (1 : Int32)) (by rw [qb13]; decide) rfl (Sto.ofV Ar13 qa13 V1 (Ins.of_exa (Ey1.keep K11) (hw 268 rfl))) (g := (mkF m 22 #[.val (.ref src), .val (.ref na), .val (.int (1 : Int32))] [(.ref y1), (.int (1 : Int32)), (.ref na)])) rfl rfl (hb hby d37_22)
  refine own_go st13 ?_
  show own_R _ _ _ _ T13 (mkF m 23 #[.val (.ref src), .val (.ref na), .val (.int (1 : Int32))] [])
  have Av13 : Arv Z h13 na k1 (.object "java/lang/Object") (Int32.ofNat 3) [.ref y0, .ref y1] .null := own_appz (vs := [.ref y0]) ⟨cl13, Ar13, qa13, qb13, qc13, qd13, qe13⟩ rfl rfl W13
  have K13 := K11.wr W13 (Or.inr gN)
  have As13 := As11.other W13 nsa
  have N13 := Fr.snoc X13 N12 gn0
  refine own_go (fun _ => XS.iinc X13.here hx rfl (hb hby d37_23) rfl (l' := #[.val (.ref src), .val (.ref na), .val (.int ((1 : Int32) + (1 : Int32)))]) rfl) ?_
  show own_R _ _ _ _ T13 (mkF m 26 #[.val (.ref src), .val (.ref na), .val (.int ((1 : Int32) + (1 : Int32)))] [])
  refine own_go (fun _ => XS.goto X13.here hx rfl (pc0 := 26) (pc' := 8) rfl (hb hby d37_26) (by decide) (by decide)) ?_
  show own_R _ _ _ _ T13 (mkF m 8 #[.val (.ref src), .val (.ref na), .val (.int ((1 : Int32) + (1 : Int32)))] [])
  rw [show ((1 : Int32) + (1 : Int32)) = (2 : Int32) from by decide]
  show own_R _ _ _ _ T13 (mkF m 8 #[.val (.ref src), .val (.ref na), .val (.int (2 : Int32))] [])
  refine own_go (fun _ => XS.iloadN X13.here hx rfl (hb hby d37_8) rfl ) ?_
  refine own_go (fun _ => XS.aloadN X13.here hx rfl (hb hby d37_9) rfl rfl) ?_
  show own_R _ _ _ _ T13 (mkF m 10 #[.val (.ref src), .val (.ref na), .val (.int (2 : Int32))] [(.ref src), (.int (2 : Int32))])
  refine own_go (own_len X13 hx hZ e13 As13 (g := (mkF m 10 #[.val (.ref src), .val (.ref na), .val (.int (2 : Int32))] [(.ref src), (.int (2 : Int32))])) rfl rfl (hb hby d37_10)) ?_
  show own_R _ _ _ _ T13 (mkF m 11 #[.val (.ref src), .val (.ref na), .val (.int (2 : Int32))] [(.int (Int32.ofNat 3)), (.int (2 : Int32))])
  refine own_go (fun _ => XS.icmpNo X13.here hx rfl (hb hby d37_11) rfl (tlt (by decide : ((2 : Int32) : Int32) < (Int32.ofNat 3))).2.1) ?_
  show own_R _ _ _ _ T13 (mkF m 14 #[.val (.ref src), .val (.ref na), .val (.int (2 : Int32))] [])
  refine own_go (fun _ => XS.aloadN X13.here hx rfl (hb hby d37_14) rfl rfl) ?_
  refine own_go (fun _ => XS.iloadN X13.here hx rfl (hb hby d37_15) rfl ) ?_
  refine own_go (fun _ => XS.aloadN X13.here hx rfl (hb hby d37_16) rfl rfl) ?_
  refine own_go (fun _ => XS.iloadN X13.here hx rfl (hb hby d37_17) rfl ) ?_
  show own_R _ _ _ _ T13 (mkF m 18 #[.val (.ref src), .val (.ref na), .val (.int (2 : Int32))] [(.int (2 : Int32)), (.ref src), (.int (2 : Int32)), (.ref na)])
  refine own_go (own_ldR X13 hx hZ e13 As13 rfl ⟨by decide, by decide⟩ (v := (.ref y2)) rfl (g := (mkF m 18 #[.val (.ref src), .val (.ref na), .val (.int (2 : Int32))] [(.int (2 : Int32)), (.ref src), (.int (2 : Int32)), (.ref na)])) rfl rfl (hb hby d37_18)) ?_
  show own_R _ _ _ _ T13 (mkF m 19 #[.val (.ref src), .val (.ref na), .val (.int (2 : Int32))] [(.ref y2), (.int (2 : Int32)), (.ref na)])
  obtain ⟨v14, T14, L14, X14, Q14, st14⟩ := own_callS X13 hx hZ hown (y := own_y55) (hw 305 rfl) (hw 147 rfl) (hw 148 rfl) (hw 149 rfl) (by decide) (rmReq l Z a0 hw [] h13 n0 y2) (W := 2) (g := (mkF m 19 #[.val (.ref src), .val (.ref na), .val (.int (2 : Int32))] [(.ref y2), (.int (2 : Int32)), (.ref na)])) rfl (by rw [hml]; rfl) (argsL := [(.ref y2)]) (rest := [(.int (2 : Int32)), (.ref na)]) (lenOf pd__Ljava_lang_Object__Ljava_lang_Object_ rfl) rfl rfl (Nat.le_of_eq rfl) (hb hby d37_19) e13 (by decide) (by decide) (by decide) (by decide)
  obtain ⟨rfl, N14q, e14⟩ := Q14
  have N14 := Fr.app N13 N14q
  refine own_go st14 ?_
  show own_R _ _ _ _ T14 (mkF m 22 #[.val (.ref src), .val (.ref na), .val (.int (2 : Int32))] [(.ref y2), (.int (2 : Int32)), (.ref na)])
  obtain ⟨cl15, Ar15, qa15, qb15, qc15, qd15, qe15⟩ := Av13
  obtain ⟨T15, h15, X15, e15, W15, st15⟩ := stR X14 hx hZ e14 Ar15 (j := (2 : Int32)) (by rw [qb15]; decide) rfl (Sto.ofV Ar15 qa15 V1 (Ins.of_exa (Ey2.keep K13) (hw 268 rfl))) (g := (mkF m 22 #[.val (.ref src), .val (.ref na), .val (.int (2 : Int32))] [(.ref y2), (.int (2 : Int32)), (.ref na)])) rfl rfl (hb hby d37_22)
  refine own_go st15 ?_
  show own_R _ _ _ _ T15 (mkF m 23 #[.val (.ref src), .val (.ref na), .val (.int (2 : Int32))] [])
  have Av15 : Arv Z h15 na k1 (.object "java/lang/Object") (Int32.ofNat 3) [.ref y0, .ref y1, .ref y2] .null := own_appz (vs := [.ref y0, .ref y1]) ⟨cl15, Ar15, qa15, qb15, qc15, qd15, qe15⟩ rfl rfl W15
  have K15 := K13.wr W15 (Or.inr gN)
  have As15 := As13.other W15 nsa
  have N15 := Fr.snoc X15 N14 gn0
  refine own_go (fun _ => XS.iinc X15.here hx rfl (hb hby d37_23) rfl (l' := #[.val (.ref src), .val (.ref na), .val (.int ((2 : Int32) + (1 : Int32)))]) rfl) ?_
  show own_R _ _ _ _ T15 (mkF m 26 #[.val (.ref src), .val (.ref na), .val (.int ((2 : Int32) + (1 : Int32)))] [])
  refine own_go (fun _ => XS.goto X15.here hx rfl (pc0 := 26) (pc' := 8) rfl (hb hby d37_26) (by decide) (by decide)) ?_
  show own_R _ _ _ _ T15 (mkF m 8 #[.val (.ref src), .val (.ref na), .val (.int ((2 : Int32) + (1 : Int32)))] [])
  rw [show ((2 : Int32) + (1 : Int32)) = (3 : Int32) from by decide]
  show own_R _ _ _ _ T15 (mkF m 8 #[.val (.ref src), .val (.ref na), .val (.int (3 : Int32))] [])
  refine own_go (fun _ => XS.iloadN X15.here hx rfl (hb hby d37_8) rfl ) ?_
  refine own_go (fun _ => XS.aloadN X15.here hx rfl (hb hby d37_9) rfl rfl) ?_
  show own_R _ _ _ _ T15 (mkF m 10 #[.val (.ref src), .val (.ref na), .val (.int (3 : Int32))] [(.ref src), (.int (3 : Int32))])
  refine own_go (own_len X15 hx hZ e15 As15 (g := (mkF m 10 #[.val (.ref src), .val (.ref na), .val (.int (3 : Int32))] [(.ref src), (.int (3 : Int32))])) rfl rfl (hb hby d37_10)) ?_
  show own_R _ _ _ _ T15 (mkF m 11 #[.val (.ref src), .val (.ref na), .val (.int (3 : Int32))] [(.int (Int32.ofNat 3)), (.int (3 : Int32))])
  refine own_go (fun _ => XS.icmpYes X15.here hx rfl (pc0 := 11) (pc' := 29) rfl (hb hby d37_11) rfl (flt (by decide : ¬ ((3 : Int32) < (Int32.ofNat 3)))).2.1 (by decide) (by decide)) ?_
  show own_R _ _ _ _ T15 (mkF m 29 #[.val (.ref src), .val (.ref na), .val (.int (3 : Int32))] [])
  obtain ⟨T20, h20, X20, e20, E20, A20, D20, -, st20⟩ := newO X15 hx hZ hown (hw 58 rfl) (hw 306 rfl) (hw 118 rfl) e15 (g := (mkF m 29 #[.val (.ref src), .val (.ref na), .val (.int (3 : Int32))] [])) rfl (hb hby d37_29) (by decide) (by decide)
  obtain ⟨a20, g20⟩ : ∃ z, z = h15.size := ⟨_, rfl⟩
  rw [← g20] at A20 D20 st20
  refine own_go st20 ?_
  show own_R _ _ _ _ T20 (mkF m 32 #[.val (.ref src), .val (.ref na), .val (.int (3 : Int32))] [(.ref a20)])
  refine own_go (fun _ => XS.dup X20.here hx rfl (hb hby d37_32) rfl rfl) ?_
  refine own_go (fun _ => XS.aloadN X20.here hx rfl (hb hby d37_33) rfl rfl) ?_
  refine own_go (fun _ => XS.iconst X20.here hx rfl (hb hby d37_34)) ?_
  show own_R _ _ _ _ T20 (mkF m 35 #[.val (.ref src), .val (.ref na), .val (.int (3 : Int32))] [(.int (0 : Int32)), (.ref na), (.ref a20), (.ref a20)])
  have g20n : n0 ≤ a20 := Nat.le_trans (Od.1 ▸ Od.2.1) (Nat.le_trans K15.1 (Nat.le_of_eq g20.symm))
  obtain ⟨v21, T21, L21, X21, Q21, st21⟩ := own_backIN X20 hx hZ hown (y := own_y43) rfl (hw 307 rfl) (hw 308 rfl) (hw 309 rfl) (by decide) (backOf (W := 1) (rmNI l Z a0 hw [] h20 n0 a20 na g20n A20 (D20 (Or.inr (hw 121 rfl)) (ty := (.array (.object "java/lang/Object"))) (by decide)) (D20 (Or.inr (hw 76 rfl)) (ty := .boolean) (by decide))) hZ (hw 309 rfl) (hw 118 rfl) (by decide) (by decide)) (g := (mkF m 35 #[.val (.ref src), .val (.ref na), .val (.int (3 : Int32))] [(.int (0 : Int32)), (.ref na), (.ref a20), (.ref a20)])) rfl (by rw [hml]; rfl) (a := a20) (argsL := [(.ref na), (.int (0 : Int32))]) (rest := [(.ref a20)]) (lenOf pd___Ljava_lang_Object_Z_V rfl) rfl rfl (Nat.le_of_eq rfl) (hb hby d37_35) e20 (by decide) (by decide)
  have ge20 : h0.size ≤ a20 := Nat.le_trans K15.1 (Nat.le_of_eq g20.symm)
  have ne20 : na ≠ a20 := fun q => Nat.lt_irrefl _ (Nat.lt_of_lt_of_le Av15.lt (q ▸ Nat.le_of_eq g20.symm))
  obtain ⟨rfl, N21q, K21, E21, F21⟩ := Q21
  have N21 := Fr.app N15 N21q
  refine own_go st21 ?_
  show own_R _ _ _ _ T21 (mkF m 38 #[.val (.ref src), .val (.ref na), .val (.int (3 : Int32))] [(.ref a20)])
  exact own_end X21 (some (.ref a20)) (fun h => by rw [hret] at h; cases h) hlk (fun fs hr => own_retA X21 hx hret rfl rfl (hb hby d37_38) hr) ⟨a20, na, k1, rfl, N21, (K15.ext E20).trans K21 (fun x hx => Or.inr (by cases List.mem_singleton.mp hx; exact ge20)), ge20, gN, E21, F21, (Av15.ext E20).keep K21 (own_ni ne20)⟩ (by decide) (by decide)
set_option maxRecDepth 65536 in
set_option maxHeartbeats 8000000 in
theorem rmLA1 (l : Launch) (Z : State) (a0 : Array Value) (hw : own_T a0 Z) (ws : List Jvm.Cond) (h0 : Heap) (n0 : Nat) (de : Addr) (kd : ClassId) (el ea : Addr) (ka : ClassId) (em mr : Addr) (G : own_G Z de kd el ea ka em mr) (Od : Old Z n0 h0) (y0 : Addr) (Ey0 : Exa Z h0 y0 "com/example/zellwerk/zellwerk/model/Area") (src : Addr) (k : ClassId) (A : Arv Z h0 src k (.object "java/lang/Object") (Int32.ofNat 1) [.ref y0] .null)  :
    own_C l Z own_y53 jdk_40_method_47_code 2 (some (.object "java/util/List")) ws ({ frames := 6, cells := 1, slots := 2, locals := 100 } : Room) #[(.ref src)] h0 (own_Qi Z y0 em h0 n0) := by
  refine own_body (ls := #[.val (.ref src), .unset]) pn_36 (fun m => by first | (simp [entryFrame, mkF, argsToLocals, Value.category]; done) | rfl) ?_
  intro p e s m below meth c T0 hZ hx hby hml hown hnm hret hlk X0 e0
  replace hml : c.maxLocals = 2 := hml
  have N0 := Fr.nil n0
  refine own_go (fun _ => XS.aloadN X0.here hx rfl (hb hby d36_0) rfl rfl) ?_
  show own_R _ _ _ _ T0 (mkF m 1 #[.val (.ref src), .unset] [(.ref src)])
  refine own_go (own_len X0 hx hZ e0 A (g := (mkF m 1 #[.val (.ref src), .unset] [(.ref src)])) rfl rfl (hb hby d36_1)) ?_
  show own_R _ _ _ _ T0 (mkF m 2 #[.val (.ref src), .unset] [(.int (Int32.ofNat 1))])
  refine own_go (fun _ => XS.tswIn (g := (mkF m 2 #[.val (.ref src), .unset] [(.int (Int32.ofNat 1))])) (X0.here) hx rfl (pc0 := 2) (pc' := 34) rfl (hb hby d36_2) (i := Int32.ofNat 1) (rest := []) rfl (by decide) (o := 32) (by decide) (by decide) (by decide)) ?_
  show own_R _ _ _ _ T0 (mkF m 34 #[.val (.ref src), .unset] [])
  obtain ⟨T1, h1, X1, e1, E1, A1, D1, -, st1⟩ := newO X0 hx hZ hown (hw 349 rfl) (hw 350 rfl) (hw 351 rfl) e0 (g := (mkF m 34 #[.val (.ref src), .unset] [])) rfl (hb hby d36_34) (by decide) (by decide)
  obtain ⟨a1, g1⟩ : ∃ z, z = h0.size := ⟨_, rfl⟩
  rw [← g1] at A1 D1 st1
  refine own_go st1 ?_
  show own_R _ _ _ _ T1 (mkF m 37 #[.val (.ref src), .unset] [(.ref a1)])
  have g1n : n0 ≤ a1 := Nat.le_trans (Od.1 ▸ Od.2.1) (Nat.le_of_eq g1.symm)
  have K1 := (Keep.refl h0 []).ext E1
  refine own_go (fun _ => XS.dup X1.here hx rfl (hb hby d36_37) rfl rfl) ?_
  show own_R _ _ _ _ T1 (mkF m 38 #[.val (.ref src), .unset] [(.ref a1), (.ref a1)])
  refine own_go (fun _ => XS.aloadN X1.here hx rfl (hb hby d36_38) rfl rfl) ?_
  show own_R _ _ _ _ T1 (mkF m 39 #[.val (.ref src), .unset] [(.ref src), (.ref a1), (.ref a1)])
  refine own_go (fun _ => XS.iconst X1.here hx rfl (hb hby d36_39)) ?_
  show own_R _ _ _ _ T1 (mkF m 40 #[.val (.ref src), .unset] [(.int (0 : Int32)), (.ref src), (.ref a1), (.ref a1)])
  refine own_go (own_ldR X1 hx hZ e1 (A.ext E1) rfl ⟨by decide, by decide⟩ (v := (.ref y0)) rfl (g := (mkF m 40 #[.val (.ref src), .unset] [(.int (0 : Int32)), (.ref src), (.ref a1), (.ref a1)])) rfl rfl (hb hby d36_40)) ?_
  show own_R _ _ _ _ T1 (mkF m 41 #[.val (.ref src), .unset] [(.ref y0), (.ref a1), (.ref a1)])
  obtain ⟨v2, T2, L2, X2, Q2, st2⟩ := own_callI X1 hx hZ hown (y := own_y36) rfl (hw 382 rfl) (hw 383 rfl) (hw 384 rfl) (hw 351 rfl) (by decide) (rm12a l Z a0 hw [] h1 n0 de kd el ea ka em mr G (Od.ext E1) a1 y0 g1n A1 (D1 (Or.inr (hw 362 rfl)) (ty := (.object "java/lang/Object")) (by decide)) (D1 (Or.inr (hw 364 rfl)) (ty := (.object "java/lang/Object")) (by decide))) (W := 1) (g := (mkF m 41 #[.val (.ref src), .unset] [(.ref y0), (.ref a1), (.ref a1)])) rfl (by rw [hml]; rfl) (a := a1) (argsL := [(.ref y0)]) (rest := [(.ref a1)]) (lenOf pd__Ljava_lang_Object__V rfl) rfl rfl (Nat.le_of_eq rfl) (hb hby d36_41) e1 (by decide) (by decide) (by decide) (by decide)
  obtain ⟨rfl, N2q, K2, q2⟩ := Q2
  have N2 := Fr.app N0 N2q
  refine own_go st2 ?_
  show own_R _ _ _ _ T2 (mkF m 44 #[.val (.ref src), .unset] [(.ref a1)])
  exact own_end X2 (some (.ref a1)) (fun h => by rw [hret] at h; cases h) hlk (fun fs hr => own_retA X2 hx hret rfl rfl (hb hby d36_44) hr) ⟨a1, rfl, N2, K1.trans K2 (fun x hx => Or.inr (by cases List.mem_singleton.mp hx; exact Nat.le_of_eq g1.symm)), Nat.le_of_eq g1.symm, q2⟩ (by decide) (by decide)
set_option maxRecDepth 65536 in
set_option maxHeartbeats 8000000 in
theorem rmLA2 (l : Launch) (Z : State) (a0 : Array Value) (hw : own_T a0 Z) (ws : List Jvm.Cond) (h0 : Heap) (n0 : Nat) (de : Addr) (kd : ClassId) (el ea : Addr) (ka : ClassId) (em mr : Addr) (G : own_G Z de kd el ea ka em mr) (Od : Old Z n0 h0) (y0 y1 : Addr) (Ey0 : Exa Z h0 y0 "com/example/zellwerk/zellwerk/model/Area") (Ey1 : Exa Z h0 y1 "com/example/zellwerk/zellwerk/model/Area") (src : Addr) (k : ClassId) (A : Arv Z h0 src k (.object "java/lang/Object") (Int32.ofNat 2) [.ref y0, .ref y1] .null)  :
    own_C l Z own_y53 jdk_40_method_47_code 2 (some (.object "java/util/List")) ws ({ frames := 6, cells := 1, slots := 2, locals := 100 } : Room) #[(.ref src)] h0 (own_Qi Z y0 y1 h0 n0) := by
  refine own_body (ls := #[.val (.ref src), .unset]) pn_36 (fun m => by first | (simp [entryFrame, mkF, argsToLocals, Value.category]; done) | rfl) ?_
  intro p e s m below meth c T0 hZ hx hby hml hown hnm hret hlk X0 e0
  replace hml : c.maxLocals = 2 := hml
  have N0 := Fr.nil n0
  refine own_go (fun _ => XS.aloadN X0.here hx rfl (hb hby d36_0) rfl rfl) ?_
  show own_R _ _ _ _ T0 (mkF m 1 #[.val (.ref src), .unset] [(.ref src)])
  refine own_go (own_len X0 hx hZ e0 A (g := (mkF m 1 #[.val (.ref src), .unset] [(.ref src)])) rfl rfl (hb hby d36_1)) ?_
  show own_R _ _ _ _ T0 (mkF m 2 #[.val (.ref src), .unset] [(.int (Int32.ofNat 2))])
  refine own_go (fun _ => XS.tswIn (g := (mkF m 2 #[.val (.ref src), .unset] [(.int (Int32.ofNat 2))])) (X0.here) hx rfl (pc0 := 2) (pc' := 45) rfl (hb hby d36_2) (i := Int32.ofNat 2) (rest := []) rfl (by decide) (o := 43) (by decide) (by decide) (by decide)) ?_
  show own_R _ _ _ _ T0 (mkF m 45 #[.val (.ref src), .unset] [])
  obtain ⟨T1, h1, X1, e1, E1, A1, D1, -, st1⟩ := newO X0 hx hZ hown (hw 349 rfl) (hw 350 rfl) (hw 351 rfl) e0 (g := (mkF m 45 #[.val (.ref src), .unset] [])) rfl (hb hby d36_45) (by decide) (by decide)
  obtain ⟨a1, g1⟩ : ∃ z, z = h0.size := ⟨_, rfl⟩
  rw [← g1] at A1 D1 st1
  refine own_go st1 ?_
  show own_R _ _ _ _ T1 (mkF m 48 #[.val (.ref src), .unset] [(.ref a1)])
  have g1n : n0 ≤ a1 := Nat.le_trans (Od.1 ▸ Od.2.1) (Nat.le_of_eq g1.symm)
  have K1 := (Keep.refl h0 []).ext E1
  refine own_go (fun _ => XS.dup X1.here hx rfl (hb hby d36_48) rfl rfl) ?_
  show own_R _ _ _ _ T1 (mkF m 49 #[.val (.ref src), .unset] [(.ref a1), (.ref a1)])
  refine own_go (fun _ => XS.aloadN X1.here hx rfl (hb hby d36_49) rfl rfl) ?_
  show own_R _ _ _ _ T1 (mkF m 50 #[.val (.ref src), .unset] [(.ref src), (.ref a1), (.ref a1)])
  refine own_go (fun _ => XS.iconst X1.here hx rfl (hb hby d36_50)) ?_
  show own_R _ _ _ _ T1 (mkF m 51 #[.val (.ref src), .unset] [(.int (0 : Int32)), (.ref src), (.ref a1), (.ref a1)])
  refine own_go (own_ldR X1 hx hZ e1 (A.ext E1) rfl ⟨by decide, by decide⟩ (v := (.ref y0)) rfl (g := (mkF m 51 #[.val (.ref src), .unset] [(.int (0 : Int32)), (.ref src), (.ref a1), (.ref a1)])) rfl rfl (hb hby d36_51)) ?_
  show own_R _ _ _ _ T1 (mkF m 52 #[.val (.ref src), .unset] [(.ref y0), (.ref a1), (.ref a1)])
  refine own_go (fun _ => XS.aloadN X1.here hx rfl (hb hby d36_52) rfl rfl) ?_
  show own_R _ _ _ _ T1 (mkF m 53 #[.val (.ref src), .unset] [(.ref src), (.ref y0), (.ref a1), (.ref a1)])
  refine own_go (fun _ => XS.iconst X1.here hx rfl (hb hby d36_53)) ?_
  show own_R _ _ _ _ T1 (mkF m 54 #[.val (.ref src), .unset] [(.int (1 : Int32)), (.ref src), (.ref y0), (.ref a1), (.ref a1)])
  refine own_go (own_ldR X1 hx hZ e1 (A.ext E1) rfl ⟨by decide, by decide⟩ (v := (.ref y1)) rfl (g := (mkF m 54 #[.val (.ref src), .unset] [(.int (1 : Int32)), (.ref src), (.ref y0), (.ref a1), (.ref a1)])) rfl rfl (hb hby d36_54)) ?_
  show own_R _ _ _ _ T1 (mkF m 55 #[.val (.ref src), .unset] [(.ref y1), (.ref y0), (.ref a1), (.ref a1)])
  obtain ⟨v2, T2, L2, X2, Q2, st2⟩ := own_callI X1 hx hZ hown (y := own_y37) rfl (hw 352 rfl) (hw 353 rfl) (hw 355 rfl) (hw 351 rfl) (by decide) (rm12b l Z a0 hw [] h1 n0 a1 y0 y1 g1n A1 (D1 (Or.inr (hw 362 rfl)) (ty := (.object "java/lang/Object")) (by decide)) (D1 (Or.inr (hw 364 rfl)) (ty := (.object "java/lang/Object")) (by decide))) (W := 1) (g := (mkF m 55 #[.val (.ref src), .unset] [(.ref y1), (.ref y0), (.ref a1), (.ref a1)])) rfl (by rw [hml]; rfl) (a := a1) (argsL := [(.ref y0), (.ref y1)]) (rest := [(.ref a1)]) (lenOf pd__Ljava_lang_Object_Ljava_lang_Object__V rfl) rfl rfl (Nat.le_of_eq rfl) (hb hby d36_55) e1 (by decide) (by decide) (by decide) (by decide)
  obtain ⟨rfl, N2q, K2, q2⟩ := Q2
  have N2 := Fr.app N0 N2q
  refine own_go st2 ?_
  show own_R _ _ _ _ T2 (mkF m 58 #[.val (.ref src), .unset] [(.ref a1)])
  exact own_end X2 (some (.ref a1)) (fun h => by rw [hret] at h; cases h) hlk (fun fs hr => own_retA X2 hx hret rfl rfl (hb hby d36_58) hr) ⟨a1, rfl, N2, K1.trans K2 (fun x hx => Or.inr (by cases List.mem_singleton.mp hx; exact Nat.le_of_eq g1.symm)), Nat.le_of_eq g1.symm, q2⟩ (by decide) (by decide)
set_option maxRecDepth 65536 in
set_option maxHeartbeats 8000000 in
theorem rmLA3 (l : Launch) (Z : State) (a0 : Array Value) (hw : own_T a0 Z) (ws : List Jvm.Cond) (h0 : Heap) (n0 : Nat) (de : Addr) (kd : ClassId) (el ea : Addr) (ka : ClassId) (em mr : Addr) (G : own_G Z de kd el ea ka em mr) (Od : Old Z n0 h0) (y0 y1 y2 : Addr) (Ey0 : Exa Z h0 y0 "com/example/zellwerk/zellwerk/model/Area") (Ey1 : Exa Z h0 y1 "com/example/zellwerk/zellwerk/model/Area") (Ey2 : Exa Z h0 y2 "com/example/zellwerk/zellwerk/model/Area") (src : Addr) (k : ClassId) (A : Arv Z h0 src k (.object "java/lang/Object") (Int32.ofNat 3) [.ref y0, .ref y1, .ref y2] .null)  :
    own_C l Z own_y53 jdk_40_method_47_code 2 (some (.object "java/util/List")) ws ({ frames := 6, cells := 2, slots := 5, locals := 100 } : Room) #[(.ref src)] h0 (own_Qj Z y0 y1 y2 h0 n0) := by
  refine own_body (ls := #[.val (.ref src), .unset]) pn_36 (fun m => by first | (simp [entryFrame, mkF, argsToLocals, Value.category]; done) | rfl) ?_
  intro p e s m below meth c T0 hZ hx hby hml hown hnm hret hlk X0 e0
  replace hml : c.maxLocals = 2 := hml
  have N0 := Fr.nil n0
  refine own_go (fun _ => XS.aloadN X0.here hx rfl (hb hby d36_0) rfl rfl) ?_
  show own_R _ _ _ _ T0 (mkF m 1 #[.val (.ref src), .unset] [(.ref src)])
  refine own_go (own_len X0 hx hZ e0 A (g := (mkF m 1 #[.val (.ref src), .unset] [(.ref src)])) rfl rfl (hb hby d36_1)) ?_
  show own_R _ _ _ _ T0 (mkF m 2 #[.val (.ref src), .unset] [(.int (Int32.ofNat 3))])
  refine own_go (fun _ => XS.tswOut (g := (mkF m 2 #[.val (.ref src), .unset] [(.int (Int32.ofNat 3))])) (X0.here) hx rfl (pc0 := 2) (pc' := 59) rfl (hb hby d36_2) (i := Int32.ofNat 3) (rest := []) rfl (by decide) (by decide) (by decide)) ?_
  show own_R _ _ _ _ T0 (mkF m 59 #[.val (.ref src), .unset] [])
  refine own_go (fun _ => XS.aloadN X0.here hx rfl (hb hby d36_59) rfl rfl) ?_
  show own_R _ _ _ _ T0 (mkF m 60 #[.val (.ref src), .unset] [(.ref src)])
  obtain ⟨v1, T1, L1, X1, Q1, st1⟩ := own_callS X0 hx hZ hown (y := own_y31) (hw 301 rfl) (hw 302 rfl) (hw 37 rfl) (hw 303 rfl) (by decide) (rmLF l Z a0 hw [] h0 n0 de kd el ea ka em mr G Od y0 y1 y2 Ey0 Ey1 Ey2 src k A) (W := 0) (g := (mkF m 60 #[.val (.ref src), .unset] [(.ref src)])) rfl (by rw [hml]; rfl) (argsL := [(.ref src)]) (rest := []) (lenOf pd___Ljava_lang_Object__Ljava_util_List_ rfl) rfl rfl (Nat.le_of_eq rfl) (hb hby d36_60) e0 (by decide) (by decide) (by decide) (by decide)
  obtain ⟨x, xa, k2, rfl, N1q, q1⟩ := Q1
  have N1 := Fr.app N0 N1q
  refine own_go st1 ?_
  show own_R _ _ _ _ T1 (mkF m 63 #[.val (.ref src), .unset] [(.ref x)])
  exact own_end X1 (some (.ref x)) (fun h => by rw [hret] at h; cases h) hlk (fun fs hr => own_retA X1 hx hret rfl rfl (hb hby d36_63) hr) ⟨x, xa, k2, rfl, N1, q1⟩ (by decide) (by decide)
set_option maxRecDepth 65536 in
set_option maxHeartbeats 8000000 in
theorem rmLCE (l : Launch) (Z : State) (a0 : Array Value) (hw : own_T a0 Z) (ws : List Jvm.Cond) (h0 : Heap) (n0 : Nat) (de : Addr) (kd : ClassId) (el ea : Addr) (ka : ClassId) (em mr : Addr) (G : own_G Z de kd el ea ka em mr) (Od : Old Z n0 h0) (a : Addr) (E : Exa Z h0 a "java/util/ArrayList") (Fs : Fld Z h0 a "java/util/ArrayList" "size" "I" (.int (Int32.ofNat 0))) :
    own_C l Z own_y30 jdk_56_method_3_code 2 (some (.object "java/util/List")) ws ({ frames := 7, cells := 0, slots := 0, locals := 160 } : Room) #[(.ref a)] h0 (own_Qr (some (.ref el)) h0 n0) := by
  refine own_body (ls := #[.val (.ref a), .unset]) pn_10 (fun m => by first | (simp [entryFrame, mkF, argsToLocals, Value.category]; done) | rfl) ?_
  intro p e s m below meth c T0 hZ hx hby hml hown hnm hret hlk X0 e0
  replace hml : c.maxLocals = 2 := hml
  have N0 := Fr.nil n0
  refine own_go (fun _ => XS.aloadN X0.here hx rfl (hb hby d10_0) rfl rfl) ?_
  show own_R _ _ _ _ T0 (mkF m 1 #[.val (.ref a), .unset] [(.ref a)])
  obtain ⟨T1, X1, e1, st1⟩ := instNo X0 hx hZ hown (hw 53 rfl) e0 E (own_nsNo (hw 54 rfl) (hw 350 rfl) (NS.step (hw 54 rfl) (NS.step (hw 55 rfl) (NS.step (hw 56 rfl) (own_nsRoot (hw 57 rfl) (hw 350 rfl) (by decide)) (by decide)) (by decide)) (by decide)) (by decide)) (g := (mkF m 1 #[.val (.ref a), .unset] [(.ref a)])) rfl rfl (hb hby d10_1)
  refine own_go st1 ?_
  show own_R _ _ _ _ T1 (mkF m 4 #[.val (.ref a), .unset] [(.int (0 : Int32))])
  refine own_go (fun _ => XS.ifNo X1.here hx rfl (hb hby d10_4) rfl ((if0 _ _).trans (teq (rfl : (0 : Int32) = (0 : Int32))).2)) ?_
  show own_R _ _ _ _ T1 (mkF m 7 #[.val (.ref a), .unset] [])
  refine own_go (fun _ => XS.aloadN X1.here hx rfl (hb hby d10_7) rfl rfl) ?_
  show own_R _ _ _ _ T1 (mkF m 8 #[.val (.ref a), .unset] [(.ref a)])
  obtain ⟨T2, X2, e2, st2⟩ := instNo X1 hx hZ hown (hw 58 rfl) e1 E (own_nsNo (hw 54 rfl) (hw 306 rfl) (NS.step (hw 54 rfl) (NS.step (hw 55 rfl) (NS.step (hw 56 rfl) (own_nsRoot (hw 57 rfl) (hw 306 rfl) (by decide)) (by decide)) (by decide)) (by decide)) (by decide)) (g := (mkF m 8 #[.val (.ref a), .unset] [(.ref a)])) rfl rfl (hb hby d10_8)
  refine own_go st2 ?_
  show own_R _ _ _ _ T2 (mkF m 11 #[.val (.ref a), .unset] [(.int (0 : Int32))])
  refine own_go (fun _ => XS.ifYes X2.here hx rfl (pc0 := 11) (pc' := 31) rfl (hb hby d10_11) rfl ((if0 _ _).trans (teq (rfl : (0 : Int32) = (0 : Int32))).1) (by decide) (by decide)) ?_
  show own_R _ _ _ _ T2 (mkF m 31 #[.val (.ref a), .unset] [])
  refine own_go (fun _ => XS.aloadN X2.here hx rfl (hb hby d10_31) rfl rfl) ?_
  show own_R _ _ _ _ T2 (mkF m 32 #[.val (.ref a), .unset] [(.ref a)])
  obtain ⟨v3, T3, L3, X3, Q3, st3⟩ := own_backF X2 hx hZ hown (xi := own_y28) (hw 59 rfl) (hw 60 rfl) (mvT hZ (hw 61 rfl)) (hw 62 rfl) (hw 63 rfl) (hw 64 rfl) (hw 65 rfl) (hw 66 rfl) (by decide) (backOf (W := 0) (rmIE0 l Z a0 hw [] h0 n0 a (Int32.ofNat 0) Fs (by decide)) hZ (hw 67 rfl) (hw 2 rfl) (by decide) (by decide)) (b := a) E (g := (mkF m 32 #[.val (.ref a), .unset] [(.ref a)])) rfl (by rw [hml]; rfl) (argsL := []) (rest := []) (lenOf pd___Z rfl) rfl rfl (Nat.le_of_eq rfl) (hb hby d10_32) e2 (by decide) (by decide)
  obtain ⟨rfl, N3q, e3⟩ := Q3
  have N3 := Fr.app N0 N3q
  refine own_go st3 ?_
  show own_R _ _ _ _ T3 (mkF m 37 #[.val (.ref a), .unset] [(.int (1 : Int32))])
  refine own_go (fun _ => XS.ifNo X3.here hx rfl (hb hby d10_37) rfl ((if0 _ _).trans (feq (by decide : ¬ ((1 : Int32) = (0 : Int32)))).1)) ?_
  show own_R _ _ _ _ T3 (mkF m 40 #[.val (.ref a), .unset] [])
  obtain ⟨v4, T4, L4, X4, Q4, st4⟩ := own_callS X3 hx hZ hown (y := own_y52) (hw 70 rfl) (hw 33 rfl) (hw 34 rfl) (hw 35 rfl) (by decide) (rmLO l Z a0 hw [] h0 n0 de kd el ea ka em mr G Od) (W := 0) (g := (mkF m 40 #[.val (.ref a), .unset] [])) rfl (by rw [hml]; rfl) (argsL := []) (rest := []) (lenOf pd___Ljava_util_List_ rfl) rfl rfl (Nat.le_of_eq rfl) (hb hby d10_40) e3 (by decide) (by decide) (by decide) (by decide)
  obtain ⟨rfl, N4q, e4⟩ := Q4
  have N4 := Fr.app N3 N4q
  refine own_go st4 ?_
  show own_R _ _ _ _ T4 (mkF m 43 #[.val (.ref a), .unset] [(.ref el)])
  exact own_end X4 (some (.ref el)) (fun h => by rw [hret] at h; cases h) hlk (fun fs hr => own_retA X4 hx hret rfl rfl (hb hby d10_43) hr) ⟨rfl, N4, e4⟩ (by decide) (by decide)
set_option maxRecDepth 65536 in
set_option maxHeartbeats 8000000 in
theorem rmLCZ (l : Launch) (Z : State) (a0 : Array Value) (hw : own_T a0 Z) (ws : List Jvm.Cond) (h0 : Heap) (n0 : Nat) (de : Addr) (kd : ClassId) (el ea : Addr) (ka : ClassId) (em mr : Addr) (G : own_G Z de kd el ea ka em mr) (Od : Old Z n0 h0)  :
    own_C l Z own_y30 jdk_56_method_3_code 2 (some (.object "java/util/List")) ws ({ frames := 7, cells := 0, slots := 0, locals := 160 } : Room) #[(.ref el)] h0 (own_Qr (some (.ref el)) h0 n0) := by
  refine own_body (ls := #[.val (.ref el), .unset]) pn_10 (fun m => by first | (simp [entryFrame, mkF, argsToLocals, Value.category]; done) | rfl) ?_
  intro p e s m below meth c T0 hZ hx hby hml hown hnm hret hlk X0 e0
  replace hml : c.maxLocals = 2 := hml
  have N0 := Fr.nil n0
  have E := G.2.2.2.1.ext Od.2
  refine own_go (fun _ => XS.aloadN X0.here hx rfl (hb hby d10_0) rfl rfl) ?_
  show own_R _ _ _ _ T0 (mkF m 1 #[.val (.ref el), .unset] [(.ref el)])
  obtain ⟨T1, X1, e1, st1⟩ := instNo X0 hx hZ hown (hw 53 rfl) e0 E (own_nsNo (hw 71 rfl) (hw 350 rfl) (NS.step (hw 71 rfl) (NS.step (hw 72 rfl) (NS.step (hw 73 rfl) (NS.step (hw 56 rfl) (own_nsRoot (hw 57 rfl) (hw 350 rfl) (by decide)) (by decide)) (by decide)) (by decide)) (by decide)) (by decide)) (g := (mkF m 1 #[.val (.ref el), .unset] [(.ref el)])) rfl rfl (hb hby d10_1)
  refine own_go st1 ?_
  show own_R _ _ _ _ T1 (mkF m 4 #[.val (.ref el), .unset] [(.int (0 : Int32))])
  refine own_go (fun _ => XS.ifNo X1.here hx rfl (hb hby d10_4) rfl ((if0 _ _).trans (teq (rfl : (0 : Int32) = (0 : Int32))).2)) ?_
  show own_R _ _ _ _ T1 (mkF m 7 #[.val (.ref el), .unset] [])
  refine own_go (fun _ => XS.aloadN X1.here hx rfl (hb hby d10_7) rfl rfl) ?_
  show own_R _ _ _ _ T1 (mkF m 8 #[.val (.ref el), .unset] [(.ref el)])
  obtain ⟨T2, X2, e2, st2⟩ := instY X1 hx hZ hown (hw 58 rfl) e1 (Ins.of_exa E (hw 74 rfl)) (g := (mkF m 8 #[.val (.ref el), .unset] [(.ref el)])) rfl rfl (hb hby d10_8)
  refine own_go st2 ?_
  show own_R _ _ _ _ T2 (mkF m 11 #[.val (.ref el), .unset] [(.int (1 : Int32))])
  refine own_go (fun _ => XS.ifNo X2.here hx rfl (hb hby d10_11) rfl ((if0 _ _).trans (feq (by decide : ¬ ((1 : Int32) = (0 : Int32)))).1)) ?_
  show own_R _ _ _ _ T2 (mkF m 14 #[.val (.ref el), .unset] [])
  refine own_go (fun _ => XS.aloadN X2.here hx rfl (hb hby d10_14) rfl rfl) ?_
  show own_R _ _ _ _ T2 (mkF m 15 #[.val (.ref el), .unset] [(.ref el)])
  obtain ⟨T3, X3, e3, st3⟩ := castY X2 hx hZ hown (hw 58 rfl) e2 (Ins.of_exa E (hw 74 rfl)) (g := (mkF m 15 #[.val (.ref el), .unset] [(.ref el)])) rfl rfl (hb hby d10_15)
  refine own_go st3 ?_
  show own_R _ _ _ _ T3 (mkF m 18 #[.val (.ref el), .unset] [(.ref el)])
  refine own_go (fun _ => XS.astoreN X3.here hx rfl (hb hby d10_18) rfl rfl (l' := #[.val (.ref el), .val (.ref el)]) rfl) ?_
  refine own_go (fun _ => XS.aloadN X3.here hx rfl (hb hby d10_19) rfl rfl) ?_
  show own_R _ _ _ _ T3 (mkF m 20 #[.val (.ref el), .val (.ref el)] [(.ref el)])
  obtain ⟨T4, X4, e4, st4⟩ := getF X3 hx hZ hown (Or.inr (hw 75 rfl)) Via.refl e3 (G.2.2.2.2.1.ext Od.2) (g := (mkF m 20 #[.val (.ref el), .val (.ref el)] [(.ref el)])) rfl rfl (hb hby d10_20)
  refine own_go st4 ?_
  show own_R _ _ _ _ T4 (mkF m 23 #[.val (.ref el), .val (.ref el)] [(.int (0 : Int32))])
  refine own_go (fun _ => XS.ifNo X4.here hx rfl (hb hby d10_23) rfl ((if0 _ _).trans (teq (rfl : (0 : Int32) = (0 : Int32))).2)) ?_
  show own_R _ _ _ _ T4 (mkF m 26 #[.val (.ref el), .val (.ref el)] [])
  refine own_go (fun _ => XS.aloadN X4.here hx rfl (hb hby d10_26) rfl rfl) ?_
  show own_R _ _ _ _ T4 (mkF m 27 #[.val (.ref el), .val (.ref el)] [(.ref el)])
  obtain ⟨T5, X5, e5, st5⟩ := castY X4 hx hZ hown (hw 77 rfl) e4 (Ins.of_exa E (hw 78 rfl)) (g := (mkF m 27 #[.val (.ref el), .val (.ref el)] [(.ref el)])) rfl rfl (hb hby d10_27)
  refine own_go st5 ?_
  show own_R _ _ _ _ T5 (mkF m 30 #[.val (.ref el), .val (.ref el)] [(.ref el)])
  exact own_end X5 (some (.ref el)) (fun h => by rw [hret] at h; cases h) hlk (fun fs hr => own_retA X5 hx hret rfl rfl (hb hby d10_30) hr) ⟨rfl, N0, e5⟩ (by decide) (by decide)
set_option maxRecDepth 65536 in
set_option maxHeartbeats 8000000 in
theorem rmLC1 (l : Launch) (Z : State) (a0 : Array Value) (hw : own_T a0 Z) (ws : List Jvm.Cond) (h0 : Heap) (n0 : Nat) (de : Addr) (kd : ClassId) (el ea : Addr) (ka : ClassId) (em mr : Addr) (G : own_G Z de kd el ea ka em mr) (Od : Old Z n0 h0) (y0 : Addr) (Ey0 : Exa Z h0 y0 "com/example/zellwerk/zellwerk/model/Area") (a : Addr) (ed : Addr) (k : ClassId) (md : Int32) (L0 : own_L Z h0 a ed k ([.ref y0]) md)  :
    own_C l Z own_y30 jdk_56_method_3_code 2 (some (.object "java/util/List")) ws ({ frames := 7, cells := 2, slots := 7, locals := 160 } : Room) #[(.ref a)] h0 (own_Qi Z y0 em h0 n0) := by
  refine own_body (ls := #[.val (.ref a), .unset]) pn_10 (fun m => by first | (simp [entryFrame, mkF, argsToLocals, Value.category]; done) | rfl) ?_
  intro p e s m below meth c T0 hZ hx hby hml hown hnm hret hlk X0 e0
  replace hml : c.maxLocals = 2 := hml
  have N0 := Fr.nil n0
  have E := L0.1.1
  have Fs := L0.1.2.2.1
  refine own_go (fun _ => XS.aloadN X0.here hx rfl (hb hby d10_0) rfl rfl) ?_
  show own_R _ _ _ _ T0 (mkF m 1 #[.val (.ref a), .unset] [(.ref a)])
  obtain ⟨T1, X1, e1, st1⟩ := instNo X0 hx hZ hown (hw 53 rfl) e0 E (own_nsNo (hw 54 rfl) (hw 350 rfl) (NS.step (hw 54 rfl) (NS.step (hw 55 rfl) (NS.step (hw 56 rfl) (own_nsRoot (hw 57 rfl) (hw 350 rfl) (by decide)) (by decide)) (by decide)) (by decide)) (by decide)) (g := (mkF m 1 #[.val (.ref a), .unset] [(.ref a)])) rfl rfl (hb hby d10_1)
  refine own_go st1 ?_
  show own_R _ _ _ _ T1 (mkF m 4 #[.val (.ref a), .unset] [(.int (0 : Int32))])
  refine own_go (fun _ => XS.ifNo X1.here hx rfl (hb hby d10_4) rfl ((if0 _ _).trans (teq (rfl : (0 : Int32) = (0 : Int32))).2)) ?_
  show own_R _ _ _ _ T1 (mkF m 7 #[.val (.ref a), .unset] [])
  refine own_go (fun _ => XS.aloadN X1.here hx rfl (hb hby d10_7) rfl rfl) ?_
  show own_R _ _ _ _ T1 (mkF m 8 #[.val (.ref a), .unset] [(.ref a)])
  obtain ⟨T2, X2, e2, st2⟩ := instNo X1 hx hZ hown (hw 58 rfl) e1 E (own_nsNo (hw 54 rfl) (hw 306 rfl) (NS.step (hw 54 rfl) (NS.step (hw 55 rfl) (NS.step (hw 56 rfl) (own_nsRoot (hw 57 rfl) (hw 306 rfl) (by decide)) (by decide)) (by decide)) (by decide)) (by decide)) (g := (mkF m 8 #[.val (.ref a), .unset] [(.ref a)])) rfl rfl (hb hby d10_8)
  refine own_go st2 ?_
  show own_R _ _ _ _ T2 (mkF m 11 #[.val (.ref a), .unset] [(.int (0 : Int32))])
  refine own_go (fun _ => XS.ifYes X2.here hx rfl (pc0 := 11) (pc' := 31) rfl (hb hby d10_11) rfl ((if0 _ _).trans (teq (rfl : (0 : Int32) = (0 : Int32))).1) (by decide) (by decide)) ?_
  show own_R _ _ _ _ T2 (mkF m 31 #[.val (.ref a), .unset] [])
  refine own_go (fun _ => XS.aloadN X2.here hx rfl (hb hby d10_31) rfl rfl) ?_
  show own_R _ _ _ _ T2 (mkF m 32 #[.val (.ref a), .unset] [(.ref a)])
  obtain ⟨v3, T3, L3, X3, Q3, st3⟩ := own_backF X2 hx hZ hown (xi := own_y28) (hw 59 rfl) (hw 60 rfl) (mvT hZ (hw 61 rfl)) (hw 62 rfl) (hw 63 rfl) (hw 64 rfl) (hw 65 rfl) (hw 66 rfl) (by decide) (backOf (W := 0) (rmIE1 l Z a0 hw [] h0 n0 a (Int32.ofNat 1) Fs (by decide)) hZ (hw 67 rfl) (hw 2 rfl) (by decide) (by decide)) (b := a) E (g := (mkF m 32 #[.val (.ref a), .unset] [(.ref a)])) rfl (by rw [hml]; rfl) (argsL := []) (rest := []) (lenOf pd___Z rfl) rfl rfl (Nat.le_of_eq rfl) (hb hby d10_32) e2 (by decide) (by decide)
  obtain ⟨rfl, N3q, e3⟩ := Q3
  have N3 := Fr.app N0 N3q
  refine own_go st3 ?_
  show own_R _ _ _ _ T3 (mkF m 37 #[.val (.ref a), .unset] [(.int (0 : Int32))])
  refine own_go (fun _ => XS.ifYes X3.here hx rfl (pc0 := 37) (pc' := 44) rfl (hb hby d10_37) rfl ((if0 _ _).trans (teq (rfl : (0 : Int32) = (0 : Int32))).1) (by decide) (by decide)) ?_
  show own_R _ _ _ _ T3 (mkF m 44 #[.val (.ref a), .unset] [])
  refine own_go (fun _ => XS.aloadN X3.here hx rfl (hb hby d10_44) rfl rfl) ?_
  show own_R _ _ _ _ T3 (mkF m 45 #[.val (.ref a), .unset] [(.ref a)])
  obtain ⟨v4, T4, L4, X4, Q4, st4⟩ := own_backF X3 hx hZ hown (xi := own_y29) (hw 269 rfl) (hw 270 rfl) (mvT hZ (hw 271 rfl)) (hw 272 rfl) (hw 273 rfl) (hw 274 rfl) (hw 275 rfl) (hw 66 rfl) (by decide) (backOf (W := 0) (rmTA l Z a0 hw [] h0 n0 de kd el ea ka em mr G Od a ed k [y0] md (by simp) L0 (by intro y hy; cases List.mem_singleton.mp hy; exact Ey0)) hZ (hw 276 rfl) (hw 2 rfl) (by decide) (by decide)) (b := a) E (g := (mkF m 45 #[.val (.ref a), .unset] [(.ref a)])) rfl (by rw [hml]; rfl) (argsL := []) (rest := []) (lenOf pd____Ljava_lang_Object_ rfl) rfl rfl (Nat.le_of_eq rfl) (hb hby d10_45) e3 (by decide) (by decide)
  obtain ⟨b, k4, rfl, N4q, K4, g4, A4⟩ := Q4
  have N4 := Fr.app N3 N4q
  refine own_go st4 ?_
  show own_R _ _ _ _ T4 (mkF m 50 #[.val (.ref a), .unset] [(.ref b)])
  have Od4 := Od.keep K4 all0
  obtain ⟨v5, T5, L5, X5, Q5, st5⟩ := own_callS X4 hx hZ hown (y := own_y53) (hw 298 rfl) (hw 299 rfl) (hw 34 rfl) (hw 300 rfl) (by decide) (rmLA1 l Z a0 hw [] T4.heap n0 de kd el ea ka em mr G Od4 y0 (Ey0.keep K4) b k4 A4) (W := 0) (g := (mkF m 50 #[.val (.ref a), .unset] [(.ref b)])) rfl (by rw [hml]; rfl) (argsL := [(.ref b)]) (rest := []) (lenOf pd___Ljava_lang_Object__Ljava_util_List_ rfl) rfl rfl (Nat.le_of_eq rfl) (hb hby d10_50) rfl (by decide) (by decide) (by decide) (by decide)
  obtain ⟨x, rfl, N5q, K5, g5, q5⟩ := Q5
  have N5 := Fr.app N4 N5q
  refine own_go st5 ?_
  show own_R _ _ _ _ T5 (mkF m 53 #[.val (.ref a), .unset] [(.ref x)])
  exact own_end X5 (some (.ref x)) (fun h => by rw [hret] at h; cases h) hlk (fun fs hr => own_retA X5 hx hret rfl rfl (hb hby d10_53) hr) ⟨x, rfl, N5, K4.trans K5 all0, Nat.le_trans K4.1 g5, q5⟩ (by decide) (by decide)
set_option maxRecDepth 65536 in
set_option maxHeartbeats 8000000 in
theorem rmLC2 (l : Launch) (Z : State) (a0 : Array Value) (hw : own_T a0 Z) (ws : List Jvm.Cond) (h0 : Heap) (n0 : Nat) (de : Addr) (kd : ClassId) (el ea : Addr) (ka : ClassId) (em mr : Addr) (G : own_G Z de kd el ea ka em mr) (Od : Old Z n0 h0) (y0 y1 : Addr) (Ey0 : Exa Z h0 y0 "com/example/zellwerk/zellwerk/model/Area") (Ey1 : Exa Z h0 y1 "com/example/zellwerk/zellwerk/model/Area") (a : Addr) (ed : Addr) (k : ClassId) (md : Int32) (L0 : own_L Z h0 a ed k ([.ref y0, .ref y1]) md)  :
    own_C l Z own_y30 jdk_56_method_3_code 2 (some (.object "java/util/List")) ws ({ frames := 7, cells := 2, slots := 7, locals := 160 } : Room) #[(.ref a)] h0 (own_Qi Z y0 y1 h0 n0) := by
  refine own_body (ls := #[.val (.ref a), .unset]) pn_10 (fun m => by first | (simp [entryFrame, mkF, argsToLocals, Value.category]; done) | rfl) ?_
  intro p e s m below meth c T0 hZ hx hby hml hown hnm hret hlk X0 e0
  replace hml : c.maxLocals = 2 := hml
  have N0 := Fr.nil n0
  have E := L0.1.1
  have Fs := L0.1.2.2.1
  refine own_go (fun _ => XS.aloadN X0.here hx rfl (hb hby d10_0) rfl rfl) ?_
  show own_R _ _ _ _ T0 (mkF m 1 #[.val (.ref a), .unset] [(.ref a)])
  obtain ⟨T1, X1, e1, st1⟩ := instNo X0 hx hZ hown (hw 53 rfl) e0 E (own_nsNo (hw 54 rfl) (hw 350 rfl) (NS.step (hw 54 rfl) (NS.step (hw 55 rfl) (NS.step (hw 56 rfl) (own_nsRoot (hw 57 rfl) (hw 350 rfl) (by decide)) (by decide)) (by decide)) (by decide)) (by decide)) (g := (mkF m 1 #[.val (.ref a), .unset] [(.ref a)])) rfl rfl (hb hby d10_1)
  refine own_go st1 ?_
  show own_R _ _ _ _ T1 (mkF m 4 #[.val (.ref a), .unset] [(.int (0 : Int32))])
  refine own_go (fun _ => XS.ifNo X1.here hx rfl (hb hby d10_4) rfl ((if0 _ _).trans (teq (rfl : (0 : Int32) = (0 : Int32))).2)) ?_
  show own_R _ _ _ _ T1 (mkF m 7 #[.val (.ref a), .unset] [])
  refine own_go (fun _ => XS.aloadN X1.here hx rfl (hb hby d10_7) rfl rfl) ?_
  show own_R _ _ _ _ T1 (mkF m 8 #[.val (.ref a), .unset] [(.ref a)])
  obtain ⟨T2, X2, e2, st2⟩ := instNo X1 hx hZ hown (hw 58 rfl) e1 E (own_nsNo (hw 54 rfl) (hw 306 rfl) (NS.step (hw 54 rfl) (NS.step (hw 55 rfl) (NS.step (hw 56 rfl) (own_nsRoot (hw 57 rfl) (hw 306 rfl) (by decide)) (by decide)) (by decide)) (by decide)) (by decide)) (g := (mkF m 8 #[.val (.ref a), .unset] [(.ref a)])) rfl rfl (hb hby d10_8)
  refine own_go st2 ?_
  show own_R _ _ _ _ T2 (mkF m 11 #[.val (.ref a), .unset] [(.int (0 : Int32))])
  refine own_go (fun _ => XS.ifYes X2.here hx rfl (pc0 := 11) (pc' := 31) rfl (hb hby d10_11) rfl ((if0 _ _).trans (teq (rfl : (0 : Int32) = (0 : Int32))).1) (by decide) (by decide)) ?_
  show own_R _ _ _ _ T2 (mkF m 31 #[.val (.ref a), .unset] [])
  refine own_go (fun _ => XS.aloadN X2.here hx rfl (hb hby d10_31) rfl rfl) ?_
  show own_R _ _ _ _ T2 (mkF m 32 #[.val (.ref a), .unset] [(.ref a)])
  obtain ⟨v3, T3, L3, X3, Q3, st3⟩ := own_backF X2 hx hZ hown (xi := own_y28) (hw 59 rfl) (hw 60 rfl) (mvT hZ (hw 61 rfl)) (hw 62 rfl) (hw 63 rfl) (hw 64 rfl) (hw 65 rfl) (hw 66 rfl) (by decide) (backOf (W := 0) (rmIE1 l Z a0 hw [] h0 n0 a (Int32.ofNat 2) Fs (by decide)) hZ (hw 67 rfl) (hw 2 rfl) (by decide) (by decide)) (b := a) E (g := (mkF m 32 #[.val (.ref a), .unset] [(.ref a)])) rfl (by rw [hml]; rfl) (argsL := []) (rest := []) (lenOf pd___Z rfl) rfl rfl (Nat.le_of_eq rfl) (hb hby d10_32) e2 (by decide) (by decide)
  obtain ⟨rfl, N3q, e3⟩ := Q3
  have N3 := Fr.app N0 N3q
  refine own_go st3 ?_
  show own_R _ _ _ _ T3 (mkF m 37 #[.val (.ref a), .unset] [(.int (0 : Int32))])
  refine own_go (fun _ => XS.ifYes X3.here hx rfl (pc0 := 37) (pc' := 44) rfl (hb hby d10_37) rfl ((if0 _ _).trans (teq (rfl : (0 : Int32) = (0 : Int32))).1) (by decide) (by decide)) ?_
  show own_R _ _ _ _ T3 (mkF m 44 #[.val (.ref a), .unset] [])
  refine own_go (fun _ => XS.aloadN X3.here hx rfl (hb hby d10_44) rfl rfl) ?_
  show own_R _ _ _ _ T3 (mkF m 45 #[.val (.ref a), .unset] [(.ref a)])
  obtain ⟨v4, T4, L4, X4, Q4, st4⟩ := own_backF X3 hx hZ hown (xi := own_y29) (hw 269 rfl) (hw 270 rfl) (mvT hZ (hw 271 rfl)) (hw 272 rfl) (hw 273 rfl) (hw 274 rfl) (hw 275 rfl) (hw 66 rfl) (by decide) (backOf (W := 0) (rmTA l Z a0 hw [] h0 n0 de kd el ea ka em mr G Od a ed k [y0, y1] md (by simp) L0 (by intro y hy; simp only [List.mem_cons, List.not_mem_nil, or_false] at hy; rcases hy with rfl | rfl <;> assumption)) hZ (hw 276 rfl) (hw 2 rfl) (by decide) (by decide)) (b := a) E (g := (mkF m 45 #[.val (.ref a), .unset] [(.ref a)])) rfl (by rw [hml]; rfl) (argsL := []) (rest := []) (lenOf pd____Ljava_lang_Object_ rfl) rfl rfl (Nat.le_of_eq rfl) (hb hby d10_45) e3 (by decide) (by decide)
  obtain ⟨b, k4, rfl, N4q, K4, g4, A4⟩ := Q4
  have N4 := Fr.app N3 N4q
  refine own_go st4 ?_
  show own_R _ _ _ _ T4 (mkF m 50 #[.val (.ref a), .unset] [(.ref b)])
  have Od4 := Od.keep K4 all0
  obtain ⟨v5, T5, L5, X5, Q5, st5⟩ := own_callS X4 hx hZ hown (y := own_y53) (hw 298 rfl) (hw 299 rfl) (hw 34 rfl) (hw 300 rfl) (by decide) (rmLA2 l Z a0 hw [] T4.heap n0 de kd el ea ka em mr G Od4 y0 y1 (Ey0.keep K4) (Ey1.keep K4) b k4 A4) (W := 0) (g := (mkF m 50 #[.val (.ref a), .unset] [(.ref b)])) rfl (by rw [hml]; rfl) (argsL := [(.ref b)]) (rest := []) (lenOf pd___Ljava_lang_Object__Ljava_util_List_ rfl) rfl rfl (Nat.le_of_eq rfl) (hb hby d10_50) rfl (by decide) (by decide) (by decide) (by decide)
  obtain ⟨x, rfl, N5q, K5, g5, q5⟩ := Q5
  have N5 := Fr.app N4 N5q
  refine own_go st5 ?_
  show own_R _ _ _ _ T5 (mkF m 53 #[.val (.ref a), .unset] [(.ref x)])
  exact own_end X5 (some (.ref x)) (fun h => by rw [hret] at h; cases h) hlk (fun fs hr => own_retA X5 hx hret rfl rfl (hb hby d10_53) hr) ⟨x, rfl, N5, K4.trans K5 all0, Nat.le_trans K4.1 g5, q5⟩ (by decide) (by decide)
set_option maxRecDepth 65536 in
set_option maxHeartbeats 8000000 in
theorem rmLC3 (l : Launch) (Z : State) (a0 : Array Value) (hw : own_T a0 Z) (ws : List Jvm.Cond) (h0 : Heap) (n0 : Nat) (de : Addr) (kd : ClassId) (el ea : Addr) (ka : ClassId) (em mr : Addr) (G : own_G Z de kd el ea ka em mr) (Od : Old Z n0 h0) (y0 y1 y2 : Addr) (Ey0 : Exa Z h0 y0 "com/example/zellwerk/zellwerk/model/Area") (Ey1 : Exa Z h0 y1 "com/example/zellwerk/zellwerk/model/Area") (Ey2 : Exa Z h0 y2 "com/example/zellwerk/zellwerk/model/Area") (a : Addr) (ed : Addr) (k : ClassId) (md : Int32) (L0 : own_L Z h0 a ed k ([.ref y0, .ref y1, .ref y2]) md)  :
    own_C l Z own_y30 jdk_56_method_3_code 2 (some (.object "java/util/List")) ws ({ frames := 7, cells := 3, slots := 10, locals := 160 } : Room) #[(.ref a)] h0 (own_Qj Z y0 y1 y2 h0 n0) := by
  refine own_body (ls := #[.val (.ref a), .unset]) pn_10 (fun m => by first | (simp [entryFrame, mkF, argsToLocals, Value.category]; done) | rfl) ?_
  intro p e s m below meth c T0 hZ hx hby hml hown hnm hret hlk X0 e0
  replace hml : c.maxLocals = 2 := hml
  have N0 := Fr.nil n0
  have E := L0.1.1
  have Fs := L0.1.2.2.1
  refine own_go (fun _ => XS.aloadN X0.here hx rfl (hb hby d10_0) rfl rfl) ?_
  show own_R _ _ _ _ T0 (mkF m 1 #[.val (.ref a), .unset] [(.ref a)])
  obtain ⟨T1, X1, e1, st1⟩ := instNo X0 hx hZ hown (hw 53 rfl) e0 E (own_nsNo (hw 54 rfl) (hw 350 rfl) (NS.step (hw 54 rfl) (NS.step (hw 55 rfl) (NS.step (hw 56 rfl) (own_nsRoot (hw 57 rfl) (hw 350 rfl) (by decide)) (by decide)) (by decide)) (by decide)) (by decide)) (g := (mkF m 1 #[.val (.ref a), .unset] [(.ref a)])) rfl rfl (hb hby d10_1)
  refine own_go st1 ?_
  show own_R _ _ _ _ T1 (mkF m 4 #[.val (.ref a), .unset] [(.int (0 : Int32))])
  refine own_go (fun _ => XS.ifNo X1.here hx rfl (hb hby d10_4) rfl ((if0 _ _).trans (teq (rfl : (0 : Int32) = (0 : Int32))).2)) ?_
  show own_R _ _ _ _ T1 (mkF m 7 #[.val (.ref a), .unset] [])
  refine own_go (fun _ => XS.aloadN X1.here hx rfl (hb hby d10_7) rfl rfl) ?_
  show own_R _ _ _ _ T1 (mkF m 8 #[.val (.ref a), .unset] [(.ref a)])
  obtain ⟨T2, X2, e2, st2⟩ := instNo X1 hx hZ hown (hw 58 rfl) e1 E (own_nsNo (hw 54 rfl) (hw 306 rfl) (NS.step (hw 54 rfl) (NS.step (hw 55 rfl) (NS.step (hw 56 rfl) (own_nsRoot (hw 57 rfl) (hw 306 rfl) (by decide)) (by decide)) (by decide)) (by decide)) (by decide)) (g := (mkF m 8 #[.val (.ref a), .unset] [(.ref a)])) rfl rfl (hb hby d10_8)
  refine own_go st2 ?_
  show own_R _ _ _ _ T2 (mkF m 11 #[.val (.ref a), .unset] [(.int (0 : Int32))])
  refine own_go (fun _ => XS.ifYes X2.here hx rfl (pc0 := 11) (pc' := 31) rfl (hb hby d10_11) rfl ((if0 _ _).trans (teq (rfl : (0 : Int32) = (0 : Int32))).1) (by decide) (by decide)) ?_
  show own_R _ _ _ _ T2 (mkF m 31 #[.val (.ref a), .unset] [])
  refine own_go (fun _ => XS.aloadN X2.here hx rfl (hb hby d10_31) rfl rfl) ?_
  show own_R _ _ _ _ T2 (mkF m 32 #[.val (.ref a), .unset] [(.ref a)])
  obtain ⟨v3, T3, L3, X3, Q3, st3⟩ := own_backF X2 hx hZ hown (xi := own_y28) (hw 59 rfl) (hw 60 rfl) (mvT hZ (hw 61 rfl)) (hw 62 rfl) (hw 63 rfl) (hw 64 rfl) (hw 65 rfl) (hw 66 rfl) (by decide) (backOf (W := 0) (rmIE1 l Z a0 hw [] h0 n0 a (Int32.ofNat 3) Fs (by decide)) hZ (hw 67 rfl) (hw 2 rfl) (by decide) (by decide)) (b := a) E (g := (mkF m 32 #[.val (.ref a), .unset] [(.ref a)])) rfl (by rw [hml]; rfl) (argsL := []) (rest := []) (lenOf pd___Z rfl) rfl rfl (Nat.le_of_eq rfl) (hb hby d10_32) e2 (by decide) (by decide)
  obtain ⟨rfl, N3q, e3⟩ := Q3
  have N3 := Fr.app N0 N3q
  refine own_go st3 ?_
  show own_R _ _ _ _ T3 (mkF m 37 #[.val (.ref a), .unset] [(.int (0 : Int32))])
  refine own_go (fun _ => XS.ifYes X3.here hx rfl (pc0 := 37) (pc' := 44) rfl (hb hby d10_37) rfl ((if0 _ _).trans (teq (rfl : (0 : Int32) = (0 : Int32))).1) (by decide) (by decide)) ?_
  show own_R _ _ _ _ T3 (mkF m 44 #[.val (.ref a), .unset] [])
  refine own_go (fun _ => XS.aloadN X3.here hx rfl (hb hby d10_44) rfl rfl) ?_
  show own_R _ _ _ _ T3 (mkF m 45 #[.val (.ref a), .unset] [(.ref a)])
  obtain ⟨v4, T4, L4, X4, Q4, st4⟩ := own_backF X3 hx hZ hown (xi := own_y29) (hw 269 rfl) (hw 270 rfl) (mvT hZ (hw 271 rfl)) (hw 272 rfl) (hw 273 rfl) (hw 274 rfl) (hw 275 rfl) (hw 66 rfl) (by decide) (backOf (W := 0) (rmTA l Z a0 hw [] h0 n0 de kd el ea ka em mr G Od a ed k [y0, y1, y2] md (by simp) L0 (by intro y hy; simp only [List.mem_cons, List.not_mem_nil, or_false] at hy; rcases hy with rfl | rfl | rfl <;> assumption)) hZ (hw 276 rfl) (hw 2 rfl) (by decide) (by decide)) (b := a) E (g := (mkF m 45 #[.val (.ref a), .unset] [(.ref a)])) rfl (by rw [hml]; rfl) (argsL := []) (rest := []) (lenOf pd____Ljava_lang_Object_ rfl) rfl rfl (Nat.le_of_eq rfl) (hb hby d10_45) e3 (by decide) (by decide)
  obtain ⟨b, k4, rfl, N4q, K4, g4, A4⟩ := Q4
  have N4 := Fr.app N3 N4q
  refine own_go st4 ?_
  show own_R _ _ _ _ T4 (mkF m 50 #[.val (.ref a), .unset] [(.ref b)])
  have Od4 := Od.keep K4 all0
  obtain ⟨v5, T5, L5, X5, Q5, st5⟩ := own_callS X4 hx hZ hown (y := own_y53) (hw 298 rfl) (hw 299 rfl) (hw 34 rfl) (hw 300 rfl) (by decide) (rmLA3 l Z a0 hw [] T4.heap n0 de kd el ea ka em mr G Od4 y0 y1 y2 (Ey0.keep K4) (Ey1.keep K4) (Ey2.keep K4) b k4 A4) (W := 0) (g := (mkF m 50 #[.val (.ref a), .unset] [(.ref b)])) rfl (by rw [hml]; rfl) (argsL := [(.ref b)]) (rest := []) (lenOf pd___Ljava_lang_Object__Ljava_util_List_ rfl) rfl rfl (Nat.le_of_eq rfl) (hb hby d10_50) rfl (by decide) (by decide) (by decide) (by decide)
  obtain ⟨x, xa, k5, rfl, N5q, K5, g5, g5a, q5⟩ := Q5
  have N5 := Fr.app N4 N5q
  refine own_go st5 ?_
  show own_R _ _ _ _ T5 (mkF m 53 #[.val (.ref a), .unset] [(.ref x)])
  exact own_end X5 (some (.ref x)) (fun h => by rw [hret] at h; cases h) hlk (fun fs hr => own_retA X5 hx hret rfl rfl (hb hby d10_53) hr) ⟨x, xa, k5, rfl, N5, K4.trans K5 all0, Nat.le_trans K4.1 g5, Nat.le_trans K4.1 g5a, q5⟩ (by decide) (by decide)
set_option maxRecDepth 65536 in
set_option maxHeartbeats 8000000 in
theorem rmCOE (l : Launch) (Z : State) (a0 : Array Value) (hw : own_T a0 Z) (ws : List Jvm.Cond) (h0 : Heap) (n0 : Nat) (de : Addr) (kd : ClassId) (el ea : Addr) (ka : ClassId) (em mr : Addr) (G : own_G Z de kd el ea ka em mr) (Od : Old Z n0 h0) (a : Addr) (E : Exa Z h0 a "java/util/ArrayList") (Fs : Fld Z h0 a "java/util/ArrayList" "size" "I" (.int (Int32.ofNat 0))) :
    own_C l Z own_y49 jdk_40_method_48_code 1 (some (.object "java/util/List")) ws ({ frames := 8, cells := 3, slots := 10, locals := 180 } : Room) #[(.ref a)] h0 (own_Qr (some (.ref el)) h0 n0) := by
  refine own_body (ls := #[.val (.ref a)]) pn_9 (fun m => by first | (simp [entryFrame, mkF, argsToLocals, Value.category]; done) | rfl) ?_
  intro p e s m below meth c T0 hZ hx hby hml hown hnm hret hlk X0 e0
  replace hml : c.maxLocals = 1 := hml
  have N0 := Fr.nil n0
  refine own_go (fun _ => XS.aloadN X0.here hx rfl (hb hby d9_0) rfl rfl) ?_
  show own_R _ _ _ _ T0 (mkF m 1 #[.val (.ref a)] [(.ref a)])
  obtain ⟨v1, T1, L1, X1, Q1, st1⟩ := own_callS X0 hx hZ hown (y := own_y30) (hw 50 rfl) (hw 51 rfl) (hw 37 rfl) (hw 52 rfl) (by decide) (rmLCE l Z a0 hw [] h0 n0 de kd el ea ka em mr G Od a E Fs) (W := 0) (g := (mkF m 1 #[.val (.ref a)] [(.ref a)])) rfl (by rw [hml]; rfl) (argsL := [(.ref a)]) (rest := []) (lenOf pd__Ljava_util_Collection__Ljava_util_List_ rfl) rfl rfl (Nat.le_of_eq rfl) (hb hby d9_1) e0 (by decide) (by decide) (by decide) (by decide)
  obtain ⟨rfl, N1q, e1⟩ := Q1
  have N1 := Fr.app N0 N1q
  refine own_go st1 ?_
  show own_R _ _ _ _ T1 (mkF m 4 #[.val (.ref a)] [(.ref el)])
  exact own_end X1 (some (.ref el)) (fun h => by rw [hret] at h; cases h) hlk (fun fs hr => own_retA X1 hx hret rfl rfl (hb hby d9_4) hr) ⟨rfl, N1, e1⟩ (by decide) (by decide)
set_option maxRecDepth 65536 in
set_option maxHeartbeats 8000000 in
theorem rmCOZ (l : Launch) (Z : State) (a0 : Array Value) (hw : own_T a0 Z) (ws : List Jvm.Cond) (h0 : Heap) (n0 : Nat) (de : Addr) (kd : ClassId) (el ea : Addr) (ka : ClassId) (em mr : Addr) (G : own_G Z de kd el ea ka em mr) (Od : Old Z n0 h0)  :
    own_C l Z own_y49 jdk_40_method_48_code 1 (some (.object "java/util/List")) ws ({ frames := 8, cells := 3, slots := 10, locals := 180 } : Room) #[(.ref el)] h0 (own_Qr (some (.ref el)) h0 n0) := by
  refine own_body (ls := #[.val (.ref el)]) pn_9 (fun m => by first | (simp [entryFrame, mkF, argsToLocals, Value.category]; done) | rfl) ?_
  intro p e s m below meth c T0 hZ hx hby hml hown hnm hret hlk X0 e0
  replace hml : c.maxLocals = 1 := hml
  have N0 := Fr.nil n0
  refine own_go (fun _ => XS.aloadN X0.here hx rfl (hb hby d9_0) rfl rfl) ?_
  show own_R _ _ _ _ T0 (mkF m 1 #[.val (.ref el)] [(.ref el)])
  obtain ⟨v1, T1, L1, X1, Q1, st1⟩ := own_callS X0 hx hZ hown (y := own_y30) (hw 50 rfl) (hw 51 rfl) (hw 37 rfl) (hw 52 rfl) (by decide) (rmLCZ l Z a0 hw [] h0 n0 de kd el ea ka em mr G Od ) (W := 0) (g := (mkF m 1 #[.val (.ref el)] [(.ref el)])) rfl (by rw [hml]; rfl) (argsL := [(.ref el)]) (rest := []) (lenOf pd__Ljava_util_Collection__Ljava_util_List_ rfl) rfl rfl (Nat.le_of_eq rfl) (hb hby d9_1) e0 (by decide) (by decide) (by decide) (by decide)
  obtain ⟨rfl, N1q, e1⟩ := Q1
  have N1 := Fr.app N0 N1q
  refine own_go st1 ?_
  show own_R _ _ _ _ T1 (mkF m 4 #[.val (.ref el)] [(.ref el)])
  exact own_end X1 (some (.ref el)) (fun h => by rw [hret] at h; cases h) hlk (fun fs hr => own_retA X1 hx hret rfl rfl (hb hby d9_4) hr) ⟨rfl, N1, e1⟩ (by decide) (by decide)
set_option maxRecDepth 65536 in
set_option maxHeartbeats 8000000 in
theorem rmCO1 (l : Launch) (Z : State) (a0 : Array Value) (hw : own_T a0 Z) (ws : List Jvm.Cond) (h0 : Heap) (n0 : Nat) (de : Addr) (kd : ClassId) (el ea : Addr) (ka : ClassId) (em mr : Addr) (G : own_G Z de kd el ea ka em mr) (Od : Old Z n0 h0) (y0 : Addr) (Ey0 : Exa Z h0 y0 "com/example/zellwerk/zellwerk/model/Area") (a : Addr) (ed : Addr) (k : ClassId) (md : Int32) (L0 : own_L Z h0 a ed k ([.ref y0]) md)  :
    own_C l Z own_y49 jdk_40_method_48_code 1 (some (.object "java/util/List")) ws ({ frames := 8, cells := 3, slots := 10, locals := 180 } : Room) #[(.ref a)] h0 (own_Qi Z y0 em h0 n0) := by
  refine own_body (ls := #[.val (.ref a)]) pn_9 (fun m => by first | (simp [entryFrame, mkF, argsToLocals, Value.category]; done) | rfl) ?_
  intro p e s m below meth c T0 hZ hx hby hml hown hnm hret hlk X0 e0
  replace hml : c.maxLocals = 1 := hml
  have N0 := Fr.nil n0
  refine own_go (fun _ => XS.aloadN X0.here hx rfl (hb hby d9_0) rfl rfl) ?_
  show own_R _ _ _ _ T0 (mkF m 1 #[.val (.ref a)] [(.ref a)])
  obtain ⟨v1, T1, L1, X1, Q1, st1⟩ := own_callS X0 hx hZ hown (y := own_y30) (hw 50 rfl) (hw 51 rfl) (hw 37 rfl) (hw 52 rfl) (by decide) (rmLC1 l Z a0 hw [] h0 n0 de kd el ea ka em mr G Od y0 Ey0 a ed k md L0) (W := 0) (g := (mkF m 1 #[.val (.ref a)] [(.ref a)])) rfl (by rw [hml]; rfl) (argsL := [(.ref a)]) (rest := []) (lenOf pd__Ljava_util_Collection__Ljava_util_List_ rfl) rfl rfl (Nat.le_of_eq rfl) (hb hby d9_1) e0 (by decide) (by decide) (by decide) (by decide)
  obtain ⟨x, rfl, N1q, q1⟩ := Q1
  have N1 := Fr.app N0 N1q
  refine own_go st1 ?_
  show own_R _ _ _ _ T1 (mkF m 4 #[.val (.ref a)] [(.ref x)])
  exact own_end X1 (some (.ref x)) (fun h => by rw [hret] at h; cases h) hlk (fun fs hr => own_retA X1 hx hret rfl rfl (hb hby d9_4) hr) ⟨x, rfl, N1, q1⟩ (by decide) (by decide)
set_option maxRecDepth 65536 in
set_option maxHeartbeats 8000000 in
theorem rmCO2 (l : Launch) (Z : State) (a0 : Array Value) (hw : own_T a0 Z) (ws : List Jvm.Cond) (h0 : Heap) (n0 : Nat) (de : Addr) (kd : ClassId) (el ea : Addr) (ka : ClassId) (em mr : Addr) (G : own_G Z de kd el ea ka em mr) (Od : Old Z n0 h0) (y0 y1 : Addr) (Ey0 : Exa Z h0 y0 "com/example/zellwerk/zellwerk/model/Area") (Ey1 : Exa Z h0 y1 "com/example/zellwerk/zellwerk/model/Area") (a : Addr) (ed : Addr) (k : ClassId) (md : Int32) (L0 : own_L Z h0 a ed k ([.ref y0, .ref y1]) md)  :
    own_C l Z own_y49 jdk_40_method_48_code 1 (some (.object "java/util/List")) ws ({ frames := 8, cells := 3, slots := 10, locals := 180 } : Room) #[(.ref a)] h0 (own_Qi Z y0 y1 h0 n0) := by
  refine own_body (ls := #[.val (.ref a)]) pn_9 (fun m => by first | (simp [entryFrame, mkF, argsToLocals, Value.category]; done) | rfl) ?_
  intro p e s m below meth c T0 hZ hx hby hml hown hnm hret hlk X0 e0
  replace hml : c.maxLocals = 1 := hml
  have N0 := Fr.nil n0
  refine own_go (fun _ => XS.aloadN X0.here hx rfl (hb hby d9_0) rfl rfl) ?_
  show own_R _ _ _ _ T0 (mkF m 1 #[.val (.ref a)] [(.ref a)])
  obtain ⟨v1, T1, L1, X1, Q1, st1⟩ := own_callS X0 hx hZ hown (y := own_y30) (hw 50 rfl) (hw 51 rfl) (hw 37 rfl) (hw 52 rfl) (by decide) (rmLC2 l Z a0 hw [] h0 n0 de kd el ea ka em mr G Od y0 y1 Ey0 Ey1 a ed k md L0) (W := 0) (g := (mkF m 1 #[.val (.ref a)] [(.ref a)])) rfl (by rw [hml]; rfl) (argsL := [(.ref a)]) (rest := []) (lenOf pd__Ljava_util_Collection__Ljava_util_List_ rfl) rfl rfl (Nat.le_of_eq rfl) (hb hby d9_1) e0 (by decide) (by decide) (by decide) (by decide)
  obtain ⟨x, rfl, N1q, q1⟩ := Q1
  have N1 := Fr.app N0 N1q
  refine own_go st1 ?_
  show own_R _ _ _ _ T1 (mkF m 4 #[.val (.ref a)] [(.ref x)])
  exact own_end X1 (some (.ref x)) (fun h => by rw [hret] at h; cases h) hlk (fun fs hr => own_retA X1 hx hret rfl rfl (hb hby d9_4) hr) ⟨x, rfl, N1, q1⟩ (by decide) (by decide)
set_option maxRecDepth 65536 in
set_option maxHeartbeats 8000000 in
theorem rmCO3 (l : Launch) (Z : State) (a0 : Array Value) (hw : own_T a0 Z) (ws : List Jvm.Cond) (h0 : Heap) (n0 : Nat) (de : Addr) (kd : ClassId) (el ea : Addr) (ka : ClassId) (em mr : Addr) (G : own_G Z de kd el ea ka em mr) (Od : Old Z n0 h0) (y0 y1 y2 : Addr) (Ey0 : Exa Z h0 y0 "com/example/zellwerk/zellwerk/model/Area") (Ey1 : Exa Z h0 y1 "com/example/zellwerk/zellwerk/model/Area") (Ey2 : Exa Z h0 y2 "com/example/zellwerk/zellwerk/model/Area") (a : Addr) (ed : Addr) (k : ClassId) (md : Int32) (L0 : own_L Z h0 a ed k ([.ref y0, .ref y1, .ref y2]) md)  :
    own_C l Z own_y49 jdk_40_method_48_code 1 (some (.object "java/util/List")) ws ({ frames := 8, cells := 3, slots := 10, locals := 180 } : Room) #[(.ref a)] h0 (own_Qj Z y0 y1 y2 h0 n0) := by
  refine own_body (ls := #[.val (.ref a)]) pn_9 (fun m => by first | (simp [entryFrame, mkF, argsToLocals, Value.category]; done) | rfl) ?_
  intro p e s m below meth c T0 hZ hx hby hml hown hnm hret hlk X0 e0
  replace hml : c.maxLocals = 1 := hml
  have N0 := Fr.nil n0
  refine own_go (fun _ => XS.aloadN X0.here hx rfl (hb hby d9_0) rfl rfl) ?_
  show own_R _ _ _ _ T0 (mkF m 1 #[.val (.ref a)] [(.ref a)])
  obtain ⟨v1, T1, L1, X1, Q1, st1⟩ := own_callS X0 hx hZ hown (y := own_y30) (hw 50 rfl) (hw 51 rfl) (hw 37 rfl) (hw 52 rfl) (by decide) (rmLC3 l Z a0 hw [] h0 n0 de kd el ea ka em mr G Od y0 y1 y2 Ey0 Ey1 Ey2 a ed k md L0) (W := 0) (g := (mkF m 1 #[.val (.ref a)] [(.ref a)])) rfl (by rw [hml]; rfl) (argsL := [(.ref a)]) (rest := []) (lenOf pd__Ljava_util_Collection__Ljava_util_List_ rfl) rfl rfl (Nat.le_of_eq rfl) (hb hby d9_1) e0 (by decide) (by decide) (by decide) (by decide)
  obtain ⟨x, xa, k5, rfl, N1q, q1⟩ := Q1
  have N1 := Fr.app N0 N1q
  refine own_go st1 ?_
  show own_R _ _ _ _ T1 (mkF m 4 #[.val (.ref a)] [(.ref x)])
  exact own_end X1 (some (.ref x)) (fun h => by rw [hret] at h; cases h) hlk (fun fs hr => own_retA X1 hx hret rfl rfl (hb hby d9_4) hr) ⟨x, xa, k5, rfl, N1, q1⟩ (by decide) (by decide)
def own_Qcg (Z : State) (a : Addr) (Qa : Option Value → Heap → List Loc → Prop) (h0 : Heap) (n0 : Nat) (v : Option Value) (h : Heap) (L : List Loc) : Prop := ∃ (x : Addr) (h1 : Heap) (L1 : List Loc), v = none ∧ Fr n0 L ∧ Keep h0 h [a] ∧ Exa Z h a "com/example/zellwerk/zellwerk/model/Cell" ∧ Fld Z h a "com/example/zellwerk/zellwerk/model/Cell" "areas" "Ljava/util/List;" (.ref x) ∧ Qa (some (.ref x)) h1 L1 ∧ Keep h1 h [a]
set_option maxRecDepth 65536 in
set_option maxHeartbeats 16000000 in
theorem rmC7 (l : Launch) (Z : State) (a0 : Array Value) (hw : own_T a0 Z) (ws : List Jvm.Cond) (h0 : Heap) (n0 : Nat) (de : Addr) (kd : ClassId) (el ea : Addr) (ka : ClassId) (em mr : Addr) (G : own_G Z de kd el ea ka em mr) (Od : Old Z n0 h0) (a rb fd ar : Addr) (d1 : UInt64) (g9 : n0 ≤ a) (E : Exa Z h0 a "com/example/zellwerk/zellwerk/model/Cell") (FsafeZ : Fld Z h0 a "com/example/zellwerk/zellwerk/model/Cell" "safeZ" "D" (.double 0)) (Frobots : Fld Z h0 a "com/example/zellwerk/zellwerk/model/Cell" "robots" "Ljava/util/List;" .null) (Ffeeders : Fld Z h0 a "com/example/zellwerk/zellwerk/model/Cell" "feeders" "Ljava/util/List;" .null) (Fareas : Fld Z h0 a "com/example/zellwerk/zellwerk/model/Cell" "areas" "Ljava/util/List;" .null) (FcoupleS : Fld Z h0 a "com/example/zellwerk/zellwerk/model/Cell" "coupleS" "D" (.double 0)) (Fgrippers : Fld Z h0 a "com/example/zellwerk/zellwerk/model/Cell" "grippers" "Ljava/util/List;" .null) (Fports : Fld Z h0 a "com/example/zellwerk/zellwerk/model/Cell" "ports" "Ljava/util/List;" .null) (Erb : Exa Z h0 rb "java/util/ArrayList") (Srb : Fld Z h0 rb "java/util/ArrayList" "size" "I" (.int (Int32.ofNat 0))) (Efd : Exa Z h0 fd "java/util/ArrayList") (Sfd : Fld Z h0 fd "java/util/ArrayList" "size" "I" (.int (Int32.ofNat 0))) (Qa : Option Value → Heap → List Loc → Prop) (HC : own_C l Z own_y49 jdk_40_method_48_code 1 (some (.object "java/util/List")) [] ({ frames := 8, cells := 3, slots := 10, locals := 180 } : Room) #[.ref ar] h0 Qa) (HQ : ∀ v h L, Qa v h L → ∃ x : Addr, v = some (.ref x) ∧ Fr n0 L ∧ Keep h0 h [])  :
    own_C l Z own_y2 prog_24_method_1_code 10 none ws ({ frames := 9, cells := 15, slots := 50, locals := 200 } : Room) #[(.ref a), (.double d1), (.ref rb), (.ref fd), (.ref ar), (.double FP.dconst0), (.ref el), (.ref el)] h0 (own_Qcg Z a Qa h0 n0) := by
  refine own_body (ls := #[.val (.ref a), .val (.double d1), .second, .val (.ref rb), .val (.ref fd), .val (.ref ar), .val (.double FP.dconst0), .second, .val (.ref el), .val (.ref el)]) pn_7 (fun m => by first | (simp [entryFrame, mkF, argsToLocals, Value.category]; done) | rfl) ?_
  intro p e s m below meth c T0 hZ hx hby hml hown hnm hret hlk X0 e0
  replace hml : c.maxLocals = 10 := hml
  have N0 := Fr.nil n0
  refine own_go (fun _ => XS.aloadN X0.here hx rfl (hb hby d7_0) rfl rfl) ?_
  show own_R _ _ _ _ T0 (mkF m 1 #[.val (.ref a), .val (.double d1), .second, .val (.ref rb), .val (.ref fd), .val (.ref ar), .val (.double FP.dconst0), .second, .val (.ref el), .val (.ref el)] [(.ref a)])
  obtain ⟨v1, T1, L1, X1, Q1, st1⟩ := own_callI X0 hx hZ hown (y := own_y11) rfl (hw 41 rfl) (hw 42 rfl) (hw 45 rfl) (hw 44 rfl) (by decide) (rmRec l Z a0 hw [] h0 n0 a) (W := 0) (g := (mkF m 1 #[.val (.ref a), .val (.double d1), .second, .val (.ref rb), .val (.ref fd), .val (.ref ar), .val (.double FP.dconst0), .second, .val (.ref el), .val (.ref el)] [(.ref a)])) rfl (by rw [hml]; rfl) (a := a) (argsL := []) (rest := []) (lenOf pd___V rfl) rfl rfl (Nat.le_of_eq rfl) (hb hby d7_1) e0 (by decide) (by decide) (by decide) (by decide)
  obtain ⟨rfl, N1q, e1⟩ := Q1
  have N1 := Fr.app N0 N1q
  refine own_go st1 ?_
  show own_R _ _ _ _ T1 (mkF m 4 #[.val (.ref a), .val (.double d1), .second, .val (.ref rb), .val (.ref fd), .val (.ref ar), .val (.double FP.dconst0), .second, .val (.ref el), .val (.ref el)] [])
  refine own_go (fun _ => XS.aloadN X1.here hx rfl (hb hby d7_4) rfl rfl) ?_
  show own_R _ _ _ _ T1 (mkF m 5 #[.val (.ref a), .val (.double d1), .second, .val (.ref rb), .val (.ref fd), .val (.ref ar), .val (.double FP.dconst0), .second, .val (.ref el), .val (.ref el)] [(.ref rb)])
  obtain ⟨v2, T2, L2, X2, Q2, st2⟩ := own_callS X1 hx hZ hown (y := own_y49) (hw 47 rfl) (hw 48 rfl) (hw 34 rfl) (hw 49 rfl) (by decide) (rmCOE l Z a0 hw [] h0 n0 de kd el ea ka em mr G Od rb Erb Srb) (W := 0) (g := (mkF m 5 #[.val (.ref a), .val (.double d1), .second, .val (.ref rb), .val (.ref fd), .val (.ref ar), .val (.double FP.dconst0), .second, .val (.ref el), .val (.ref el)] [(.ref rb)])) rfl (by rw [hml]; rfl) (argsL := [(.ref rb)]) (rest := []) (lenOf pd__Ljava_util_Collection__Ljava_util_List_ rfl) rfl rfl (Nat.le_of_eq rfl) (hb hby d7_5) e1 (by decide) (by decide) (by decide) (by decide)
  obtain ⟨rfl, N2q, e2⟩ := Q2
  have N2 := Fr.app N1 N2q
  refine own_go st2 ?_
  show own_R _ _ _ _ T2 (mkF m 8 #[.val (.ref a), .val (.double d1), .second, .val (.ref rb), .val (.ref fd), .val (.ref ar), .val (.double FP.dconst0), .second, .val (.ref el), .val (.ref el)] [(.ref el)])
  refine own_go (fun _ => XS.astoreN X2.here hx rfl (hb hby d7_8) rfl rfl (l' := #[.val (.ref a), .val (.double d1), .second, .val (.ref el), .val (.ref fd), .val (.ref ar), .val (.double FP.dconst0), .second, .val (.ref el), .val (.ref el)]) rfl) ?_
  refine own_go (fun _ => XS.aload X2.here hx rfl (hb hby d7_9) rfl rfl) ?_
  show own_R _ _ _ _ T2 (mkF m 11 #[.val (.ref a), .val (.double d1), .second, .val (.ref el), .val (.ref fd), .val (.ref ar), .val (.double FP.dconst0), .second, .val (.ref el), .val (.ref el)] [(.ref fd)])
  obtain ⟨v3, T3, L3, X3, Q3, st3⟩ := own_callS X2 hx hZ hown (y := own_y49) (hw 47 rfl) (hw 48 rfl) (hw 34 rfl) (hw 49 rfl) (by decide) (rmCOE l Z a0 hw [] h0 n0 de kd el ea ka em mr G Od fd Efd Sfd) (W := 0) (g := (mkF m 11 #[.val (.ref a), .val (.double d1), .second, .val (.ref el), .val (.ref fd), .val (.ref ar), .val (.double FP.dconst0), .second, .val (.ref el), .val (.ref el)] [(.ref fd)])) rfl (by rw [hml]; rfl) (argsL := [(.ref fd)]) (rest := []) (lenOf pd__Ljava_util_Collection__Ljava_util_List_ rfl) rfl rfl (Nat.le_of_eq rfl) (hb hby d7_11) e2 (by decide) (by decide) (by decide) (by decide)
  obtain ⟨rfl, N3q, e3⟩ := Q3
  have N3 := Fr.app N2 N3q
  refine own_go st3 ?_
  show own_R _ _ _ _ T3 (mkF m 14 #[.val (.ref a), .val (.double d1), .second, .val (.ref el), .val (.ref fd), .val (.ref ar), .val (.double FP.dconst0), .second, .val (.ref el), .val (.ref el)] [(.ref el)])
  refine own_go (fun _ => XS.astore X3.here hx rfl (hb hby d7_14) rfl rfl (l' := #[.val (.ref a), .val (.double d1), .second, .val (.ref el), .val (.ref el), .val (.ref ar), .val (.double FP.dconst0), .second, .val (.ref el), .val (.ref el)]) rfl) ?_
  refine own_go (fun _ => XS.aload X3.here hx rfl (hb hby d7_16) rfl rfl) ?_
  show own_R _ _ _ _ T3 (mkF m 18 #[.val (.ref a), .val (.double d1), .second, .val (.ref el), .val (.ref el), .val (.ref ar), .val (.double FP.dconst0), .second, .val (.ref el), .val (.ref el)] [(.ref ar)])
  obtain ⟨v4, T4, L4, X4, Q4, st4⟩ := own_callS X3 hx hZ hown (y := own_y49) (hw 47 rfl) (hw 48 rfl) (hw 34 rfl) (hw 49 rfl) (by decide) HC (W := 0) (g := (mkF m 18 #[.val (.ref a), .val (.double d1), .second, .val (.ref el), .val (.ref el), .val (.ref ar), .val (.double FP.dconst0), .second, .val (.ref el), .val (.ref el)] [(.ref ar)])) rfl (by rw [hml]; rfl) (argsL := [(.ref ar)]) (rest := []) (lenOf pd__Ljava_util_Collection__Ljava_util_List_ rfl) rfl rfl (Nat.le_of_eq rfl) (hb hby d7_18) e3 (by decide) (by decide) (by decide) (by decide)
  obtain ⟨x, rfl, N4q, K4⟩ := HQ _ _ _ Q4
  have N4 := Fr.app N3 N4q
  refine own_go st4 ?_
  show own_R _ _ _ _ T4 (mkF m 21 #[.val (.ref a), .val (.double d1), .second, .val (.ref el), .val (.ref el), .val (.ref ar), .val (.double FP.dconst0), .second, .val (.ref el), .val (.ref el)] [(.ref x)])
  have Od4 := Od.keep K4 all0
  replace E := E.keep K4
  replace FsafeZ := FsafeZ.keep K4 nin0
  replace Frobots := Frobots.keep K4 nin0
  replace Ffeeders := Ffeeders.keep K4 nin0
  replace Fareas := Fareas.keep K4 nin0
  replace FcoupleS := FcoupleS.keep K4 nin0
  replace Fgrippers := Fgrippers.keep K4 nin0
  replace Fports := Fports.keep K4 nin0
  refine own_go (fun _ => XS.astore X4.here hx rfl (hb hby d7_21) rfl rfl (l' := #[.val (.ref a), .val (.double d1), .second, .val (.ref el), .val (.ref el), .val (.ref x), .val (.double FP.dconst0), .second, .val (.ref el), .val (.ref el)]) rfl) ?_
  refine own_go (fun _ => XS.aload X4.here hx rfl (hb hby d7_23) rfl rfl) ?_
  show own_R _ _ _ _ T4 (mkF m 25 #[.val (.ref a), .val (.double d1), .second, .val (.ref el), .val (.ref el), .val (.ref x), .val (.double FP.dconst0), .second, .val (.ref el), .val (.ref el)] [(.ref el)])
  obtain ⟨v5, T5, L5, X5, Q5, st5⟩ := own_callS X4 hx hZ hown (y := own_y49) (hw 47 rfl) (hw 48 rfl) (hw 34 rfl) (hw 49 rfl) (by decide) (rmCOZ l Z a0 hw [] T4.heap n0 de kd el ea ka em mr G Od4) (W := 0) (g := (mkF m 25 #[.val (.ref a), .val (.double d1), .second, .val (.ref el), .val (.ref el), .val (.ref x), .val (.double FP.dconst0), .second, .val (.ref el), .val (.ref el)] [(.ref el)])) rfl (by rw [hml]; rfl) (argsL := [(.ref el)]) (rest := []) (lenOf pd__Ljava_util_Collection__Ljava_util_List_ rfl) rfl rfl (Nat.le_of_eq rfl) (hb hby d7_25) rfl (by decide) (by decide) (by decide) (by decide)
  obtain ⟨rfl, N5q, e5⟩ := Q5
  have N5 := Fr.app N4 N5q
  refine own_go st5 ?_
  show own_R _ _ _ _ T5 (mkF m 28 #[.val (.ref a), .val (.double d1), .second, .val (.ref el), .val (.ref el), .val (.ref x), .val (.double FP.dconst0), .second, .val (.ref el), .val (.ref el)] [(.ref el)])
  refine own_go (fun _ => XS.astore X5.here hx rfl (hb hby d7_28) rfl rfl (l' := #[.val (.ref a), .val (.double d1), .second, .val (.ref el), .val (.ref el), .val (.ref x), .val (.double FP.dconst0), .second, .val (.ref el), .val (.ref el)]) rfl) ?_
  refine own_go (fun _ => XS.aload X5.here hx rfl (hb hby d7_30) rfl rfl) ?_
  show own_R _ _ _ _ T5 (mkF m 32 #[.val (.ref a), .val (.double d1), .second, .val (.ref el), .val (.ref el), .val (.ref x), .val (.double FP.dconst0), .second, .val (.ref el), .val (.ref el)] [(.ref el)])
  obtain ⟨v6, T6, L6, X6, Q6, st6⟩ := own_callS X5 hx hZ hown (y := own_y49) (hw 47 rfl) (hw 48 rfl) (hw 34 rfl) (hw 49 rfl) (by decide) (rmCOZ l Z a0 hw [] T4.heap n0 de kd el ea ka em mr G Od4) (W := 0) (g := (mkF m 32 #[.val (.ref a), .val (.double d1), .second, .val (.ref el), .val (.ref el), .val (.ref x), .val (.double FP.dconst0), .second, .val (.ref el), .val (.ref el)] [(.ref el)])) rfl (by rw [hml]; rfl) (argsL := [(.ref el)]) (rest := []) (lenOf pd__Ljava_util_Collection__Ljava_util_List_ rfl) rfl rfl (Nat.le_of_eq rfl) (hb hby d7_32) e5 (by decide) (by decide) (by decide) (by decide)
  obtain ⟨rfl, N6q, e6⟩ := Q6
  have N6 := Fr.app N5 N6q
  refine own_go st6 ?_
  show own_R _ _ _ _ T6 (mkF m 35 #[.val (.ref a), .val (.double d1), .second, .val (.ref el), .val (.ref el), .val (.ref x), .val (.double FP.dconst0), .second, .val (.ref el), .val (.ref el)] [(.ref el)])
  refine own_go (fun _ => XS.astore X6.here hx rfl (hb hby d7_35) rfl rfl (l' := #[.val (.ref a), .val (.double d1), .second, .val (.ref el), .val (.ref el), .val (.ref x), .val (.double FP.dconst0), .second, .val (.ref el), .val (.ref el)]) rfl) ?_
  show own_R _ _ _ _ T6 (mkF m 37 #[.val (.ref a), .val (.double d1), .second, .val (.ref el), .val (.ref el), .val (.ref x), .val (.double FP.dconst0), .second, .val (.ref el), .val (.ref el)] [])
  refine own_go (fun _ => XS.aloadN X6.here hx rfl (hb hby d7_37) rfl rfl) ?_
  show own_R _ _ _ _ T6 (mkF m 38 #[.val (.ref a), .val (.double d1), .second, .val (.ref el), .val (.ref el), .val (.ref x), .val (.double FP.dconst0), .second, .val (.ref el), .val (.ref el)] [(.ref a)])
  refine own_go (fun _ => XS.dloadN X6.here hx rfl (hb hby d7_38) rfl ) ?_
  show own_R _ _ _ _ T6 (mkF m 39 #[.val (.ref a), .val (.double d1), .second, .val (.ref el), .val (.ref el), .val (.ref x), .val (.double FP.dconst0), .second, .val (.ref el), .val (.ref el)] [(.double d1), (.ref a)])
  obtain ⟨T10, h10, X10, e10, W10, st10⟩ := putF X6 hx hZ hown (host := "") (Or.inl (hw 79 rfl)) Via.refl e6 FsafeZ E (Or.inr ⟨(hw 80 rfl), rfl, hnm⟩) (hw 27 rfl) (ty := .double) (by decide) rfl rfl (g := (mkF m 39 #[.val (.ref a), .val (.double d1), .second, .val (.ref el), .val (.ref el), .val (.ref x), .val (.double FP.dconst0), .second, .val (.ref el), .val (.ref el)] [(.double d1), (.ref a)])) rfl rfl (hb hby d7_39)
  refine own_go st10 ?_
  show own_R _ _ _ _ T10 (mkF m 42 #[.val (.ref a), .val (.double d1), .second, .val (.ref el), .val (.ref el), .val (.ref x), .val (.double FP.dconst0), .second, .val (.ref el), .val (.ref el)] [])
  have N10 := Fr.snoc X10 N6 g9
  have K10 := (Keep.refl T4.heap [a]).wr W10 (Or.inl (by simp))
  have E10 := E.wr W10
  have FsafeZ10 := FsafeZ.same W10
  have Frobots10 := Frobots.other W10 (Or.inr (slot_ne (Or.inr (hw 82 rfl)) (Or.inr (hw 80 rfl)) (by decide) (t := (.object "java/util/List")) (t' := .double) (by decide) (by decide)))
  have Ffeeders10 := Ffeeders.other W10 (Or.inr (slot_ne (Or.inr (hw 84 rfl)) (Or.inr (hw 80 rfl)) (by decide) (t := (.object "java/util/List")) (t' := .double) (by decide) (by decide)))
  have Fareas10 := Fareas.other W10 (Or.inr (slot_ne (Or.inr (hw 86 rfl)) (Or.inr (hw 80 rfl)) (by decide) (t := (.object "java/util/List")) (t' := .double) (by decide) (by decide)))
  have FcoupleS10 := FcoupleS.other W10 (Or.inr (slot_ne (Or.inr (hw 88 rfl)) (Or.inr (hw 80 rfl)) (by decide) (t := .double) (t' := .double) (by decide) (by decide)))
  have Fgrippers10 := Fgrippers.other W10 (Or.inr (slot_ne (Or.inr (hw 90 rfl)) (Or.inr (hw 80 rfl)) (by decide) (t := (.object "java/util/List")) (t' := .double) (by decide) (by decide)))
  have Fports10 := Fports.other W10 (Or.inr (slot_ne (Or.inr (hw 92 rfl)) (Or.inr (hw 80 rfl)) (by decide) (t := (.object "java/util/List")) (t' := .double) (by decide) (by decide)))
  refine own_go (fun _ => XS.aloadN X10.here hx rfl (hb hby d7_42) rfl rfl) ?_
  show own_R _ _ _ _ T10 (mkF m 43 #[.val (.ref a), .val (.double d1), .second, .val (.ref el), .val (.ref el), .val (.ref x), .val (.double FP.dconst0), .second, .val (.ref el), .val (.ref el)] [(.ref a)])
  refine own_go (fun _ => XS.aloadN X10.here hx rfl (hb hby d7_43) rfl rfl) ?_
  show own_R _ _ _ _ T10 (mkF m 44 #[.val (.ref a), .val (.double d1), .second, .val (.ref el), .val (.ref el), .val (.ref x), .val (.double FP.dconst0), .second, .val (.ref el), .val (.ref el)] [(.ref el), (.ref a)])
  obtain ⟨T11, h11, X11, e11, W11, st11⟩ := putF X10 hx hZ hown (host := "") (Or.inl (hw 81 rfl)) Via.refl e10 Frobots10 E10 (Or.inr ⟨(hw 82 rfl), rfl, hnm⟩) (hw 27 rfl) (ty := (.object "java/util/List")) (by decide) rfl rfl (g := (mkF m 44 #[.val (.ref a), .val (.double d1), .second, .val (.ref el), .val (.ref el), .val (.ref x), .val (.double FP.dconst0), .second, .val (.ref el), .val (.ref el)] [(.ref el), (.ref a)])) rfl rfl (hb hby d7_44)
  refine own_go st11 ?_
  show own_R _ _ _ _ T11 (mkF m 47 #[.val (.ref a), .val (.double d1), .second, .val (.ref el), .val (.ref el), .val (.ref x), .val (.double FP.dconst0), .second, .val (.ref el), .val (.ref el)] [])
  have N11 := Fr.snoc X11 N10 g9
  have K11 := K10.wr W11 (Or.inl (by simp))
  have E11 := E10.wr W11
  have FsafeZ11 := FsafeZ10.other W11 (Or.inr (slot_ne (Or.inr (hw 80 rfl)) (Or.inr (hw 82 rfl)) (by decide) (t := .double) (t' := (.object "java/util/List")) (by decide) (by decide)))
  have Frobots11 := Frobots10.same W11
  have Ffeeders11 := Ffeeders10.other W11 (Or.inr (slot_ne (Or.inr (hw 84 rfl)) (Or.inr (hw 82 rfl)) (by decide) (t := (.object "java/util/List")) (t' := (.object "java/util/List")) (by decide) (by decide)))
  have Fareas11 := Fareas10.other W11 (Or.inr (slot_ne (Or.inr (hw 86 rfl)) (Or.inr (hw 82 rfl)) (by decide) (t := (.object "java/util/List")) (t' := (.object "java/util/List")) (by decide) (by decide)))
  have FcoupleS11 := FcoupleS10.other W11 (Or.inr (slot_ne (Or.inr (hw 88 rfl)) (Or.inr (hw 82 rfl)) (by decide) (t := .double) (t' := (.object "java/util/List")) (by decide) (by decide)))
  have Fgrippers11 := Fgrippers10.other W11 (Or.inr (slot_ne (Or.inr (hw 90 rfl)) (Or.inr (hw 82 rfl)) (by decide) (t := (.object "java/util/List")) (t' := (.object "java/util/List")) (by decide) (by decide)))
  have Fports11 := Fports10.other W11 (Or.inr (slot_ne (Or.inr (hw 92 rfl)) (Or.inr (hw 82 rfl)) (by decide) (t := (.object "java/util/List")) (t' := (.object "java/util/List")) (by decide) (by decide)))
  refine own_go (fun _ => XS.aloadN X11.here hx rfl (hb hby d7_47) rfl rfl) ?_
  show own_R _ _ _ _ T11 (mkF m 48 #[.val (.ref a), .val (.double d1), .second, .val (.ref el), .val (.ref el), .val (.ref x), .val (.double FP.dconst0), .second, .val (.ref el), .val (.ref el)] [(.ref a)])
  refine own_go (fun _ => XS.aload X11.here hx rfl (hb hby d7_48) rfl rfl) ?_
  show own_R _ _ _ _ T11 (mkF m 50 #[.val (.ref a), .val (.double d1), .second, .val (.ref el), .val (.ref el), .val (.ref x), .val (.double FP.dconst0), .second, .val (.ref el), .val (.ref el)] [(.ref el), (.ref a)])
  obtain ⟨T12, h12, X12, e12, W12, st12⟩ := putF X11 hx hZ hown (host := "") (Or.inl (hw 83 rfl)) Via.refl e11 Ffeeders11 E11 (Or.inr ⟨(hw 84 rfl), rfl, hnm⟩) (hw 27 rfl) (ty := (.object "java/util/List")) (by decide) rfl rfl (g := (mkF m 50 #[.val (.ref a), .val (.double d1), .second, .val (.ref el), .val (.ref el), .val (.ref x), .val (.double FP.dconst0), .second, .val (.ref el), .val (.ref el)] [(.ref el), (.ref a)])) rfl rfl (hb hby d7_50)
  refine own_go st12 ?_
  show own_R _ _ _ _ T12 (mkF m 53 #[.val (.ref a), .val (.double d1), .second, .val (.ref el), .val (.ref el), .val (.ref x), .val (.double FP.dconst0), .second, .val (.ref el), .val (.ref el)] [])
  have N12 := Fr.snoc X12 N11 g9
  have K12 := K11.wr W12 (Or.inl (by simp))
  have E12 := E11.wr W12
  have FsafeZ12 := FsafeZ11.other W12 (Or.inr (slot_ne (Or.inr (hw 80 rfl)) (Or.inr (hw 84 rfl)) (by decide) (t := .double) (t' := (.object "java/util/List")) (by decide) (by decide)))
  have Frobots12 := Frobots11.other W12 (Or.inr (slot_ne (Or.inr (hw 82 rfl)) (Or.inr (hw 84 rfl)) (by decide) (t := (.object "java/util/List")) (t' := (.object "java/util/List")) (by decide) (by decide)))
  have Ffeeders12 := Ffeeders11.same W12
  have Fareas12 := Fareas11.other W12 (Or.inr (slot_ne (Or.inr (hw 86 rfl)) (Or.inr (hw 84 rfl)) (by decide) (t := (.object "java/util/List")) (t' := (.object "java/util/List")) (by decide) (by decide)))
  have FcoupleS12 := FcoupleS11.other W12 (Or.inr (slot_ne (Or.inr (hw 88 rfl)) (Or.inr (hw 84 rfl)) (by decide) (t := .double) (t' := (.object "java/util/List")) (by decide) (by decide)))
  have Fgrippers12 := Fgrippers11.other W12 (Or.inr (slot_ne (Or.inr (hw 90 rfl)) (Or.inr (hw 84 rfl)) (by decide) (t := (.object "java/util/List")) (t' := (.object "java/util/List")) (by decide) (by decide)))
  have Fports12 := Fports11.other W12 (Or.inr (slot_ne (Or.inr (hw 92 rfl)) (Or.inr (hw 84 rfl)) (by decide) (t := (.object "java/util/List")) (t' := (.object "java/util/List")) (by decide) (by decide)))
  refine own_go (fun _ => XS.aloadN X12.here hx rfl (hb hby d7_53) rfl rfl) ?_
  show own_R _ _ _ _ T12 (mkF m 54 #[.val (.ref a), .val (.double d1), .second, .val (.ref el), .val (.ref el), .val (.ref x), .val (.double FP.dconst0), .second, .val (.ref el), .val (.ref el)] [(.ref a)])
  refine own_go (fun _ => XS.aload X12.here hx rfl (hb hby d7_54) rfl rfl) ?_
  show own_R _ _ _ _ T12 (mkF m 56 #[.val (.ref a), .val (.double d1), .second, .val (.ref el), .val (.ref el), .val (.ref x), .val (.double FP.dconst0), .second, .val (.ref el), .val (.ref el)] [(.ref x), (.ref a)])
  obtain ⟨T13, h13, X13, e13, W13, st13⟩ := putF X12 hx hZ hown (host := "") (Or.inl (hw 85 rfl)) Via.refl e12 Fareas12 E12 (Or.inr ⟨(hw 86 rfl), rfl, hnm⟩) (hw 27 rfl) (ty := (.object "java/util/List")) (by decide) rfl rfl (g := (mkF m 56 #[.val (.ref a), .val (.double d1), .second, .val (.ref el), .val (.ref el), .val (.ref x), .val (.double FP.dconst0), .second, .val (.ref el), .val (.ref el)] [(.ref x), (.ref a)])) rfl rfl (hb hby d7_56)
  refine own_go st13 ?_
  show own_R _ _ _ _ T13 (mkF m 59 #[.val (.ref a), .val (.double d1), .second, .val (.ref el), .val (.ref el), .val (.ref x), .val (.double FP.dconst0), .second, .val (.ref el), .val (.ref el)] [])
  have N13 := Fr.snoc X13 N12 g9
  have K13 := K12.wr W13 (Or.inl (by simp))
  have E13 := E12.wr W13
  have FsafeZ13 := FsafeZ12.other W13 (Or.inr (slot_ne (Or.inr (hw 80 rfl)) (Or.inr (hw 86 rfl)) (by decide) (t := .double) (t' := (.object "java/util/List")) (by decide) (by decide)))
  have Frobots13 := Frobots12.other W13 (Or.inr (slot_ne (Or.inr (hw 82 rfl)) (Or.inr (hw 86 rfl)) (by decide) (t := (.object "java/util/List")) (t' := (.object "java/util/List")) (by decide) (by decide)))
  have Ffeeders13 := Ffeeders12.other W13 (Or.inr (slot_ne (Or.inr (hw 84 rfl)) (Or.inr (hw 86 rfl)) (by decide) (t := (.object "java/util/List")) (t' := (.object "java/util/List")) (by decide) (by decide)))
  have Fareas13 := Fareas12.same W13
  have FcoupleS13 := FcoupleS12.other W13 (Or.inr (slot_ne (Or.inr (hw 88 rfl)) (Or.inr (hw 86 rfl)) (by decide) (t := .double) (t' := (.object "java/util/List")) (by decide) (by decide)))
  have Fgrippers13 := Fgrippers12.other W13 (Or.inr (slot_ne (Or.inr (hw 90 rfl)) (Or.inr (hw 86 rfl)) (by decide) (t := (.object "java/util/List")) (t' := (.object "java/util/List")) (by decide) (by decide)))
  have Fports13 := Fports12.other W13 (Or.inr (slot_ne (Or.inr (hw 92 rfl)) (Or.inr (hw 86 rfl)) (by decide) (t := (.object "java/util/List")) (t' := (.object "java/util/List")) (by decide) (by decide)))
  refine own_go (fun _ => XS.aloadN X13.here hx rfl (hb hby d7_59) rfl rfl) ?_
  show own_R _ _ _ _ T13 (mkF m 60 #[.val (.ref a), .val (.double d1), .second, .val (.ref el), .val (.ref el), .val (.ref x), .val (.double FP.dconst0), .second, .val (.ref el), .val (.ref el)] [(.ref a)])
  refine own_go (fun _ => XS.dload X13.here hx rfl (hb hby d7_60) rfl ) ?_
  show own_R _ _ _ _ T13 (mkF m 62 #[.val (.ref a), .val (.double d1), .second, .val (.ref el), .val (.ref el), .val (.ref x), .val (.double FP.dconst0), .second, .val (.ref el), .val (.ref el)] [(.double FP.dconst0), (.ref a)])
  obtain ⟨T14, h14, X14, e14, W14, st14⟩ := putF X13 hx hZ hown (host := "") (Or.inl (hw 87 rfl)) Via.refl e13 FcoupleS13 E13 (Or.inr ⟨(hw 88 rfl), rfl, hnm⟩) (hw 27 rfl) (ty := .double) (by decide) rfl rfl (g := (mkF m 62 #[.val (.ref a), .val (.double d1), .second, .val (.ref el), .val (.ref el), .val (.ref x), .val (.double FP.dconst0), .second, .val (.ref el), .val (.ref el)] [(.double FP.dconst0), (.ref a)])) rfl rfl (hb hby d7_62)
  refine own_go st14 ?_
  show own_R _ _ _ _ T14 (mkF m 65 #[.val (.ref a), .val (.double d1), .second, .val (.ref el), .val (.ref el), .val (.ref x), .val (.double FP.dconst0), .second, .val (.ref el), .val (.ref el)] [])
  have N14 := Fr.snoc X14 N13 g9
  have K14 := K13.wr W14 (Or.inl (by simp))
  have E14 := E13.wr W14
  have FsafeZ14 := FsafeZ13.other W14 (Or.inr (slot_ne (Or.inr (hw 80 rfl)) (Or.inr (hw 88 rfl)) (by decide) (t := .double) (t' := .double) (by decide) (by decide)))
  have Frobots14 := Frobots13.other W14 (Or.inr (slot_ne (Or.inr (hw 82 rfl)) (Or.inr (hw 88 rfl)) (by decide) (t := (.object "java/util/List")) (t' := .double) (by decide) (by decide)))
  have Ffeeders14 := Ffeeders13.other W14 (Or.inr (slot_ne (Or.inr (hw 84 rfl)) (Or.inr (hw 88 rfl)) (by decide) (t := (.object "java/util/List")) (t' := .double) (by decide) (by decide)))
  have Fareas14 := Fareas13.other W14 (Or.inr (slot_ne (Or.inr (hw 86 rfl)) (Or.inr (hw 88 rfl)) (by decide) (t := (.object "java/util/List")) (t' := .double) (by decide) (by decide)))
  have FcoupleS14 := FcoupleS13.same W14
  have Fgrippers14 := Fgrippers13.other W14 (Or.inr (slot_ne (Or.inr (hw 90 rfl)) (Or.inr (hw 88 rfl)) (by decide) (t := (.object "java/util/List")) (t' := .double) (by decide) (by decide)))
  have Fports14 := Fports13.other W14 (Or.inr (slot_ne (Or.inr (hw 92 rfl)) (Or.inr (hw 88 rfl)) (by decide) (t := (.object "java/util/List")) (t' := .double) (by decide) (by decide)))
  refine own_go (fun _ => XS.aloadN X14.here hx rfl (hb hby d7_65) rfl rfl) ?_
  show own_R _ _ _ _ T14 (mkF m 66 #[.val (.ref a), .val (.double d1), .second, .val (.ref el), .val (.ref el), .val (.ref x), .val (.double FP.dconst0), .second, .val (.ref el), .val (.ref el)] [(.ref a)])
  refine own_go (fun _ => XS.aload X14.here hx rfl (hb hby d7_66) rfl rfl) ?_
  show own_R _ _ _ _ T14 (mkF m 68 #[.val (.ref a), .val (.double d1), .second, .val (.ref el), .val (.ref el), .val (.ref x), .val (.double FP.dconst0), .second, .val (.ref el), .val (.ref el)] [(.ref el), (.ref a)])
  obtain ⟨T15, h15, X15, e15, W15, st15⟩ := putF X14 hx hZ hown (host := "") (Or.inl (hw 89 rfl)) Via.refl e14 Fgrippers14 E14 (Or.inr ⟨(hw 90 rfl), rfl, hnm⟩) (hw 27 rfl) (ty := (.object "java/util/List")) (by decide) rfl rfl (g := (mkF m 68 #[.val (.ref a), .val (.double d1), .second, .val (.ref el), .val (.ref el), .val (.ref x), .val (.double FP.dconst0), .second, .val (.ref el), .val (.ref el)] [(.ref el), (.ref a)])) rfl rfl (hb hby d7_68)
  refine own_go st15 ?_
  show own_R _ _ _ _ T15 (mkF m 71 #[.val (.ref a), .val (.double d1), .second, .val (.ref el), .val (.ref el), .val (.ref x), .val (.double FP.dconst0), .second, .val (.ref el), .val (.ref el)] [])
  have N15 := Fr.snoc X15 N14 g9
  have K15 := K14.wr W15 (Or.inl (by simp))
  have E15 := E14.wr W15
  have FsafeZ15 := FsafeZ14.other W15 (Or.inr (slot_ne (Or.inr (hw 80 rfl)) (Or.inr (hw 90 rfl)) (by decide) (t := .double) (t' := (.object "java/util/List")) (by decide) (by decide)))
  have Frobots15 := Frobots14.other W15 (Or.inr (slot_ne (Or.inr (hw 82 rfl)) (Or.inr (hw 90 rfl)) (by decide) (t := (.object "java/util/List")) (t' := (.object "java/util/List")) (by decide) (by decide)))
  have Ffeeders15 := Ffeeders14.other W15 (Or.inr (slot_ne (Or.inr (hw 84 rfl)) (Or.inr (hw 90 rfl)) (by decide) (t := (.object "java/util/List")) (t' := (.object "java/util/List")) (by decide) (by decide)))
  have Fareas15 := Fareas14.other W15 (Or.inr (slot_ne (Or.inr (hw 86 rfl)) (Or.inr (hw 90 rfl)) (by decide) (t := (.object "java/util/List")) (t' := (.object "java/util/List")) (by decide) (by decide)))
  have FcoupleS15 := FcoupleS14.other W15 (Or.inr (slot_ne (Or.inr (hw 88 rfl)) (Or.inr (hw 90 rfl)) (by decide) (t := .double) (t' := (.object "java/util/List")) (by decide) (by decide)))
  have Fgrippers15 := Fgrippers14.same W15
  have Fports15 := Fports14.other W15 (Or.inr (slot_ne (Or.inr (hw 92 rfl)) (Or.inr (hw 90 rfl)) (by decide) (t := (.object "java/util/List")) (t' := (.object "java/util/List")) (by decide) (by decide)))
  refine own_go (fun _ => XS.aloadN X15.here hx rfl (hb hby d7_71) rfl rfl) ?_
  show own_R _ _ _ _ T15 (mkF m 72 #[.val (.ref a), .val (.double d1), .second, .val (.ref el), .val (.ref el), .val (.ref x), .val (.double FP.dconst0), .second, .val (.ref el), .val (.ref el)] [(.ref a)])
  refine own_go (fun _ => XS.aload X15.here hx rfl (hb hby d7_72) rfl rfl) ?_
  show own_R _ _ _ _ T15 (mkF m 74 #[.val (.ref a), .val (.double d1), .second, .val (.ref el), .val (.ref el), .val (.ref x), .val (.double FP.dconst0), .second, .val (.ref el), .val (.ref el)] [(.ref el), (.ref a)])
  obtain ⟨T16, h16, X16, e16, W16, st16⟩ := putF X15 hx hZ hown (host := "") (Or.inl (hw 91 rfl)) Via.refl e15 Fports15 E15 (Or.inr ⟨(hw 92 rfl), rfl, hnm⟩) (hw 27 rfl) (ty := (.object "java/util/List")) (by decide) rfl rfl (g := (mkF m 74 #[.val (.ref a), .val (.double d1), .second, .val (.ref el), .val (.ref el), .val (.ref x), .val (.double FP.dconst0), .second, .val (.ref el), .val (.ref el)] [(.ref el), (.ref a)])) rfl rfl (hb hby d7_74)
  refine own_go st16 ?_
  show own_R _ _ _ _ T16 (mkF m 77 #[.val (.ref a), .val (.double d1), .second, .val (.ref el), .val (.ref el), .val (.ref x), .val (.double FP.dconst0), .second, .val (.ref el), .val (.ref el)] [])
  have N16 := Fr.snoc X16 N15 g9
  have K16 := K15.wr W16 (Or.inl (by simp))
  have E16 := E15.wr W16
  have FsafeZ16 := FsafeZ15.other W16 (Or.inr (slot_ne (Or.inr (hw 80 rfl)) (Or.inr (hw 92 rfl)) (by decide) (t := .double) (t' := (.object "java/util/List")) (by decide) (by decide)))
  have Frobots16 := Frobots15.other W16 (Or.inr (slot_ne (Or.inr (hw 82 rfl)) (Or.inr (hw 92 rfl)) (by decide) (t := (.object "java/util/List")) (t' := (.object "java/util/List")) (by decide) (by decide)))
  have Ffeeders16 := Ffeeders15.other W16 (Or.inr (slot_ne (Or.inr (hw 84 rfl)) (Or.inr (hw 92 rfl)) (by decide) (t := (.object "java/util/List")) (t' := (.object "java/util/List")) (by decide) (by decide)))
  have Fareas16 := Fareas15.other W16 (Or.inr (slot_ne (Or.inr (hw 86 rfl)) (Or.inr (hw 92 rfl)) (by decide) (t := (.object "java/util/List")) (t' := (.object "java/util/List")) (by decide) (by decide)))
  have FcoupleS16 := FcoupleS15.other W16 (Or.inr (slot_ne (Or.inr (hw 88 rfl)) (Or.inr (hw 92 rfl)) (by decide) (t := .double) (t' := (.object "java/util/List")) (by decide) (by decide)))
  have Fgrippers16 := Fgrippers15.other W16 (Or.inr (slot_ne (Or.inr (hw 90 rfl)) (Or.inr (hw 92 rfl)) (by decide) (t := (.object "java/util/List")) (t' := (.object "java/util/List")) (by decide) (by decide)))
  exact own_end X16 none (fun _ => rfl) hlk (fun fs hr => X16.returnOut hx hret (hb hby d7_77) hr) (by show own_Qcg Z a Qa h0 n0 _ T16.heap _; rw [e16]; exact ⟨x, T4.heap, L4, rfl, N16, ((Keep.refl h0 [a]).trans K4 all0).trans K16 (fun x hx => Or.inl hx), E16, Fareas16, Q4, K16⟩) (by decide) (by decide)
set_option maxRecDepth 65536 in
set_option maxHeartbeats 8000000 in
theorem rmCe (l : Launch) (Z : State) (a0 : Array Value) (hw : own_T a0 Z) (ws : List Jvm.Cond) (h0 : Heap) (n0 : Nat) (de : Addr) (kd : ClassId) (el ea : Addr) (ka : ClassId) (em mr : Addr) (G : own_G Z de kd el ea ka em mr) (Od : Old Z n0 h0) (a rb fd ar : Addr) (d1 : UInt64) (g9 : n0 ≤ a) (E : Exa Z h0 a "com/example/zellwerk/zellwerk/model/Cell") (FsafeZ : Fld Z h0 a "com/example/zellwerk/zellwerk/model/Cell" "safeZ" "D" (.double 0)) (Frobots : Fld Z h0 a "com/example/zellwerk/zellwerk/model/Cell" "robots" "Ljava/util/List;" .null) (Ffeeders : Fld Z h0 a "com/example/zellwerk/zellwerk/model/Cell" "feeders" "Ljava/util/List;" .null) (Fareas : Fld Z h0 a "com/example/zellwerk/zellwerk/model/Cell" "areas" "Ljava/util/List;" .null) (FcoupleS : Fld Z h0 a "com/example/zellwerk/zellwerk/model/Cell" "coupleS" "D" (.double 0)) (Fgrippers : Fld Z h0 a "com/example/zellwerk/zellwerk/model/Cell" "grippers" "Ljava/util/List;" .null) (Fports : Fld Z h0 a "com/example/zellwerk/zellwerk/model/Cell" "ports" "Ljava/util/List;" .null) (Erb : Exa Z h0 rb "java/util/ArrayList") (Srb : Fld Z h0 rb "java/util/ArrayList" "size" "I" (.int (Int32.ofNat 0))) (Efd : Exa Z h0 fd "java/util/ArrayList") (Sfd : Fld Z h0 fd "java/util/ArrayList" "size" "I" (.int (Int32.ofNat 0))) (Qa : Option Value → Heap → List Loc → Prop) (HC : own_C l Z own_y49 jdk_40_method_48_code 1 (some (.object "java/util/List")) [] ({ frames := 8, cells := 3, slots := 10, locals := 180 } : Room) #[.ref ar] h0 Qa) (HQ : ∀ v h L, Qa v h L → ∃ x : Addr, v = some (.ref x) ∧ Fr n0 L ∧ Keep h0 h [])  :
    own_C l Z own_y1 prog_24_method_2_code 6 none ws ({ frames := 10, cells := 15, slots := 50, locals := 240 } : Room) #[(.ref a), (.double d1), (.ref rb), (.ref fd), (.ref ar)] h0 (own_Qcg Z a Qa h0 n0) := by
  refine own_body (ls := #[.val (.ref a), .val (.double d1), .second, .val (.ref rb), .val (.ref fd), .val (.ref ar)]) pn_5 (fun m => by first | (simp [entryFrame, mkF, argsToLocals, Value.category]; done) | rfl) ?_
  intro p e s m below meth c T0 hZ hx hby hml hown hnm hret hlk X0 e0
  replace hml : c.maxLocals = 6 := hml
  have N0 := Fr.nil n0
  refine own_go (fun _ => XS.aloadN X0.here hx rfl (hb hby d5_0) rfl rfl) ?_
  refine own_go (fun _ => XS.dloadN X0.here hx rfl (hb hby d5_1) rfl ) ?_
  refine own_go (fun _ => XS.aloadN X0.here hx rfl (hb hby d5_2) rfl rfl) ?_
  refine own_go (fun _ => XS.aload X0.here hx rfl (hb hby d5_3) rfl rfl) ?_
  refine own_go (fun _ => XS.aload X0.here hx rfl (hb hby d5_5) rfl rfl) ?_
  refine own_go (fun _ => XS.dconst0 X0.here hx rfl (hb hby d5_7) rfl) ?_
  show own_R _ _ _ _ T0 (mkF m 8 #[.val (.ref a), .val (.double d1), .second, .val (.ref rb), .val (.ref fd), .val (.ref ar)] [(.double FP.dconst0), (.ref ar), (.ref fd), (.ref rb), (.double d1), (.ref a)])
  obtain ⟨v1, T1, L1, X1, Q1, st1⟩ := own_callS X0 hx hZ hown (y := own_y52) (hw 32 rfl) (hw 33 rfl) (hw 34 rfl) (hw 35 rfl) (by decide) (rmLO l Z a0 hw [] h0 n0 de kd el ea ka em mr G Od) (W := 8) (g := (mkF m 8 #[.val (.ref a), .val (.double d1), .second, .val (.ref rb), .val (.ref fd), .val (.ref ar)] [(.double FP.dconst0), (.ref ar), (.ref fd), (.ref rb), (.double d1), (.ref a)])) rfl (by rw [hml]; rfl) (argsL := []) (rest := [(.double FP.dconst0), (.ref ar), (.ref fd), (.ref rb), (.double d1), (.ref a)]) (lenOf pd___Ljava_util_List_ rfl) rfl rfl (Nat.le_of_eq rfl) (hb hby d5_8) e0 (by decide) (by decide) (by decide) (by decide)
  obtain ⟨rfl, N1q, e1⟩ := Q1
  have N1 := Fr.app N0 N1q
  refine own_go st1 ?_
  show own_R _ _ _ _ T1 (mkF m 11 #[.val (.ref a), .val (.double d1), .second, .val (.ref rb), .val (.ref fd), .val (.ref ar)] [(.ref el), (.double FP.dconst0), (.ref ar), (.ref fd), (.ref rb), (.double d1), (.ref a)])
  obtain ⟨v2, T2, L2, X2, Q2, st2⟩ := own_callS X1 hx hZ hown (y := own_y52) (hw 32 rfl) (hw 33 rfl) (hw 34 rfl) (hw 35 rfl) (by decide) (rmLO l Z a0 hw [] h0 n0 de kd el ea ka em mr G Od) (W := 9) (g := (mkF m 11 #[.val (.ref a), .val (.double d1), .second, .val (.ref rb), .val (.ref fd), .val (.ref ar)] [(.ref el), (.double FP.dconst0), (.ref ar), (.ref fd), (.ref rb), (.double d1), (.ref a)])) rfl (by rw [hml]; rfl) (argsL := []) (rest := [(.ref el), (.double FP.dconst0), (.ref ar), (.ref fd), (.ref rb), (.double d1), (.ref a)]) (lenOf pd___Ljava_util_List_ rfl) rfl rfl (Nat.le_of_eq rfl) (hb hby d5_11) e1 (by decide) (by decide) (by decide) (by decide)
  obtain ⟨rfl, N2q, e2⟩ := Q2
  have N2 := Fr.app N1 N2q
  refine own_go st2 ?_
  show own_R _ _ _ _ T2 (mkF m 14 #[.val (.ref a), .val (.double d1), .second, .val (.ref rb), .val (.ref fd), .val (.ref ar)] [(.ref el), (.ref el), (.double FP.dconst0), (.ref ar), (.ref fd), (.ref rb), (.double d1), (.ref a)])
  obtain ⟨v3, T3, L3, X3, Q3, st3⟩ := own_callI X2 hx hZ hown (y := own_y2) rfl (hw 38 rfl) (hw 39 rfl) (hw 40 rfl) (hw 28 rfl) (by decide) (rmC7 l Z a0 hw [] h0 n0 de kd el ea ka em mr G Od a rb fd ar d1 g9 E FsafeZ Frobots Ffeeders Fareas FcoupleS Fgrippers Fports Erb Srb Efd Sfd Qa HC HQ) (W := 0) (g := (mkF m 14 #[.val (.ref a), .val (.double d1), .second, .val (.ref rb), .val (.ref fd), .val (.ref ar)] [(.ref el), (.ref el), (.double FP.dconst0), (.ref ar), (.ref fd), (.ref rb), (.double d1), (.ref a)])) rfl (by rw [hml]; rfl) (a := a) (argsL := [(.double d1), (.ref rb), (.ref fd), (.ref ar), (.double FP.dconst0), (.ref el), (.ref el)]) (rest := []) (lenOf pd__DLjava_util_List_Ljava_util_List_Ljava_util_List_DLjava_util_List_Ljava_util_List__V rfl) rfl rfl (Nat.le_of_eq rfl) (hb hby d5_14) e2 (by decide) (by decide) (by decide) (by decide)
  obtain ⟨x, h1, L1, rfl, N3q, q3⟩ := Q3
  have N3 := Fr.app N2 N3q
  refine own_go st3 ?_
  show own_R _ _ _ _ T3 (mkF m 17 #[.val (.ref a), .val (.double d1), .second, .val (.ref rb), .val (.ref fd), .val (.ref ar)] [])
  exact own_end X3 none (fun _ => rfl) hlk (fun fs hr => X3.returnOut hx hret (hb hby d5_17) hr) ⟨x, h1, L1, rfl, N3, q3⟩ (by decide) (by decide)
theorem d13_0 : decode prog_24_method_13_code 0 = .ok (.aload_n 0, 1) := by decide +kernel
theorem d13_1 : decode prog_24_method_13_code 1 = .ok (.getfield 26, 3) := by decide +kernel
theorem d13_4 : decode prog_24_method_13_code 4 = .ok (.areturn, 1) := by decide +kernel

theorem d44_0 : decode jdk_44_method_3_code 0 = .ok (.aload_n 0, 1) := by decide +kernel
theorem d44_1 : decode jdk_44_method_3_code 1 = .ok (.getfield 24, 3) := by decide +kernel
theorem d44_4 : decode jdk_44_method_3_code 4 = .ok (.getstatic 19, 3) := by decide +kernel
theorem d44_7 : decode jdk_44_method_3_code 7 = .ok (.if_acmp .eq 7, 3) := by decide +kernel
theorem d44_10 : decode jdk_44_method_3_code 10 = .ok (.iconst 2, 1) := by decide +kernel
theorem d44_11 : decode jdk_44_method_3_code 11 = .ok (.goto 4, 3) := by decide +kernel
theorem d44_14 : decode jdk_44_method_3_code 14 = .ok (.iconst 1, 1) := by decide +kernel
theorem d44_15 : decode jdk_44_method_3_code 15 = .ok (.ireturn, 1) := by decide +kernel

theorem d14_0 : decode jdk_45_method_3_code 0 = .ok (.aload_n 0, 1) := by decide +kernel
theorem d14_1 : decode jdk_45_method_3_code 1 = .ok (.getfield 7, 3) := by decide +kernel
theorem d14_4 : decode jdk_45_method_3_code 4 = .ok (.arraylength, 1) := by decide +kernel
theorem d14_5 : decode jdk_45_method_3_code 5 = .ok (.ireturn, 1) := by decide +kernel

theorem d45_0 : decode jdk_44_method_5_code 0 = .ok (.iload_n 1, 1) := by decide +kernel
theorem d45_1 : decode jdk_44_method_5_code 1 = .ok (.ifCond .ne 8, 3) := by decide +kernel
theorem d45_4 : decode jdk_44_method_5_code 4 = .ok (.aload_n 0, 1) := by decide +kernel
theorem d45_5 : decode jdk_44_method_5_code 5 = .ok (.getfield 13, 3) := by decide +kernel
theorem d45_8 : decode jdk_44_method_5_code 8 = .ok (.areturn, 1) := by decide +kernel
theorem d45_9 : decode jdk_44_method_5_code 9 = .ok (.iload_n 1, 1) := by decide +kernel
theorem d45_10 : decode jdk_44_method_5_code 10 = .ok (.iconst 1, 1) := by decide +kernel
theorem d45_11 : decode jdk_44_method_5_code 11 = .ok (.if_icmp .ne 18, 3) := by decide +kernel
theorem d45_14 : decode jdk_44_method_5_code 14 = .ok (.aload_n 0, 1) := by decide +kernel
theorem d45_15 : decode jdk_44_method_5_code 15 = .ok (.getfield 24, 3) := by decide +kernel
theorem d45_18 : decode jdk_44_method_5_code 18 = .ok (.getstatic 19, 3) := by decide +kernel
theorem d45_21 : decode jdk_44_method_5_code 21 = .ok (.if_acmp .eq 8, 3) := by decide +kernel
theorem d45_24 : decode jdk_44_method_5_code 24 = .ok (.aload_n 0, 1) := by decide +kernel
theorem d45_25 : decode jdk_44_method_5_code 25 = .ok (.getfield 24, 3) := by decide +kernel
theorem d45_28 : decode jdk_44_method_5_code 28 = .ok (.areturn, 1) := by decide +kernel

theorem d41_0 : decode jdk_45_method_4_code 0 = .ok (.aload_n 0, 1) := by decide +kernel
theorem d41_1 : decode jdk_45_method_4_code 1 = .ok (.getfield 7, 3) := by decide +kernel
theorem d41_4 : decode jdk_45_method_4_code 4 = .ok (.iload_n 1, 1) := by decide +kernel
theorem d41_5 : decode jdk_45_method_4_code 5 = .ok (.aaload, 1) := by decide +kernel
theorem d41_6 : decode jdk_45_method_4_code 6 = .ok (.areturn, 1) := by decide +kernel

theorem d19_0 : decode jdk_53_method_1_code 0 = .ok (.aload_n 0, 1) := by decide +kernel
theorem d19_1 : decode jdk_53_method_1_code 1 = .ok (.invokespecial 1, 3) := by decide +kernel
theorem d19_4 : decode jdk_53_method_1_code 4 = .ok (.aload_n 0, 1) := by decide +kernel
theorem d19_5 : decode jdk_53_method_1_code 5 = .ok (.aload_n 1, 1) := by decide +kernel
theorem d19_6 : decode jdk_53_method_1_code 6 = .ok (.putfield 7, 3) := by decide +kernel
theorem d19_9 : decode jdk_53_method_1_code 9 = .ok (.aload_n 0, 1) := by decide +kernel
theorem d19_10 : decode jdk_53_method_1_code 10 = .ok (.iload_n 2, 1) := by decide +kernel
theorem d19_11 : decode jdk_53_method_1_code 11 = .ok (.putfield 13, 3) := by decide +kernel
theorem d19_14 : decode jdk_53_method_1_code 14 = .ok (.aload_n 0, 1) := by decide +kernel
theorem d19_15 : decode jdk_53_method_1_code 15 = .ok (.iconst 0, 1) := by decide +kernel
theorem d19_16 : decode jdk_53_method_1_code 16 = .ok (.putfield 17, 3) := by decide +kernel
theorem d19_19 : decode jdk_53_method_1_code 19 = .ok (.aload_n 0, 1) := by decide +kernel
theorem d19_20 : decode jdk_53_method_1_code 20 = .ok (.iconst 0, 1) := by decide +kernel
theorem d19_21 : decode jdk_53_method_1_code 21 = .ok (.putfield 20, 3) := by decide +kernel
theorem d19_24 : decode jdk_53_method_1_code 24 = .ok (.return_, 1) := by decide +kernel

theorem d20_0 : decode jdk_53_method_3_code 0 = .ok (.aload_n 0, 1) := by decide +kernel
theorem d20_1 : decode jdk_53_method_3_code 1 = .ok (.getfield 17, 3) := by decide +kernel
theorem d20_4 : decode jdk_53_method_3_code 4 = .ok (.aload_n 0, 1) := by decide +kernel
theorem d20_5 : decode jdk_53_method_3_code 5 = .ok (.getfield 13, 3) := by decide +kernel
theorem d20_8 : decode jdk_53_method_3_code 8 = .ok (.if_icmp .eq 7, 3) := by decide +kernel
theorem d20_11 : decode jdk_53_method_3_code 11 = .ok (.iconst 1, 1) := by decide +kernel
theorem d20_12 : decode jdk_53_method_3_code 12 = .ok (.goto 4, 3) := by decide +kernel
theorem d20_15 : decode jdk_53_method_3_code 15 = .ok (.iconst 0, 1) := by decide +kernel
theorem d20_16 : decode jdk_53_method_3_code 16 = .ok (.ireturn, 1) := by decide +kernel

theorem d18_0 : decode jdk_46_method_10_code 0 = .ok (.new 61, 3) := by decide +kernel
theorem d18_3 : decode jdk_46_method_10_code 3 = .ok (.dup, 1) := by decide +kernel
theorem d18_4 : decode jdk_46_method_10_code 4 = .ok (.aload_n 0, 1) := by decide +kernel
theorem d18_5 : decode jdk_46_method_10_code 5 = .ok (.aload_n 0, 1) := by decide +kernel
theorem d18_6 : decode jdk_46_method_10_code 6 = .ok (.invokevirtual 13, 3) := by decide +kernel
theorem d18_9 : decode jdk_46_method_10_code 9 = .ok (.invokespecial 63, 3) := by decide +kernel
theorem d18_12 : decode jdk_46_method_10_code 12 = .ok (.areturn, 1) := by decide +kernel

theorem d42_0 : decode prog_48_method_12_code 0 = .ok (.aload_n 0, 1) := by decide +kernel
theorem d42_1 : decode prog_48_method_12_code 1 = .ok (.getfield 10, 3) := by decide +kernel
theorem d42_4 : decode prog_48_method_12_code 4 = .ok (.new 7, 3) := by decide +kernel
theorem d42_7 : decode prog_48_method_12_code 7 = .ok (.dup, 1) := by decide +kernel
theorem d42_8 : decode prog_48_method_12_code 8 = .ok (.invokespecial 9, 3) := by decide +kernel
theorem d42_11 : decode prog_48_method_12_code 11 = .ok (.invokeinterface 114 2, 5) := by decide +kernel
theorem d42_16 : decode prog_48_method_12_code 16 = .ok (.pop, 1) := by decide +kernel
theorem d42_17 : decode prog_48_method_12_code 17 = .ok (.return_, 1) := by decide +kernel

theorem d16_0 : decode jdk_27_method_2_code 0 = .ok (.aload_n 1, 1) := by decide +kernel
theorem d16_1 : decode jdk_27_method_2_code 1 = .ok (.invokestatic 1, 3) := by decide +kernel
theorem d16_4 : decode jdk_27_method_2_code 4 = .ok (.pop, 1) := by decide +kernel
theorem d16_5 : decode jdk_27_method_2_code 5 = .ok (.aload_n 0, 1) := by decide +kernel
theorem d16_6 : decode jdk_27_method_2_code 6 = .ok (.invokeinterface 7 1, 5) := by decide +kernel
theorem d16_11 : decode jdk_27_method_2_code 11 = .ok (.astore_n 2, 1) := by decide +kernel
theorem d16_12 : decode jdk_27_method_2_code 12 = .ok (.aload_n 2, 1) := by decide +kernel
theorem d16_13 : decode jdk_27_method_2_code 13 = .ok (.invokeinterface 13 1, 5) := by decide +kernel
theorem d16_18 : decode jdk_27_method_2_code 18 = .ok (.ifCond .eq 20, 3) := by decide +kernel
theorem d16_21 : decode jdk_27_method_2_code 21 = .ok (.aload_n 2, 1) := by decide +kernel
theorem d16_22 : decode jdk_27_method_2_code 22 = .ok (.invokeinterface 19 1, 5) := by decide +kernel
theorem d16_27 : decode jdk_27_method_2_code 27 = .ok (.astore_n 3, 1) := by decide +kernel
theorem d16_28 : decode jdk_27_method_2_code 28 = .ok (.aload_n 1, 1) := by decide +kernel
theorem d16_29 : decode jdk_27_method_2_code 29 = .ok (.aload_n 3, 1) := by decide +kernel
theorem d16_30 : decode jdk_27_method_2_code 30 = .ok (.invokeinterface 23 2, 5) := by decide +kernel
theorem d16_35 : decode jdk_27_method_2_code 35 = .ok (.goto (-23), 3) := by decide +kernel
theorem d16_38 : decode jdk_27_method_2_code 38 = .ok (.return_, 1) := by decide +kernel

theorem d15_0 : decode jdk_65_method_103_code 0 = .ok (.iconst 0, 1) := by decide +kernel
theorem d15_1 : decode jdk_65_method_103_code 1 = .ok (.istore_n 2, 1) := by decide +kernel
theorem d15_2 : decode jdk_65_method_103_code 2 = .ok (.aload_n 0, 1) := by decide +kernel
theorem d15_3 : decode jdk_65_method_103_code 3 = .ok (.arraylength, 1) := by decide +kernel
theorem d15_4 : decode jdk_65_method_103_code 4 = .ok (.istore_n 3, 1) := by decide +kernel
theorem d15_5 : decode jdk_65_method_103_code 5 = .ok (.iload_n 2, 1) := by decide +kernel
theorem d15_6 : decode jdk_65_method_103_code 6 = .ok (.iload_n 3, 1) := by decide +kernel
theorem d15_7 : decode jdk_65_method_103_code 7 = .ok (.if_icmp .ge 13, 3) := by decide +kernel
theorem d15_10 : decode jdk_65_method_103_code 10 = .ok (.aload_n 0, 1) := by decide +kernel
theorem d15_11 : decode jdk_65_method_103_code 11 = .ok (.iload_n 2, 1) := by decide +kernel
theorem d15_12 : decode jdk_65_method_103_code 12 = .ok (.iload_n 1, 1) := by decide +kernel
theorem d15_13 : decode jdk_65_method_103_code 13 = .ok (.iastore, 1) := by decide +kernel
theorem d15_14 : decode jdk_65_method_103_code 14 = .ok (.iinc 2 1, 3) := by decide +kernel
theorem d15_17 : decode jdk_65_method_103_code 17 = .ok (.goto (-12), 3) := by decide +kernel
theorem d15_20 : decode jdk_65_method_103_code 20 = .ok (.return_, 1) := by decide +kernel

theorem d12_0 : decode prog_48_method_1_code 0 = .ok (.aload_n 0, 1) := by decide +kernel
theorem d12_1 : decode prog_48_method_1_code 1 = .ok (.invokespecial 1, 3) := by decide +kernel
theorem d12_4 : decode prog_48_method_1_code 4 = .ok (.aload_n 0, 1) := by decide +kernel
theorem d12_5 : decode prog_48_method_1_code 5 = .ok (.new 7, 3) := by decide +kernel
theorem d12_8 : decode prog_48_method_1_code 8 = .ok (.dup, 1) := by decide +kernel
theorem d12_9 : decode prog_48_method_1_code 9 = .ok (.invokespecial 9, 3) := by decide +kernel
theorem d12_12 : decode prog_48_method_1_code 12 = .ok (.putfield 10, 3) := by decide +kernel
theorem d12_15 : decode prog_48_method_1_code 15 = .ok (.aload_n 0, 1) := by decide +kernel
theorem d12_16 : decode prog_48_method_1_code 16 = .ok (.aload_n 1, 1) := by decide +kernel
theorem d12_17 : decode prog_48_method_1_code 17 = .ok (.putfield 16, 3) := by decide +kernel
theorem d12_20 : decode prog_48_method_1_code 20 = .ok (.aload_n 0, 1) := by decide +kernel
theorem d12_21 : decode prog_48_method_1_code 21 = .ok (.aload_n 1, 1) := by decide +kernel
theorem d12_22 : decode prog_48_method_1_code 22 = .ok (.invokevirtual 20, 3) := by decide +kernel
theorem d12_25 : decode prog_48_method_1_code 25 = .ok (.invokeinterface 26 1, 5) := by decide +kernel
theorem d12_30 : decode prog_48_method_1_code 30 = .ok (.newarray .int, 2) := by decide +kernel
theorem d12_32 : decode prog_48_method_1_code 32 = .ok (.putfield 32, 3) := by decide +kernel
theorem d12_35 : decode prog_48_method_1_code 35 = .ok (.aload_n 0, 1) := by decide +kernel
theorem d12_36 : decode prog_48_method_1_code 36 = .ok (.aload_n 1, 1) := by decide +kernel
theorem d12_37 : decode prog_48_method_1_code 37 = .ok (.invokevirtual 20, 3) := by decide +kernel
theorem d12_40 : decode prog_48_method_1_code 40 = .ok (.invokeinterface 26 1, 5) := by decide +kernel
theorem d12_45 : decode prog_48_method_1_code 45 = .ok (.newarray .double, 2) := by decide +kernel
theorem d12_47 : decode prog_48_method_1_code 47 = .ok (.putfield 36, 3) := by decide +kernel
theorem d12_50 : decode prog_48_method_1_code 50 = .ok (.aload_n 0, 1) := by decide +kernel
theorem d12_51 : decode prog_48_method_1_code 51 = .ok (.aload_n 1, 1) := by decide +kernel
theorem d12_52 : decode prog_48_method_1_code 52 = .ok (.invokevirtual 20, 3) := by decide +kernel
theorem d12_55 : decode prog_48_method_1_code 55 = .ok (.invokeinterface 26 1, 5) := by decide +kernel
theorem d12_60 : decode prog_48_method_1_code 60 = .ok (.newarray .double, 2) := by decide +kernel
theorem d12_62 : decode prog_48_method_1_code 62 = .ok (.putfield 40, 3) := by decide +kernel
theorem d12_65 : decode prog_48_method_1_code 65 = .ok (.aload_n 0, 1) := by decide +kernel
theorem d12_66 : decode prog_48_method_1_code 66 = .ok (.getfield 32, 3) := by decide +kernel
theorem d12_69 : decode prog_48_method_1_code 69 = .ok (.iconst (-1), 1) := by decide +kernel
theorem d12_70 : decode prog_48_method_1_code 70 = .ok (.invokestatic 43, 3) := by decide +kernel
theorem d12_73 : decode prog_48_method_1_code 73 = .ok (.aload_n 1, 1) := by decide +kernel
theorem d12_74 : decode prog_48_method_1_code 74 = .ok (.invokevirtual 20, 3) := by decide +kernel
theorem d12_77 : decode prog_48_method_1_code 77 = .ok (.aload_n 0, 1) := by decide +kernel
theorem d12_78 : decode prog_48_method_1_code 78 = .ok (.invokedynamic 49, 5) := by decide +kernel
theorem d12_83 : decode prog_48_method_1_code 83 = .ok (.invokeinterface 53 2, 5) := by decide +kernel
theorem d12_88 : decode prog_48_method_1_code 88 = .ok (.return_, 1) := by decide +kernel

theorem d21_0 : decode prog_48_method_2_code 0 = .ok (.aload_n 0, 1) := by decide +kernel
theorem d21_1 : decode prog_48_method_2_code 1 = .ok (.getfield 36, 3) := by decide +kernel
theorem d21_4 : decode prog_48_method_2_code 4 = .ok (.arraylength, 1) := by decide +kernel
theorem d21_5 : decode prog_48_method_2_code 5 = .ok (.ifCond .le 7, 3) := by decide +kernel
theorem d21_8 : decode prog_48_method_2_code 8 = .ok (.iconst 1, 1) := by decide +kernel
theorem d21_9 : decode prog_48_method_2_code 9 = .ok (.goto 4, 3) := by decide +kernel
theorem d21_12 : decode prog_48_method_2_code 12 = .ok (.iconst 0, 1) := by decide +kernel
theorem d21_13 : decode prog_48_method_2_code 13 = .ok (.ireturn, 1) := by decide +kernel

theorem d90_0 : decode jdk_53_method_4_code 0 = .ok (.aload_n 0, 1) := by decide +kernel
theorem d90_1 : decode jdk_53_method_4_code 1 = .ok (.getfield 17, 3) := by decide +kernel
theorem d90_4 : decode jdk_53_method_4_code 4 = .ok (.istore_n 1, 1) := by decide +kernel
theorem d90_5 : decode jdk_53_method_4_code 5 = .ok (.aload_n 0, 1) := by decide +kernel
theorem d90_6 : decode jdk_53_method_4_code 6 = .ok (.getfield 7, 3) := by decide +kernel
theorem d90_9 : decode jdk_53_method_4_code 9 = .ok (.iload_n 1, 1) := by decide +kernel
theorem d90_10 : decode jdk_53_method_4_code 10 = .ok (.invokeinterface 24 2, 5) := by decide +kernel
theorem d90_15 : decode jdk_53_method_4_code 15 = .ok (.astore_n 2, 1) := by decide +kernel
theorem d90_16 : decode jdk_53_method_4_code 16 = .ok (.aload_n 0, 1) := by decide +kernel
theorem d90_17 : decode jdk_53_method_4_code 17 = .ok (.iload_n 1, 1) := by decide +kernel
theorem d90_18 : decode jdk_53_method_4_code 18 = .ok (.iconst 1, 1) := by decide +kernel
theorem d90_19 : decode jdk_53_method_4_code 19 = .ok (.iadd, 1) := by decide +kernel
theorem d90_20 : decode jdk_53_method_4_code 20 = .ok (.putfield 17, 3) := by decide +kernel
theorem d90_23 : decode jdk_53_method_4_code 23 = .ok (.aload_n 2, 1) := by decide +kernel
theorem d90_24 : decode jdk_53_method_4_code 24 = .ok (.areturn, 1) := by decide +kernel

theorem pn_13 : plainFor own_y3 = true := by first | exact plainFor_of_name (by first | (simp [plainName, overriddenIn]; done) | decide +kernel) | decide +kernel

theorem pn_44 : plainFor own_y39 = true := by first | exact plainFor_of_name (by first | (simp [plainName, overriddenIn]; done) | decide +kernel) | decide +kernel

theorem pn_14 : plainFor own_y45 = true := by first | exact plainFor_of_name (by first | (simp [plainName, overriddenIn]; done) | decide +kernel) | decide +kernel

theorem pn_45 : plainFor own_y38 = true := by first | exact plainFor_of_name (by first | (simp [plainName, overriddenIn]; done) | decide +kernel) | decide +kernel

theorem pn_41 : plainFor own_y44 = true := by first | exact plainFor_of_name (by first | (simp [plainName, overriddenIn]; done) | decide +kernel) | decide +kernel

theorem pn_19 : plainFor own_y40 = true := by first | exact plainFor_of_name (by first | (simp [plainName, overriddenIn]; done) | decide +kernel) | decide +kernel

theorem pn_20 : plainFor own_y41 = true := by first | exact plainFor_of_name (by first | (simp [plainName, overriddenIn]; done) | decide +kernel) | decide +kernel

theorem pn_18 : plainFor own_y34 = true := by first | exact plainFor_of_name (by first | (simp [plainName, overriddenIn]; done) | decide +kernel) | decide +kernel

theorem pn_42 : plainFor own_y6 = true := by first | exact plainFor_of_name (by first | (simp [plainName, overriddenIn]; done) | decide +kernel) | decide +kernel

theorem pn_15 : plainFor own_y27 = true := by first | exact plainFor_of_name (by first | (simp [plainName, overriddenIn]; done) | decide +kernel) | decide +kernel

theorem pn_12 : plainFor own_y4 = true := by first | exact plainFor_of_name (by first | (simp [plainName, overriddenIn]; done) | decide +kernel) | decide +kernel

theorem pn_21 : plainFor own_y5 = true := by first | exact plainFor_of_name (by first | (simp [plainName, overriddenIn]; done) | decide +kernel) | decide +kernel

theorem pd___I : parseMethodDescriptor "()I" = some ⟨[], some .int⟩ := by decide +kernel
theorem pd__I_Ljava_lang_Object_ : parseMethodDescriptor "(I)Ljava/lang/Object;" = some ⟨[.int], some (.object "java/lang/Object")⟩ := by decide +kernel
theorem pd__Ljava_util_List_I_V : parseMethodDescriptor "(Ljava/util/List;I)V" = some ⟨[(.object "java/util/List"), .int], none⟩ := by decide +kernel
theorem pd___Ljava_util_Iterator_ : parseMethodDescriptor "()Ljava/util/Iterator;" = some ⟨[], some (.object "java/util/Iterator")⟩ := by decide +kernel
theorem pd__Ljava_util_function_Consumer__V : parseMethodDescriptor "(Ljava/util/function/Consumer;)V" = some ⟨[(.object "java/util/function/Consumer")], none⟩ := by decide +kernel
theorem pd___II_V : parseMethodDescriptor "([II)V" = some ⟨[(.array .int), .int], none⟩ := by decide +kernel
theorem pd__Lcom_example_zellwerk_zellwerk_model_Cell__V : parseMethodDescriptor "(Lcom/example/zellwerk/zellwerk/model/Cell;)V" = some ⟨[(.object "com/example/zellwerk/zellwerk/model/Cell")], none⟩ := by decide +kernel

set_option maxRecDepth 65536 in
set_option maxHeartbeats 4000000 in
theorem rmCA (l : Launch) (Z : State) (a0 : Array Value) (hw : own_T a0 Z) (ws : List Jvm.Cond) (h0 : Heap) (n0 : Nat) (a x : Addr) (F : Fld Z h0 a "com/example/zellwerk/zellwerk/model/Cell" "areas" "Ljava/util/List;" (.ref x)) :
    own_C l Z own_y3 prog_24_method_13_code 1 (some (.object "java/util/List")) ws ({ frames := 0, cells := 0, slots := 0, locals := 0 } : Room) #[(.ref a)] h0 (own_Qr (some (.ref x)) h0 n0) := by
  refine own_body (ls := #[.val (.ref a)]) pn_13 (fun m => by first | (simp [entryFrame, mkF, argsToLocals, Value.category]; done) | rfl) ?_
  intro p e s m below meth c T0 hZ hx hby hml hown hnm hret hlk X0 e0
  replace hml : c.maxLocals = 1 := hml
  have N0 := Fr.nil n0
  refine own_go (fun _ => XS.aloadN X0.here hx rfl (hb hby d13_0) rfl rfl) ?_
  show own_R _ _ _ _ T0 (mkF m 1 #[.val (.ref a)] [(.ref a)])
  obtain ⟨T1, X1, e1, st1⟩ := getF X0 hx hZ hown (host := "") (Or.inl (hw 85 rfl)) Via.refl e0 F (g := (mkF m 1 #[.val (.ref a)] [(.ref a)])) rfl rfl (hb hby d13_1)
  refine own_go st1 ?_
  show own_R _ _ _ _ T1 (mkF m 4 #[.val (.ref a)] [(.ref x)])
  exact own_end X1 (some (.ref x)) (fun h => by rw [hret] at h; cases h) hlk (fun fs hr => own_retA X1 hx hret rfl rfl (hb hby d13_4) hr) ⟨rfl, N0, e1⟩ (by decide) (by decide)
set_option maxRecDepth 65536 in
set_option maxHeartbeats 4000000 in
theorem rmS1 (l : Launch) (Z : State) (a0 : Array Value) (hw : own_T a0 Z) (ws : List Jvm.Cond) (h0 : Heap) (n0 : Nat) (de : Addr) (kd : ClassId) (el ea : Addr) (ka : ClassId) (em mr : Addr) (G : own_G Z de kd el ea ka em mr) (Od : Old Z n0 h0) (x y0 y1 : Addr) (I : own_I12 Z h0 x y0 y1) (q : y1 = em) :
    own_C l Z own_y39 jdk_44_method_3_code 1 (some .int) ws ({ frames := 0, cells := 0, slots := 0, locals := 0 } : Room) #[(.ref x)] h0 (own_Qr (some (.int (Int32.ofNat 1))) h0 n0) := by
  refine own_body (ls := #[.val (.ref x)]) pn_44 (fun m => by first | (simp [entryFrame, mkF, argsToLocals, Value.category]; done) | rfl) ?_
  intro p e s m below meth c T0 hZ hx hby hml hown hnm hret hlk X0 e0
  replace hml : c.maxLocals = 1 := hml
  have N0 := Fr.nil n0
  refine own_go (fun _ => XS.aloadN X0.here hx rfl (hb hby d44_0) rfl rfl) ?_
  show own_R _ _ _ _ T0 (mkF m 1 #[.val (.ref x)] [(.ref x)])
  obtain ⟨T1, X1, e1, st1⟩ := getF X0 hx hZ hown (host := "") (Or.inl (hw 363 rfl)) Via.refl e0 I.2.2 (g := (mkF m 1 #[.val (.ref x)] [(.ref x)])) rfl rfl (hb hby d44_1)
  refine own_go st1 ?_
  show own_R _ _ _ _ T1 (mkF m 4 #[.val (.ref x)] [(.ref y1)])
  obtain ⟨T2, X2, e2, st2⟩ := getS2 X1 hx hZ hown (Or.inr (hw 371 rfl)) Via.refl e1 (G.2.2.2.2.2.2.2.1.ext Od.2) (g := (mkF m 4 #[.val (.ref x)] [(.ref y1)])) rfl (hb hby d44_4)
  refine own_go st2 ?_
  show own_R _ _ _ _ T2 (mkF m 7 #[.val (.ref x)] [(.ref em), (.ref y1)])
  refine own_go (fun _ => Jvm.RoadKit.acmp (g := (mkF m 7 #[.val (.ref x)] [(.ref em), (.ref y1)])) X2 hx rfl rfl rfl (pc0 := 7) (pc' := 14) (same := true) rfl (hb hby d44_7) rfl (decide_eq_true (by rw [q])) (by decide) (by decide)) ?_
  show own_R _ _ _ _ T2 (mkF m 14 #[.val (.ref x)] [])
  refine own_go (fun _ => XS.iconst X2.here hx rfl (hb hby d44_14)) ?_
  show own_R _ _ _ _ T2 (mkF m 15 #[.val (.ref x)] [(.int (1 : Int32))])
  exact own_end X2 (some (.int (1 : Int32))) (fun h => by rw [hret] at h; cases h) hlk (fun fs hr => own_retI X2 hx hret (hb hby d44_15) hr) ⟨rfl, N0, e2⟩ (by decide) (by decide)
set_option maxRecDepth 65536 in
set_option maxHeartbeats 4000000 in
theorem rmS2 (l : Launch) (Z : State) (a0 : Array Value) (hw : own_T a0 Z) (ws : List Jvm.Cond) (h0 : Heap) (n0 : Nat) (de : Addr) (kd : ClassId) (el ea : Addr) (ka : ClassId) (em mr : Addr) (G : own_G Z de kd el ea ka em mr) (Od : Old Z n0 h0) (x y0 y1 : Addr) (I : own_I12 Z h0 x y0 y1) (q : y1 ≠ em) :
    own_C l Z own_y39 jdk_44_method_3_code 1 (some .int) ws ({ frames := 0, cells := 0, slots := 0, locals := 0 } : Room) #[(.ref x)] h0 (own_Qr (some (.int (Int32.ofNat 2))) h0 n0) := by
  refine own_body (ls := #[.val (.ref x)]) pn_44 (fun m => by first | (simp [entryFrame, mkF, argsToLocals, Value.category]; done) | rfl) ?_
  intro p e s m below meth c T0 hZ hx hby hml hown hnm hret hlk X0 e0
  replace hml : c.maxLocals = 1 := hml
  have N0 := Fr.nil n0
  refine own_go (fun _ => XS.aloadN X0.here hx rfl (hb hby d44_0) rfl rfl) ?_
  show own_R _ _ _ _ T0 (mkF m 1 #[.val (.ref x)] [(.ref x)])
  obtain ⟨T1, X1, e1, st1⟩ := getF X0 hx hZ hown (host := "") (Or.inl (hw 363 rfl)) Via.refl e0 I.2.2 (g := (mkF m 1 #[.val (.ref x)] [(.ref x)])) rfl rfl (hb hby d44_1)
  refine own_go st1 ?_
  show own_R _ _ _ _ T1 (mkF m 4 #[.val (.ref x)] [(.ref y1)])
  obtain ⟨T2, X2, e2, st2⟩ := getS2 X1 hx hZ hown (Or.inr (hw 371 rfl)) Via.refl e1 (G.2.2.2.2.2.2.2.1.ext Od.2) (g := (mkF m 4 #[.val (.ref x)] [(.ref y1)])) rfl (hb hby d44_4)
  refine own_go st2 ?_
  show own_R _ _ _ _ T2 (mkF m 7 #[.val (.ref x)] [(.ref em), (.ref y1)])
  refine own_go (fun _ => Jvm.RoadKit.acmp (g := (mkF m 7 #[.val (.ref x)] [(.ref em), (.ref y1)])) X2 hx rfl rfl rfl (pc0 := 7) (pc' := 10) (same := false) rfl (hb hby d44_7) rfl (decide_eq_false (fun z => q (by cases z; rfl))) (by decide) (by decide)) ?_
  show own_R _ _ _ _ T2 (mkF m 10 #[.val (.ref x)] [])
  refine own_go (fun _ => XS.iconst X2.here hx rfl (hb hby d44_10)) ?_
  refine own_go (fun _ => XS.goto X2.here hx rfl (pc0 := 11) (pc' := 15) rfl (hb hby d44_11) (by decide) (by decide)) ?_
  show own_R _ _ _ _ T2 (mkF m 15 #[.val (.ref x)] [(.int (2 : Int32))])
  exact own_end X2 (some (.int (2 : Int32))) (fun h => by rw [hret] at h; cases h) hlk (fun fs hr => own_retI X2 hx hret (hb hby d44_15) hr) ⟨rfl, N0, e2⟩ (by decide) (by decide)
set_option maxRecDepth 65536 in
set_option maxHeartbeats 4000000 in
theorem rmSN (l : Launch) (Z : State) (a0 : Array Value) (hw : own_T a0 Z) (ws : List Jvm.Cond) (h0 : Heap) (n0 : Nat) (x xa : Addr) (k : ClassId) (nn : Int32) (vs : List Value) (I : own_IN Z h0 x xa k nn vs)  :
    own_C l Z own_y45 jdk_45_method_3_code 1 (some .int) ws ({ frames := 0, cells := 0, slots := 0, locals := 0 } : Room) #[(.ref x)] h0 (own_Qr (some (.int nn)) h0 n0) := by
  refine own_body (ls := #[.val (.ref x)]) pn_14 (fun m => by first | (simp [entryFrame, mkF, argsToLocals, Value.category]; done) | rfl) ?_
  intro p e s m below meth c T0 hZ hx hby hml hown hnm hret hlk X0 e0
  replace hml : c.maxLocals = 1 := hml
  have N0 := Fr.nil n0
  refine own_go (fun _ => XS.aloadN X0.here hx rfl (hb hby d14_0) rfl rfl) ?_
  show own_R _ _ _ _ T0 (mkF m 1 #[.val (.ref x)] [(.ref x)])
  obtain ⟨T1, X1, e1, st1⟩ := getF X0 hx hZ hown (host := "") (Or.inl (hw 120 rfl)) Via.refl e0 I.2.1 (g := (mkF m 1 #[.val (.ref x)] [(.ref x)])) rfl rfl (hb hby d14_1)
  refine own_go st1 ?_
  show own_R _ _ _ _ T1 (mkF m 4 #[.val (.ref x)] [(.ref xa)])
  refine own_go (own_len X1 hx hZ e1 I.2.2 (g := (mkF m 4 #[.val (.ref x)] [(.ref xa)])) rfl rfl (hb hby d14_4)) ?_
  show own_R _ _ _ _ T1 (mkF m 5 #[.val (.ref x)] [(.int nn)])
  exact own_end X1 (some (.int nn)) (fun h => by rw [hret] at h; cases h) hlk (fun fs hr => own_retI X1 hx hret (hb hby d14_5) hr) ⟨rfl, N0, e1⟩ (by decide) (by decide)
set_option maxRecDepth 65536 in
set_option maxHeartbeats 4000000 in
theorem rmG12_0 (l : Launch) (Z : State) (a0 : Array Value) (hw : own_T a0 Z) (ws : List Jvm.Cond) (h0 : Heap) (n0 : Nat) (x y0 y1 : Addr) (I : own_I12 Z h0 x y0 y1)  :
    own_C l Z own_y38 jdk_44_method_5_code 2 (some (.object "java/lang/Object")) ws ({ frames := 0, cells := 0, slots := 0, locals := 0 } : Room) #[(.ref x), (.int (Int32.ofNat 0))] h0 (own_Qr (some (.ref y0)) h0 n0) := by
  refine own_body (ls := #[.val (.ref x), .val (.int (Int32.ofNat 0))]) pn_45 (fun m => by first | (simp [entryFrame, mkF, argsToLocals, Value.category]; done) | rfl) ?_
  intro p e s m below meth c T0 hZ hx hby hml hown hnm hret hlk X0 e0
  replace hml : c.maxLocals = 2 := hml
  have N0 := Fr.nil n0
  refine own_go (fun _ => XS.iloadN X0.here hx rfl (hb hby d45_0) rfl ) ?_
  show own_R _ _ _ _ T0 (mkF m 1 #[.val (.ref x), .val (.int (Int32.ofNat 0))] [(.int (Int32.ofNat 0))])
  refine own_go (fun _ => XS.ifNo X0.here hx rfl (hb hby d45_1) rfl ((if0 _ _).trans (teq (rfl : (Int32.ofNat 0) = (0 : Int32))).2)) ?_
  show own_R _ _ _ _ T0 (mkF m 4 #[.val (.ref x), .val (.int (Int32.ofNat 0))] [])
  refine own_go (fun _ => XS.aloadN X0.here hx rfl (hb hby d45_4) rfl rfl) ?_
  show own_R _ _ _ _ T0 (mkF m 5 #[.val (.ref x), .val (.int (Int32.ofNat 0))] [(.ref x)])
  obtain ⟨T1, X1, e1, st1⟩ := getF X0 hx hZ hown (host := "") (Or.inl (hw 361 rfl)) Via.refl e0 I.2.1 (g := (mkF m 5 #[.val (.ref x), .val (.int (Int32.ofNat 0))] [(.ref x)])) rfl rfl (hb hby d45_5)
  refine own_go st1 ?_
  show own_R _ _ _ _ T1 (mkF m 8 #[.val (.ref x), .val (.int (Int32.ofNat 0))] [(.ref y0)])
  exact own_end X1 (some (.ref y0)) (fun h => by rw [hret] at h; cases h) hlk (fun fs hr => own_retA X1 hx hret rfl rfl (hb hby d45_8) hr) ⟨rfl, N0, e1⟩ (by decide) (by decide)
set_option maxRecDepth 65536 in
set_option maxHeartbeats 4000000 in
theorem rmG12_1 (l : Launch) (Z : State) (a0 : Array Value) (hw : own_T a0 Z) (ws : List Jvm.Cond) (h0 : Heap) (n0 : Nat) (de : Addr) (kd : ClassId) (el ea : Addr) (ka : ClassId) (em mr : Addr) (G : own_G Z de kd el ea ka em mr) (Od : Old Z n0 h0) (x y0 y1 : Addr) (I : own_I12 Z h0 x y0 y1) (q : y1 ≠ em) :
    own_C l Z own_y38 jdk_44_method_5_code 2 (some (.object "java/lang/Object")) ws ({ frames := 0, cells := 0, slots := 0, locals := 0 } : Room) #[(.ref x), (.int (Int32.ofNat 1))] h0 (own_Qr (some (.ref y1)) h0 n0) := by
  refine own_body (ls := #[.val (.ref x), .val (.int (Int32.ofNat 1))]) pn_45 (fun m => by first | (simp [entryFrame, mkF, argsToLocals, Value.category]; done) | rfl) ?_
  intro p e s m below meth c T0 hZ hx hby hml hown hnm hret hlk X0 e0
  replace hml : c.maxLocals = 2 := hml
  have N0 := Fr.nil n0
  refine own_go (fun _ => XS.iloadN X0.here hx rfl (hb hby d45_0) rfl ) ?_
  show own_R _ _ _ _ T0 (mkF m 1 #[.val (.ref x), .val (.int (Int32.ofNat 1))] [(.int (Int32.ofNat 1))])
  refine own_go (fun _ => XS.ifYes X0.here hx rfl (pc0 := 1) (pc' := 9) rfl (hb hby d45_1) rfl ((if0 _ _).trans (feq (by decide : ¬ ((Int32.ofNat 1) = (0 : Int32)))).2) (by decide) (by decide)) ?_
  show own_R _ _ _ _ T0 (mkF m 9 #[.val (.ref x), .val (.int (Int32.ofNat 1))] [])
  refine own_go (fun _ => XS.iloadN X0.here hx rfl (hb hby d45_9) rfl ) ?_
  refine own_go (fun _ => XS.iconst X0.here hx rfl (hb hby d45_10)) ?_
  show own_R _ _ _ _ T0 (mkF m 11 #[.val (.ref x), .val (.int (Int32.ofNat 1))] [(.int (1 : Int32)), (.int (Int32.ofNat 1))])
  refine own_go (fun _ => XS.icmpNo X0.here hx rfl (hb hby d45_11) rfl (teq (rfl : (Int32.ofNat 1) = (1 : Int32))).2) ?_
  show own_R _ _ _ _ T0 (mkF m 14 #[.val (.ref x), .val (.int (Int32.ofNat 1))] [])
  refine own_go (fun _ => XS.aloadN X0.here hx rfl (hb hby d45_14) rfl rfl) ?_
  show own_R _ _ _ _ T0 (mkF m 15 #[.val (.ref x), .val (.int (Int32.ofNat 1))] [(.ref x)])
  obtain ⟨T1, X1, e1, st1⟩ := getF X0 hx hZ hown (host := "") (Or.inl (hw 363 rfl)) Via.refl e0 I.2.2 (g := (mkF m 15 #[.val (.ref x), .val (.int (Int32.ofNat 1))] [(.ref x)])) rfl rfl (hb hby d45_15)
  refine own_go st1 ?_
  show own_R _ _ _ _ T1 (mkF m 18 #[.val (.ref x), .val (.int (Int32.ofNat 1))] [(.ref y1)])
  obtain ⟨T2, X2, e2, st2⟩ := getS2 X1 hx hZ hown (Or.inr (hw 371 rfl)) Via.refl e1 (G.2.2.2.2.2.2.2.1.ext Od.2) (g := (mkF m 18 #[.val (.ref x), .val (.int (Int32.ofNat 1))] [(.ref y1)])) rfl (hb hby d45_18)
  refine own_go st2 ?_
  show own_R _ _ _ _ T2 (mkF m 21 #[.val (.ref x), .val (.int (Int32.ofNat 1))] [(.ref em), (.ref y1)])
  refine own_go (fun _ => Jvm.RoadKit.acmp (g := (mkF m 21 #[.val (.ref x), .val (.int (Int32.ofNat 1))] [(.ref em), (.ref y1)])) X2 hx rfl rfl rfl (pc0 := 21) (pc' := 24) (same := false) rfl (hb hby d45_21) rfl (decide_eq_false (fun z => q (by cases z; rfl))) (by decide) (by decide)) ?_
  show own_R _ _ _ _ T2 (mkF m 24 #[.val (.ref x), .val (.int (Int32.ofNat 1))] [])
  refine own_go (fun _ => XS.aloadN X2.here hx rfl (hb hby d45_24) rfl rfl) ?_
  show own_R _ _ _ _ T2 (mkF m 25 #[.val (.ref x), .val (.int (Int32.ofNat 1))] [(.ref x)])
  obtain ⟨T3, X3, e3, st3⟩ := getF X2 hx hZ hown (host := "") (Or.inl (hw 363 rfl)) Via.refl e2 I.2.2 (g := (mkF m 25 #[.val (.ref x), .val (.int (Int32.ofNat 1))] [(.ref x)])) rfl rfl (hb hby d45_25)
  refine own_go st3 ?_
  show own_R _ _ _ _ T3 (mkF m 28 #[.val (.ref x), .val (.int (Int32.ofNat 1))] [(.ref y1)])
  exact own_end X3 (some (.ref y1)) (fun h => by rw [hret] at h; cases h) hlk (fun fs hr => own_retA X3 hx hret rfl rfl (hb hby d45_28) hr) ⟨rfl, N0, e3⟩ (by decide) (by decide)
set_option maxRecDepth 65536 in
set_option maxHeartbeats 4000000 in
theorem rmGN (l : Launch) (Z : State) (a0 : Array Value) (hw : own_T a0 Z) (ws : List Jvm.Cond) (h0 : Heap) (n0 : Nat) (x xa : Addr) (k : ClassId) (nn : Int32) (vs : List Value) (I : own_IN Z h0 x xa k nn vs) (j : Int32) (y : Addr) (hj : ¬ j < 0 ∧ j < nn) (hv : vs.getD j.toNatClampNeg .null = .ref y) :
    own_C l Z own_y44 jdk_45_method_4_code 2 (some (.object "java/lang/Object")) ws ({ frames := 0, cells := 0, slots := 0, locals := 0 } : Room) #[(.ref x), (.int j)] h0 (own_Qr (some (.ref y)) h0 n0) := by
  refine own_body (ls := #[.val (.ref x), .val (.int j)]) pn_41 (fun m => by first | (simp [entryFrame, mkF, argsToLocals, Value.category]; done) | rfl) ?_
  intro p e s m below meth c T0 hZ hx hby hml hown hnm hret hlk X0 e0
  replace hml : c.maxLocals = 2 := hml
  have N0 := Fr.nil n0
  refine own_go (fun _ => XS.aloadN X0.here hx rfl (hb hby d41_0) rfl rfl) ?_
  show own_R _ _ _ _ T0 (mkF m 1 #[.val (.ref x), .val (.int j)] [(.ref x)])
  obtain ⟨T1, X1, e1, st1⟩ := getF X0 hx hZ hown (host := "") (Or.inl (hw 120 rfl)) Via.refl e0 I.2.1 (g := (mkF m 1 #[.val (.ref x), .val (.int j)] [(.ref x)])) rfl rfl (hb hby d41_1)
  refine own_go st1 ?_
  show own_R _ _ _ _ T1 (mkF m 4 #[.val (.ref x), .val (.int j)] [(.ref xa)])
  refine own_go (fun _ => XS.iloadN X1.here hx rfl (hb hby d41_4) rfl ) ?_
  show own_R _ _ _ _ T1 (mkF m 5 #[.val (.ref x), .val (.int j)] [(.int j), (.ref xa)])
  refine own_go (own_ldR X1 hx hZ e1 I.2.2 rfl hj hv (g := (mkF m 5 #[.val (.ref x), .val (.int j)] [(.int j), (.ref xa)])) rfl rfl (hb hby d41_5)) ?_
  show own_R _ _ _ _ T1 (mkF m 6 #[.val (.ref x), .val (.int j)] [(.ref y)])
  exact own_end X1 (some (.ref y)) (fun h => by rw [hret] at h; cases h) hlk (fun fs hr => own_retA X1 hx hret rfl rfl (hb hby d41_6) hr) ⟨rfl, N0, e1⟩ (by decide) (by decide)
def own_It (Z : State) (h : Heap) (it x : Addr) (n cu : Int32) : Prop := Exa Z h it "java/util/ImmutableCollections$ListItr" ∧ Fld Z h it "java/util/ImmutableCollections$ListItr" "list" "Ljava/util/List;" (.ref x) ∧ Fld Z h it "java/util/ImmutableCollections$ListItr" "size" "I" (.int n) ∧ Fld Z h it "java/util/ImmutableCollections$ListItr" "cursor" "I" (.int cu)
def own_Qit (Z : State) (it x : Addr) (n : Int32) (h0 : Heap) (n0 : Nat) (v : Option Value) (h : Heap) (L : List Loc) : Prop := v = none ∧ Fr n0 L ∧ Keep h0 h [it] ∧ own_It Z h it x n 0
def own_Qiu (Z : State) (x : Addr) (n : Int32) (h0 : Heap) (n0 : Nat) (v : Option Value) (h : Heap) (L : List Loc) : Prop := ∃ it : Addr, v = some (.ref it) ∧ Fr n0 L ∧ Keep h0 h [] ∧ h0.size ≤ it ∧ own_It Z h it x n 0
def own_Qnx (Z : State) (it x y : Addr) (n cu : Int32) (h0 : Heap) (n0 : Nat) (v : Option Value) (h : Heap) (L : List Loc) : Prop := v = some (.ref y) ∧ Fr n0 L ∧ Keep h0 h [it] ∧ own_It Z h it x n cu
set_option maxRecDepth 65536 in
set_option maxHeartbeats 8000000 in
theorem rmLI (l : Launch) (Z : State) (a0 : Array Value) (hw : own_T a0 Z) (ws : List Jvm.Cond) (h0 : Heap) (n0 : Nat) (a x : Addr) (nn : Int32) (g9 : n0 ≤ a) (E : Exa Z h0 a "java/util/ImmutableCollections$ListItr") (Flist : Fld Z h0 a "java/util/ImmutableCollections$ListItr" "list" "Ljava/util/List;" .null) (Fsize : Fld Z h0 a "java/util/ImmutableCollections$ListItr" "size" "I" (.int 0)) (Fcursor : Fld Z h0 a "java/util/ImmutableCollections$ListItr" "cursor" "I" (.int 0)) (FisListIterator : Fld Z h0 a "java/util/ImmutableCollections$ListItr" "isListIterator" "Z" (.int 0)) :
    own_C l Z own_y40 jdk_53_method_1_code 3 none ws ({ frames := 1, cells := 0, slots := 0, locals := 14 } : Room) #[(.ref a), (.ref x), (.int nn)] h0 (own_Qit Z a x nn h0 n0) := by
  refine own_body (ls := #[.val (.ref a), .val (.ref x), .val (.int nn)]) pn_19 (fun m => by first | (simp [entryFrame, mkF, argsToLocals, Value.category]; done) | rfl) ?_
  intro p e s m below meth c T0 hZ hx hby hml hown hnm hret hlk X0 e0
  replace hml : c.maxLocals = 3 := hml
  have N0 := Fr.nil n0
  refine own_go (fun _ => XS.aloadN X0.here hx rfl (hb hby d19_0) rfl rfl) ?_
  show own_R _ _ _ _ T0 (mkF m 1 #[.val (.ref a), .val (.ref x), .val (.int nn)] [(.ref a)])
  obtain ⟨T1, X1, e1, st1⟩ := initO X0 hx hZ hown (hw 170 rfl) (hw 19 rfl) (hw 20 rfl) e0 (g := (mkF m 1 #[.val (.ref a), .val (.ref x), .val (.int nn)] [(.ref a)])) rfl (by rw [hml]; rfl) rfl (hb hby d19_1) (by decide) (W := 0) (Nat.le_of_eq rfl) (by decide)
  refine own_go st1 ?_
  show own_R _ _ _ _ T1 (mkF m 4 #[.val (.ref a), .val (.ref x), .val (.int nn)] [])
  refine own_go (fun _ => XS.aloadN X1.here hx rfl (hb hby d19_4) rfl rfl) ?_
  show own_R _ _ _ _ T1 (mkF m 5 #[.val (.ref a), .val (.ref x), .val (.int nn)] [(.ref a)])
  refine own_go (fun _ => XS.aloadN X1.here hx rfl (hb hby d19_5) rfl rfl) ?_
  show own_R _ _ _ _ T1 (mkF m 6 #[.val (.ref a), .val (.ref x), .val (.int nn)] [(.ref x), (.ref a)])
  obtain ⟨T2, h2, X2, e2, W2, st2⟩ := putF X1 hx hZ hown (host := "") (Or.inl (hw 171 rfl)) Via.refl e1 Flist E (Or.inr ⟨(hw 172 rfl), rfl, hnm⟩) (hw 160 rfl) (ty := (.object "java/util/List")) (by decide) rfl rfl (g := (mkF m 6 #[.val (.ref a), .val (.ref x), .val (.int nn)] [(.ref x), (.ref a)])) rfl rfl (hb hby d19_6)
  refine own_go st2 ?_
  show own_R _ _ _ _ T2 (mkF m 9 #[.val (.ref a), .val (.ref x), .val (.int nn)] [])
  have N2 := Fr.snoc X2 N0 g9
  have K2 := (Keep.refl h0 [a]).wr W2 (Or.inl (by simp))
  have E2 := E.wr W2
  have Flist2 := Flist.same W2
  have Fsize2 := Fsize.other W2 (Or.inr (slot_ne (Or.inr (hw 174 rfl)) (Or.inr (hw 172 rfl)) (by decide) (t := .int) (t' := (.object "java/util/List")) (by decide) (by decide)))
  have Fcursor2 := Fcursor.other W2 (Or.inr (slot_ne (Or.inl (hw 176 rfl)) (Or.inr (hw 172 rfl)) (by decide) (t := .int) (t' := (.object "java/util/List")) (by decide) (by decide)))
  have FisListIterator2 := FisListIterator.other W2 (Or.inr (slot_ne (Or.inr (hw 178 rfl)) (Or.inr (hw 172 rfl)) (by decide) (t := .boolean) (t' := (.object "java/util/List")) (by decide) (by decide)))
  refine own_go (fun _ => XS.aloadN X2.here hx rfl (hb hby d19_9) rfl rfl) ?_
  show own_R _ _ _ _ T2 (mkF m 10 #[.val (.ref a), .val (.ref x), .val (.int nn)] [(.ref a)])
  refine own_go (fun _ => XS.iloadN X2.here hx rfl (hb hby d19_10) rfl ) ?_
  show own_R _ _ _ _ T2 (mkF m 11 #[.val (.ref a), .val (.ref x), .val (.int nn)] [(.int nn), (.ref a)])
  obtain ⟨T3, h3, X3, e3, W3, st3⟩ := putF X2 hx hZ hown (host := "") (Or.inl (hw 173 rfl)) Via.refl e2 Fsize2 E2 (Or.inr ⟨(hw 174 rfl), rfl, hnm⟩) (hw 160 rfl) (ty := .int) (by decide) rfl rfl (g := (mkF m 11 #[.val (.ref a), .val (.ref x), .val (.int nn)] [(.int nn), (.ref a)])) rfl rfl (hb hby d19_11)
  refine own_go st3 ?_
  show own_R _ _ _ _ T3 (mkF m 14 #[.val (.ref a), .val (.ref x), .val (.int nn)] [])
  have N3 := Fr.snoc X3 N2 g9
  have K3 := K2.wr W3 (Or.inl (by simp))
  have E3 := E2.wr W3
  have Flist3 := Flist2.other W3 (Or.inr (slot_ne (Or.inr (hw 172 rfl)) (Or.inr (hw 174 rfl)) (by decide) (t := (.object "java/util/List")) (t' := .int) (by decide) (by decide)))
  have Fsize3 := Fsize2.same W3
  have Fcursor3 := Fcursor2.other W3 (Or.inr (slot_ne (Or.inl (hw 176 rfl)) (Or.inr (hw 174 rfl)) (by decide) (t := .int) (t' := .int) (by decide) (by decide)))
  have FisListIterator3 := FisListIterator2.other W3 (Or.inr (slot_ne (Or.inr (hw 178 rfl)) (Or.inr (hw 174 rfl)) (by decide) (t := .boolean) (t' := .int) (by decide) (by decide)))
  refine own_go (fun _ => XS.aloadN X3.here hx rfl (hb hby d19_14) rfl rfl) ?_
  show own_R _ _ _ _ T3 (mkF m 15 #[.val (.ref a), .val (.ref x), .val (.int nn)] [(.ref a)])
  refine own_go (fun _ => XS.iconst X3.here hx rfl (hb hby d19_15)) ?_
  show own_R _ _ _ _ T3 (mkF m 16 #[.val (.ref a), .val (.ref x), .val (.int nn)] [(.int (0 : Int32)), (.ref a)])
  obtain ⟨T4, h4, X4, e4, W4, st4⟩ := putF X3 hx hZ hown (host := "") (Or.inl (hw 175 rfl)) Via.refl e3 Fcursor3 E3 (Or.inl (hw 176 rfl)) (hw 160 rfl) (ty := .int) (by decide) rfl rfl (g := (mkF m 16 #[.val (.ref a), .val (.ref x), .val (.int nn)] [(.int (0 : Int32)), (.ref a)])) rfl rfl (hb hby d19_16)
  refine own_go st4 ?_
  show own_R _ _ _ _ T4 (mkF m 19 #[.val (.ref a), .val (.ref x), .val (.int nn)] [])
  have N4 := Fr.snoc X4 N3 g9
  have K4 := K3.wr W4 (Or.inl (by simp))
  have E4 := E3.wr W4
  have Flist4 := Flist3.other W4 (Or.inr (slot_ne (Or.inr (hw 172 rfl)) (Or.inl (hw 176 rfl)) (by decide) (t := (.object "java/util/List")) (t' := .int) (by decide) (by decide)))
  have Fsize4 := Fsize3.other W4 (Or.inr (slot_ne (Or.inr (hw 174 rfl)) (Or.inl (hw 176 rfl)) (by decide) (t := .int) (t' := .int) (by decide) (by decide)))
  have Fcursor4 := Fcursor3.same W4
  have FisListIterator4 := FisListIterator3.other W4 (Or.inr (slot_ne (Or.inr (hw 178 rfl)) (Or.inl (hw 176 rfl)) (by decide) (t := .boolean) (t' := .int) (by decide) (by decide)))
  refine own_go (fun _ => XS.aloadN X4.here hx rfl (hb hby d19_19) rfl rfl) ?_
  show own_R _ _ _ _ T4 (mkF m 20 #[.val (.ref a), .val (.ref x), .val (.int nn)] [(.ref a)])
  refine own_go (fun _ => XS.iconst X4.here hx rfl (hb hby d19_20)) ?_
  show own_R _ _ _ _ T4 (mkF m 21 #[.val (.ref a), .val (.ref x), .val (.int nn)] [(.int (0 : Int32)), (.ref a)])
  obtain ⟨T5, h5, X5, e5, W5, st5⟩ := putF X4 hx hZ hown (host := "") (Or.inl (hw 177 rfl)) Via.refl e4 FisListIterator4 E4 (Or.inr ⟨(hw 178 rfl), rfl, hnm⟩) (hw 160 rfl) (ty := .boolean) (by decide) rfl rfl (g := (mkF m 21 #[.val (.ref a), .val (.ref x), .val (.int nn)] [(.int (0 : Int32)), (.ref a)])) rfl rfl (hb hby d19_21)
  refine own_go st5 ?_
  show own_R _ _ _ _ T5 (mkF m 24 #[.val (.ref a), .val (.ref x), .val (.int nn)] [])
  have N5 := Fr.snoc X5 N4 g9
  have K5 := K4.wr W5 (Or.inl (by simp))
  have E5 := E4.wr W5
  have Flist5 := Flist4.other W5 (Or.inr (slot_ne (Or.inr (hw 172 rfl)) (Or.inr (hw 178 rfl)) (by decide) (t := (.object "java/util/List")) (t' := .boolean) (by decide) (by decide)))
  have Fsize5 := Fsize4.other W5 (Or.inr (slot_ne (Or.inr (hw 174 rfl)) (Or.inr (hw 178 rfl)) (by decide) (t := .int) (t' := .boolean) (by decide) (by decide)))
  have Fcursor5 := Fcursor4.other W5 (Or.inr (slot_ne (Or.inl (hw 176 rfl)) (Or.inr (hw 178 rfl)) (by decide) (t := .int) (t' := .boolean) (by decide) (by decide)))
  exact own_end X5 none (fun _ => rfl) hlk (fun fs hr => X5.returnOut hx hret (hb hby d19_24) hr) (by show own_Qit Z a x nn h0 n0 _ T5.heap _; rw [e5]; exact ⟨rfl, N5, K5, E5, Flist5, Fsize5, Fcursor5⟩) (by decide) (by decide)
set_option maxRecDepth 65536 in
set_option maxHeartbeats 4000000 in
theorem rmHN0 (l : Launch) (Z : State) (a0 : Array Value) (hw : own_T a0 Z) (ws : List Jvm.Cond) (h0 : Heap) (n0 : Nat) (it x : Addr) (nn cu : Int32) (I : own_It Z h0 it x nn cu) (q : cu = nn) :
    own_C l Z own_y41 jdk_53_method_3_code 1 (some .boolean) ws ({ frames := 0, cells := 0, slots := 0, locals := 0 } : Room) #[(.ref it)] h0 (own_Qr (some (.int 0)) h0 n0) := by
  refine own_body (ls := #[.val (.ref it)]) pn_20 (fun m => by first | (simp [entryFrame, mkF, argsToLocals, Value.category]; done) | rfl) ?_
  intro p e s m below meth c T0 hZ hx hby hml hown hnm hret hlk X0 e0
  replace hml : c.maxLocals = 1 := hml
  have N0 := Fr.nil n0
  refine own_go (fun _ => XS.aloadN X0.here hx rfl (hb hby d20_0) rfl rfl) ?_
  show own_R _ _ _ _ T0 (mkF m 1 #[.val (.ref it)] [(.ref it)])
  obtain ⟨T1, X1, e1, st1⟩ := getF X0 hx hZ hown (host := "") (Or.inl (hw 175 rfl)) Via.refl e0 I.2.2.2 (g := (mkF m 1 #[.val (.ref it)] [(.ref it)])) rfl rfl (hb hby d20_1)
  refine own_go st1 ?_
  show own_R _ _ _ _ T1 (mkF m 4 #[.val (.ref it)] [(.int cu)])
  refine own_go (fun _ => XS.aloadN X1.here hx rfl (hb hby d20_4) rfl rfl) ?_
  show own_R _ _ _ _ T1 (mkF m 5 #[.val (.ref it)] [(.ref it), (.int cu)])
  obtain ⟨T2, X2, e2, st2⟩ := getF X1 hx hZ hown (host := "") (Or.inl (hw 173 rfl)) Via.refl e1 I.2.2.1 (g := (mkF m 5 #[.val (.ref it)] [(.ref it), (.int cu)])) rfl rfl (hb hby d20_5)
  refine own_go st2 ?_
  show own_R _ _ _ _ T2 (mkF m 8 #[.val (.ref it)] [(.int nn), (.int cu)])
  refine own_go (fun _ => XS.icmpYes X2.here hx rfl (pc0 := 8) (pc' := 15) rfl (hb hby d20_8) rfl (teq q).1 (by decide) (by decide)) ?_
  show own_R _ _ _ _ T2 (mkF m 15 #[.val (.ref it)] [])
  refine own_go (fun _ => XS.iconst X2.here hx rfl (hb hby d20_15)) ?_
  show own_R _ _ _ _ T2 (mkF m 16 #[.val (.ref it)] [(.int (0 : Int32))])
  exact own_end X2 (some (.int (nar .boolean (0 : Int32)))) (fun h => by rw [hret] at h; cases h) hlk (fun fs hr => retN X2 hx (t := .boolean) hret (by simp) (hb hby d20_16) hr) ⟨rfl, N0, e2⟩ (by decide) (by decide)
set_option maxRecDepth 65536 in
set_option maxHeartbeats 4000000 in
theorem rmHN1 (l : Launch) (Z : State) (a0 : Array Value) (hw : own_T a0 Z) (ws : List Jvm.Cond) (h0 : Heap) (n0 : Nat) (it x : Addr) (nn cu : Int32) (I : own_It Z h0 it x nn cu) (q : ¬ cu = nn) :
    own_C l Z own_y41 jdk_53_method_3_code 1 (some .boolean) ws ({ frames := 0, cells := 0, slots := 0, locals := 0 } : Room) #[(.ref it)] h0 (own_Qr (some (.int 1)) h0 n0) := by
  refine own_body (ls := #[.val (.ref it)]) pn_20 (fun m => by first | (simp [entryFrame, mkF, argsToLocals, Value.category]; done) | rfl) ?_
  intro p e s m below meth c T0 hZ hx hby hml hown hnm hret hlk X0 e0
  replace hml : c.maxLocals = 1 := hml
  have N0 := Fr.nil n0
  refine own_go (fun _ => XS.aloadN X0.here hx rfl (hb hby d20_0) rfl rfl) ?_
  show own_R _ _ _ _ T0 (mkF m 1 #[.val (.ref it)] [(.ref it)])
  obtain ⟨T1, X1, e1, st1⟩ := getF X0 hx hZ hown (host := "") (Or.inl (hw 175 rfl)) Via.refl e0 I.2.2.2 (g := (mkF m 1 #[.val (.ref it)] [(.ref it)])) rfl rfl (hb hby d20_1)
  refine own_go st1 ?_
  show own_R _ _ _ _ T1 (mkF m 4 #[.val (.ref it)] [(.int cu)])
  refine own_go (fun _ => XS.aloadN X1.here hx rfl (hb hby d20_4) rfl rfl) ?_
  show own_R _ _ _ _ T1 (mkF m 5 #[.val (.ref it)] [(.ref it), (.int cu)])
  obtain ⟨T2, X2, e2, st2⟩ := getF X1 hx hZ hown (host := "") (Or.inl (hw 173 rfl)) Via.refl e1 I.2.2.1 (g := (mkF m 5 #[.val (.ref it)] [(.ref it), (.int cu)])) rfl rfl (hb hby d20_5)
  refine own_go st2 ?_
  show own_R _ _ _ _ T2 (mkF m 8 #[.val (.ref it)] [(.int nn), (.int cu)])
  refine own_go (fun _ => XS.icmpNo X2.here hx rfl (hb hby d20_8) rfl (feq q).1) ?_
  show own_R _ _ _ _ T2 (mkF m 11 #[.val (.ref it)] [])
  refine own_go (fun _ => XS.iconst X2.here hx rfl (hb hby d20_11)) ?_
  refine own_go (fun _ => XS.goto X2.here hx rfl (pc0 := 12) (pc' := 16) rfl (hb hby d20_12) (by decide) (by decide)) ?_
  show own_R _ _ _ _ T2 (mkF m 16 #[.val (.ref it)] [(.int (1 : Int32))])
  exact own_end X2 (some (.int (nar .boolean (1 : Int32)))) (fun h => by rw [hret] at h; cases h) hlk (fun fs hr => retN X2 hx (t := .boolean) hret (by simp) (hb hby d20_16) hr) ⟨rfl, N0, e2⟩ (by decide) (by decide)
set_option maxRecDepth 65536 in
set_option maxHeartbeats 8000000 in
theorem rmIt0 (l : Launch) (Z : State) (a0 : Array Value) (hw : own_T a0 Z) (ws : List Jvm.Cond) (h0 : Heap) (n0 : Nat) (de : Addr) (kd : ClassId) (el ea : Addr) (ka : ClassId) (em mr : Addr) (G : own_G Z de kd el ea ka em mr) (Od : Old Z n0 h0) (I : own_IN Z h0 el ea ka (Int32.ofNat 0) [])  :
    own_C l Z own_y34 jdk_46_method_10_code 1 (some (.object "java/util/Iterator")) ws ({ frames := 2, cells := 1, slots := 4, locals := 40 } : Room) #[(.ref el)] h0 (own_Qiu Z el (Int32.ofNat 0) h0 n0) := by
  refine own_body (ls := #[.val (.ref el)]) pn_18 (fun m => by first | (simp [entryFrame, mkF, argsToLocals, Value.category]; done) | rfl) ?_
  intro p e s m below meth c T0 hZ hx hby hml hown hnm hret hlk X0 e0
  replace hml : c.maxLocals = 1 := hml
  have N0 := Fr.nil n0
  obtain ⟨T1, h1, X1, e1, E1, A1, D1, -, st1⟩ := newO X0 hx hZ hown (hw 159 rfl) (hw 160 rfl) (hw 161 rfl) e0 (g := (mkF m 0 #[.val (.ref el)] [])) rfl (hb hby d18_0) (by decide) (by decide)
  obtain ⟨a1, g1⟩ : ∃ z, z = h0.size := ⟨_, rfl⟩
  rw [← g1] at A1 D1 st1
  refine own_go st1 ?_
  show own_R _ _ _ _ T1 (mkF m 3 #[.val (.ref el)] [(.ref a1)])
  have g1n : n0 ≤ a1 := Nat.le_trans (Od.1 ▸ Od.2.1) (Nat.le_of_eq g1.symm)
  refine own_go (fun _ => XS.dup X1.here hx rfl (hb hby d18_3) rfl rfl) ?_
  refine own_go (fun _ => XS.aloadN X1.here hx rfl (hb hby d18_4) rfl rfl) ?_
  refine own_go (fun _ => XS.aloadN X1.here hx rfl (hb hby d18_5) rfl rfl) ?_
  show own_R _ _ _ _ T1 (mkF m 6 #[.val (.ref el)] [(.ref el), (.ref el), (.ref a1), (.ref a1)])
  obtain ⟨v2, T2, L2, X2, Q2, st2⟩ := own_backVU X1 hx hZ hown (x := own_y35) (owner := "java/util/AbstractCollection") (hw 162 rfl) (hw 163 rfl) (hw 164 rfl) (by decide) (hw 165 rfl) (hw 115 rfl) (backOf (W := 3) (rmSN l Z a0 hw [] h1 n0 el ea ka (Int32.ofNat 0) [] ⟨I.1.ext E1, I.2.1.ext E1, I.2.2.ext E1⟩) hZ (hw 119 rfl) (hw 118 rfl) (by decide) (by decide)) (b := el) (I.1.ext E1) (g := (mkF m 6 #[.val (.ref el)] [(.ref el), (.ref el), (.ref a1), (.ref a1)])) rfl (by rw [hml]; rfl) (argsL := []) (rest := [(.ref el), (.ref a1), (.ref a1)]) (lenOf pd___I rfl) rfl rfl (Nat.le_of_eq rfl) (hb hby d18_6) e1 (by decide) (by decide)
  obtain ⟨rfl, N2q, e2⟩ := Q2
  have N2 := Fr.app N0 N2q
  refine own_go st2 ?_
  show own_R _ _ _ _ T2 (mkF m 9 #[.val (.ref el)] [(.int (Int32.ofNat 0)), (.ref el), (.ref a1), (.ref a1)])
  obtain ⟨v3, T3, L3, X3, Q3, st3⟩ := own_callI X2 hx hZ hown (y := own_y40) rfl (hw 166 rfl) (hw 167 rfl) (hw 169 rfl) (hw 161 rfl) (by decide) (rmLI l Z a0 hw [] h1 n0 a1 el (Int32.ofNat 0) g1n A1 (D1 (Or.inr (hw 172 rfl)) (ty := (.object "java/util/List")) (by decide)) (D1 (Or.inr (hw 174 rfl)) (ty := .int) (by decide)) (D1 (Or.inl (hw 176 rfl)) (ty := .int) (by decide)) (D1 (Or.inr (hw 178 rfl)) (ty := .boolean) (by decide))) (W := 1) (g := (mkF m 9 #[.val (.ref el)] [(.int (Int32.ofNat 0)), (.ref el), (.ref a1), (.ref a1)])) rfl (by rw [hml]; rfl) (a := a1) (argsL := [(.ref el), (.int (Int32.ofNat 0))]) (rest := [(.ref a1)]) (lenOf pd__Ljava_util_List_I_V rfl) rfl rfl (Nat.le_of_eq rfl) (hb hby d18_9) e2 (by decide) (by decide) (by decide) (by decide)
  obtain ⟨rfl, N3q, K3, I3⟩ := Q3
  have N3 := Fr.app N2 N3q
  refine own_go st3 ?_
  show own_R _ _ _ _ T3 (mkF m 12 #[.val (.ref el)] [(.ref a1)])
  exact own_end X3 (some (.ref a1)) (fun h => by rw [hret] at h; cases h) hlk (fun fs hr => own_retA X3 hx hret rfl rfl (hb hby d18_12) hr) ⟨a1, rfl, N3, ((Keep.refl h0 []).ext E1).trans K3 (fun z hz => Or.inr (by cases List.mem_singleton.mp hz; exact Nat.le_of_eq g1.symm)), Nat.le_of_eq g1.symm, I3⟩ (by decide) (by decide)
set_option maxRecDepth 65536 in
set_option maxHeartbeats 8000000 in
theorem rmIt1 (l : Launch) (Z : State) (a0 : Array Value) (hw : own_T a0 Z) (ws : List Jvm.Cond) (h0 : Heap) (n0 : Nat) (de : Addr) (kd : ClassId) (el ea : Addr) (ka : ClassId) (em mr : Addr) (G : own_G Z de kd el ea ka em mr) (Od : Old Z n0 h0) (x y0 : Addr) (I : own_I12 Z h0 x y0 em)  :
    own_C l Z own_y34 jdk_46_method_10_code 1 (some (.object "java/util/Iterator")) ws ({ frames := 2, cells := 1, slots := 4, locals := 40 } : Room) #[(.ref x)] h0 (own_Qiu Z x (Int32.ofNat 1) h0 n0) := by
  refine own_body (ls := #[.val (.ref x)]) pn_18 (fun m => by first | (simp [entryFrame, mkF, argsToLocals, Value.category]; done) | rfl) ?_
  intro p e s m below meth c T0 hZ hx hby hml hown hnm hret hlk X0 e0
  replace hml : c.maxLocals = 1 := hml
  have N0 := Fr.nil n0
  obtain ⟨T1, h1, X1, e1, E1, A1, D1, -, st1⟩ := newO X0 hx hZ hown (hw 159 rfl) (hw 160 rfl) (hw 161 rfl) e0 (g := (mkF m 0 #[.val (.ref x)] [])) rfl (hb hby d18_0) (by decide) (by decide)
  obtain ⟨a1, g1⟩ : ∃ z, z = h0.size := ⟨_, rfl⟩
  rw [← g1] at A1 D1 st1
  refine own_go st1 ?_
  show own_R _ _ _ _ T1 (mkF m 3 #[.val (.ref x)] [(.ref a1)])
  have g1n : n0 ≤ a1 := Nat.le_trans (Od.1 ▸ Od.2.1) (Nat.le_of_eq g1.symm)
  refine own_go (fun _ => XS.dup X1.here hx rfl (hb hby d18_3) rfl rfl) ?_
  refine own_go (fun _ => XS.aloadN X1.here hx rfl (hb hby d18_4) rfl rfl) ?_
  refine own_go (fun _ => XS.aloadN X1.here hx rfl (hb hby d18_5) rfl rfl) ?_
  show own_R _ _ _ _ T1 (mkF m 6 #[.val (.ref x)] [(.ref x), (.ref x), (.ref a1), (.ref a1)])
  obtain ⟨v2, T2, L2, X2, Q2, st2⟩ := own_backVU X1 hx hZ hown (x := own_y35) (owner := "java/util/AbstractCollection") (hw 162 rfl) (hw 163 rfl) (hw 164 rfl) (by decide) (hw 376 rfl) (hw 366 rfl) (backOf (W := 3) (rmS1 l Z a0 hw [] h1 n0 de kd el ea ka em mr G (Od.ext E1) x y0 em ⟨I.1.ext E1, I.2.1.ext E1, I.2.2.ext E1⟩ rfl) hZ (hw 370 rfl) (hw 351 rfl) (by decide) (by decide)) (b := x) (I.1.ext E1) (g := (mkF m 6 #[.val (.ref x)] [(.ref x), (.ref x), (.ref a1), (.ref a1)])) rfl (by rw [hml]; rfl) (argsL := []) (rest := [(.ref x), (.ref a1), (.ref a1)]) (lenOf pd___I rfl) rfl rfl (Nat.le_of_eq rfl) (hb hby d18_6) e1 (by decide) (by decide)
  obtain ⟨rfl, N2q, e2⟩ := Q2
  have N2 := Fr.app N0 N2q
  refine own_go st2 ?_
  show own_R _ _ _ _ T2 (mkF m 9 #[.val (.ref x)] [(.int (Int32.ofNat 1)), (.ref x), (.ref a1), (.ref a1)])
  obtain ⟨v3, T3, L3, X3, Q3, st3⟩ := own_callI X2 hx hZ hown (y := own_y40) rfl (hw 166 rfl) (hw 167 rfl) (hw 169 rfl) (hw 161 rfl) (by decide) (rmLI l Z a0 hw [] h1 n0 a1 x (Int32.ofNat 1) g1n A1 (D1 (Or.inr (hw 172 rfl)) (ty := (.object "java/util/List")) (by decide)) (D1 (Or.inr (hw 174 rfl)) (ty := .int) (by decide)) (D1 (Or.inl (hw 176 rfl)) (ty := .int) (by decide)) (D1 (Or.inr (hw 178 rfl)) (ty := .boolean) (by decide))) (W := 1) (g := (mkF m 9 #[.val (.ref x)] [(.int (Int32.ofNat 1)), (.ref x), (.ref a1), (.ref a1)])) rfl (by rw [hml]; rfl) (a := a1) (argsL := [(.ref x), (.int (Int32.ofNat 1))]) (rest := [(.ref a1)]) (lenOf pd__Ljava_util_List_I_V rfl) rfl rfl (Nat.le_of_eq rfl) (hb hby d18_9) e2 (by decide) (by decide) (by decide) (by decide)
  obtain ⟨rfl, N3q, K3, I3⟩ := Q3
  have N3 := Fr.app N2 N3q
  refine own_go st3 ?_
  show own_R _ _ _ _ T3 (mkF m 12 #[.val (.ref x)] [(.ref a1)])
  exact own_end X3 (some (.ref a1)) (fun h => by rw [hret] at h; cases h) hlk (fun fs hr => own_retA X3 hx hret rfl rfl (hb hby d18_12) hr) ⟨a1, rfl, N3, ((Keep.refl h0 []).ext E1).trans K3 (fun z hz => Or.inr (by cases List.mem_singleton.mp hz; exact Nat.le_of_eq g1.symm)), Nat.le_of_eq g1.symm, I3⟩ (by decide) (by decide)
set_option maxRecDepth 65536 in
set_option maxHeartbeats 8000000 in
theorem rmIt2 (l : Launch) (Z : State) (a0 : Array Value) (hw : own_T a0 Z) (ws : List Jvm.Cond) (h0 : Heap) (n0 : Nat) (de : Addr) (kd : ClassId) (el ea : Addr) (ka : ClassId) (em mr : Addr) (G : own_G Z de kd el ea ka em mr) (Od : Old Z n0 h0) (x y0 y1 : Addr) (I : own_I12 Z h0 x y0 y1) (qe : y1 ≠ em)  :
    own_C l Z own_y34 jdk_46_method_10_code 1 (some (.object "java/util/Iterator")) ws ({ frames := 2, cells := 1, slots := 4, locals := 40 } : Room) #[(.ref x)] h0 (own_Qiu Z x (Int32.ofNat 2) h0 n0) := by
  refine own_body (ls := #[.val (.ref x)]) pn_18 (fun m => by first | (simp [entryFrame, mkF, argsToLocals, Value.category]; done) | rfl) ?_
  intro p e s m below meth c T0 hZ hx hby hml hown hnm hret hlk X0 e0
  replace hml : c.maxLocals = 1 := hml
  have N0 := Fr.nil n0
  obtain ⟨T1, h1, X1, e1, E1, A1, D1, -, st1⟩ := newO X0 hx hZ hown (hw 159 rfl) (hw 160 rfl) (hw 161 rfl) e0 (g := (mkF m 0 #[.val (.ref x)] [])) rfl (hb hby d18_0) (by decide) (by decide)
  obtain ⟨a1, g1⟩ : ∃ z, z = h0.size := ⟨_, rfl⟩
  rw [← g1] at A1 D1 st1
  refine own_go st1 ?_
  show own_R _ _ _ _ T1 (mkF m 3 #[.val (.ref x)] [(.ref a1)])
  have g1n : n0 ≤ a1 := Nat.le_trans (Od.1 ▸ Od.2.1) (Nat.le_of_eq g1.symm)
  refine own_go (fun _ => XS.dup X1.here hx rfl (hb hby d18_3) rfl rfl) ?_
  refine own_go (fun _ => XS.aloadN X1.here hx rfl (hb hby d18_4) rfl rfl) ?_
  refine own_go (fun _ => XS.aloadN X1.here hx rfl (hb hby d18_5) rfl rfl) ?_
  show own_R _ _ _ _ T1 (mkF m 6 #[.val (.ref x)] [(.ref x), (.ref x), (.ref a1), (.ref a1)])
  obtain ⟨v2, T2, L2, X2, Q2, st2⟩ := own_backVU X1 hx hZ hown (x := own_y35) (owner := "java/util/AbstractCollection") (hw 162 rfl) (hw 163 rfl) (hw 164 rfl) (by decide) (hw 376 rfl) (hw 366 rfl) (backOf (W := 3) (rmS2 l Z a0 hw [] h1 n0 de kd el ea ka em mr G (Od.ext E1) x y0 y1 ⟨I.1.ext E1, I.2.1.ext E1, I.2.2.ext E1⟩ qe) hZ (hw 370 rfl) (hw 351 rfl) (by decide) (by decide)) (b := x) (I.1.ext E1) (g := (mkF m 6 #[.val (.ref x)] [(.ref x), (.ref x), (.ref a1), (.ref a1)])) rfl (by rw [hml]; rfl) (argsL := []) (rest := [(.ref x), (.ref a1), (.ref a1)]) (lenOf pd___I rfl) rfl rfl (Nat.le_of_eq rfl) (hb hby d18_6) e1 (by decide) (by decide)
  obtain ⟨rfl, N2q, e2⟩ := Q2
  have N2 := Fr.app N0 N2q
  refine own_go st2 ?_
  show own_R _ _ _ _ T2 (mkF m 9 #[.val (.ref x)] [(.int (Int32.ofNat 2)), (.ref x), (.ref a1), (.ref a1)])
  obtain ⟨v3, T3, L3, X3, Q3, st3⟩ := own_callI X2 hx hZ hown (y := own_y40) rfl (hw 166 rfl) (hw 167 rfl) (hw 169 rfl) (hw 161 rfl) (by decide) (rmLI l Z a0 hw [] h1 n0 a1 x (Int32.ofNat 2) g1n A1 (D1 (Or.inr (hw 172 rfl)) (ty := (.object "java/util/List")) (by decide)) (D1 (Or.inr (hw 174 rfl)) (ty := .int) (by decide)) (D1 (Or.inl (hw 176 rfl)) (ty := .int) (by decide)) (D1 (Or.inr (hw 178 rfl)) (ty := .boolean) (by decide))) (W := 1) (g := (mkF m 9 #[.val (.ref x)] [(.int (Int32.ofNat 2)), (.ref x), (.ref a1), (.ref a1)])) rfl (by rw [hml]; rfl) (a := a1) (argsL := [(.ref x), (.int (Int32.ofNat 2))]) (rest := [(.ref a1)]) (lenOf pd__Ljava_util_List_I_V rfl) rfl rfl (Nat.le_of_eq rfl) (hb hby d18_9) e2 (by decide) (by decide) (by decide) (by decide)
  obtain ⟨rfl, N3q, K3, I3⟩ := Q3
  have N3 := Fr.app N2 N3q
  refine own_go st3 ?_
  show own_R _ _ _ _ T3 (mkF m 12 #[.val (.ref x)] [(.ref a1)])
  exact own_end X3 (some (.ref a1)) (fun h => by rw [hret] at h; cases h) hlk (fun fs hr => own_retA X3 hx hret rfl rfl (hb hby d18_12) hr) ⟨a1, rfl, N3, ((Keep.refl h0 []).ext E1).trans K3 (fun z hz => Or.inr (by cases List.mem_singleton.mp hz; exact Nat.le_of_eq g1.symm)), Nat.le_of_eq g1.symm, I3⟩ (by decide) (by decide)
set_option maxRecDepth 65536 in
set_option maxHeartbeats 8000000 in
theorem rmIt3 (l : Launch) (Z : State) (a0 : Array Value) (hw : own_T a0 Z) (ws : List Jvm.Cond) (h0 : Heap) (n0 : Nat) (de : Addr) (kd : ClassId) (el ea : Addr) (ka : ClassId) (em mr : Addr) (G : own_G Z de kd el ea ka em mr) (Od : Old Z n0 h0) (x xa : Addr) (k : ClassId) (y0 y1 y2 : Addr) (I : own_IN Z h0 x xa k (Int32.ofNat 3) [.ref y0, .ref y1, .ref y2])  :
    own_C l Z own_y34 jdk_46_method_10_code 1 (some (.object "java/util/Iterator")) ws ({ frames := 2, cells := 1, slots := 4, locals := 40 } : Room) #[(.ref x)] h0 (own_Qiu Z x (Int32.ofNat 3) h0 n0) := by
  refine own_body (ls := #[.val (.ref x)]) pn_18 (fun m => by first | (simp [entryFrame, mkF, argsToLocals, Value.category]; done) | rfl) ?_
  intro p e s m below meth c T0 hZ hx hby hml hown hnm hret hlk X0 e0
  replace hml : c.maxLocals = 1 := hml
  have N0 := Fr.nil n0
  obtain ⟨T1, h1, X1, e1, E1, A1, D1, -, st1⟩ := newO X0 hx hZ hown (hw 159 rfl) (hw 160 rfl) (hw 161 rfl) e0 (g := (mkF m 0 #[.val (.ref x)] [])) rfl (hb hby d18_0) (by decide) (by decide)
  obtain ⟨a1, g1⟩ : ∃ z, z = h0.size := ⟨_, rfl⟩
  rw [← g1] at A1 D1 st1
  refine own_go st1 ?_
  show own_R _ _ _ _ T1 (mkF m 3 #[.val (.ref x)] [(.ref a1)])
  have g1n : n0 ≤ a1 := Nat.le_trans (Od.1 ▸ Od.2.1) (Nat.le_of_eq g1.symm)
  refine own_go (fun _ => XS.dup X1.here hx rfl (hb hby d18_3) rfl rfl) ?_
  refine own_go (fun _ => XS.aloadN X1.here hx rfl (hb hby d18_4) rfl rfl) ?_
  refine own_go (fun _ => XS.aloadN X1.here hx rfl (hb hby d18_5) rfl rfl) ?_
  show own_R _ _ _ _ T1 (mkF m 6 #[.val (.ref x)] [(.ref x), (.ref x), (.ref a1), (.ref a1)])
  obtain ⟨v2, T2, L2, X2, Q2, st2⟩ := own_backVU X1 hx hZ hown (x := own_y35) (owner := "java/util/AbstractCollection") (hw 162 rfl) (hw 163 rfl) (hw 164 rfl) (by decide) (hw 165 rfl) (hw 115 rfl) (backOf (W := 3) (rmSN l Z a0 hw [] h1 n0 x xa k (Int32.ofNat 3) [.ref y0, .ref y1, .ref y2] ⟨I.1.ext E1, I.2.1.ext E1, I.2.2.ext E1⟩) hZ (hw 119 rfl) (hw 118 rfl) (by decide) (by decide)) (b := x) (I.1.ext E1) (g := (mkF m 6 #[.val (.ref x)] [(.ref x), (.ref x), (.ref a1), (.ref a1)])) rfl (by rw [hml]; rfl) (argsL := []) (rest := [(.ref x), (.ref a1), (.ref a1)]) (lenOf pd___I rfl) rfl rfl (Nat.le_of_eq rfl) (hb hby d18_6) e1 (by decide) (by decide)
  obtain ⟨rfl, N2q, e2⟩ := Q2
  have N2 := Fr.app N0 N2q
  refine own_go st2 ?_
  show own_R _ _ _ _ T2 (mkF m 9 #[.val (.ref x)] [(.int (Int32.ofNat 3)), (.ref x), (.ref a1), (.ref a1)])
  obtain ⟨v3, T3, L3, X3, Q3, st3⟩ := own_callI X2 hx hZ hown (y := own_y40) rfl (hw 166 rfl) (hw 167 rfl) (hw 169 rfl) (hw 161 rfl) (by decide) (rmLI l Z a0 hw [] h1 n0 a1 x (Int32.ofNat 3) g1n A1 (D1 (Or.inr (hw 172 rfl)) (ty := (.object "java/util/List")) (by decide)) (D1 (Or.inr (hw 174 rfl)) (ty := .int) (by decide)) (D1 (Or.inl (hw 176 rfl)) (ty := .int) (by decide)) (D1 (Or.inr (hw 178 rfl)) (ty := .boolean) (by decide))) (W := 1) (g := (mkF m 9 #[.val (.ref x)] [(.int (Int32.ofNat 3)), (.ref x), (.ref a1), (.ref a1)])) rfl (by rw [hml]; rfl) (a := a1) (argsL := [(.ref x), (.int (Int32.ofNat 3))]) (rest := [(.ref a1)]) (lenOf pd__Ljava_util_List_I_V rfl) rfl rfl (Nat.le_of_eq rfl) (hb hby d18_9) e2 (by decide) (by decide) (by decide) (by decide)
  obtain ⟨rfl, N3q, K3, I3⟩ := Q3
  have N3 := Fr.app N2 N3q
  refine own_go st3 ?_
  show own_R _ _ _ _ T3 (mkF m 12 #[.val (.ref x)] [(.ref a1)])
  exact own_end X3 (some (.ref a1)) (fun h => by rw [hret] at h; cases h) hlk (fun fs hr => own_retA X3 hx hret rfl rfl (hb hby d18_12) hr) ⟨a1, rfl, N3, ((Keep.refl h0 []).ext E1).trans K3 (fun z hz => Or.inr (by cases List.mem_singleton.mp hz; exact Nat.le_of_eq g1.symm)), Nat.le_of_eq g1.symm, I3⟩ (by decide) (by decide)
set_option maxRecDepth 65536 in
set_option maxHeartbeats 8000000 in
theorem rmNx10 (l : Launch) (Z : State) (a0 : Array Value) (hw : own_T a0 Z) (h0 : Heap) (n0 : Nat) (de : Addr) (kd : ClassId) (el ea : Addr) (ka : ClassId) (em mr : Addr) (G : own_G Z de kd el ea ka em mr) (Od : Old Z n0 h0) (x y0 : Addr) (I : own_I12 Z h0 x y0 em) (it : Addr) (g9 : n0 ≤ it) (J : own_It Z h0 it x (Int32.ofNat 1) (Int32.ofNat 0))  :
    own_CB l Z own_y42 jdk_53_method_4_code 3 (some (.object "java/lang/Object")) ({ frames := 1, cells := 0, slots := 0, locals := 30 } : Room) #[(.ref it)] h0 (own_Qnx Z it x y0 (Int32.ofNat 1) (Int32.ofNat 1) h0 n0) := by
  refine own_bodyB (ls := #[.val (.ref it), .unset, .unset]) (fun m => by first | (simp [entryFrame, mkF, argsToLocals, Value.category]; done) | rfl) ?_
  intro p e s m below meth c T0 hZ hx hby hml hown hnm hret hlk X0 e0
  replace hml : c.maxLocals = 3 := hml
  have N0 := Fr.nil n0
  refine own_go (fun _ => XS.aloadN X0.here hx rfl (hb hby d90_0) rfl rfl) ?_
  show own_R _ _ _ _ T0 (mkF m 1 #[.val (.ref it), .unset, .unset] [(.ref it)])
  obtain ⟨T1, X1, e1, st1⟩ := getF X0 hx hZ hown (host := "") (Or.inl (hw 175 rfl)) Via.refl e0 J.2.2.2 (g := (mkF m 1 #[.val (.ref it), .unset, .unset] [(.ref it)])) rfl rfl (hb hby d90_1)
  refine own_go st1 ?_
  show own_R _ _ _ _ T1 (mkF m 4 #[.val (.ref it), .unset, .unset] [(.int (Int32.ofNat 0))])
  refine own_go (fun _ => XS.istoreN X1.here hx rfl (hb hby d90_4) rfl (l' := #[.val (.ref it), .val (.int (Int32.ofNat 0)), .unset]) rfl) ?_
  refine own_go (fun _ => XS.aloadN X1.here hx rfl (hb hby d90_5) rfl rfl) ?_
  show own_R _ _ _ _ T1 (mkF m 6 #[.val (.ref it), .val (.int (Int32.ofNat 0)), .unset] [(.ref it)])
  obtain ⟨T2, X2, e2, st2⟩ := getF X1 hx hZ hown (host := "") (Or.inl (hw 171 rfl)) Via.refl e1 J.2.1 (g := (mkF m 6 #[.val (.ref it), .val (.int (Int32.ofNat 0)), .unset] [(.ref it)])) rfl rfl (hb hby d90_6)
  refine own_go st2 ?_
  show own_R _ _ _ _ T2 (mkF m 9 #[.val (.ref it), .val (.int (Int32.ofNat 0)), .unset] [(.ref x)])
  refine own_go (fun _ => XS.iloadN X2.here hx rfl (hb hby d90_9) rfl ) ?_
  show own_R _ _ _ _ T2 (mkF m 10 #[.val (.ref it), .val (.int (Int32.ofNat 0)), .unset] [(.int (Int32.ofNat 0)), (.ref x)])
  obtain ⟨v3, T3, L3, X3, Q3, st3⟩ := own_backF X2 hx hZ hown (xi := own_y51) (hw 332 rfl) (hw 333 rfl) (mvT hZ (hw 334 rfl)) (hw 377 rfl) (hw 378 rfl) (hw 379 rfl) (hw 380 rfl) (hw 369 rfl) (by decide) (backOf (W := 0) (rmG12_0 l Z a0 hw [] h0 n0 x y0 em I) hZ (hw 381 rfl) (hw 351 rfl) (by decide) (by decide)) (b := x) I.1 (g := (mkF m 10 #[.val (.ref it), .val (.int (Int32.ofNat 0)), .unset] [(.int (Int32.ofNat 0)), (.ref x)])) rfl (by rw [hml]; rfl) (argsL := [(.int (Int32.ofNat 0))]) (rest := []) (lenOf pd__I_Ljava_lang_Object_ rfl) rfl rfl (Nat.le_of_eq rfl) (hb hby d90_10) e2 (by decide) (by decide)
  obtain ⟨rfl, N3q, e3⟩ := Q3
  have N3 := Fr.app N0 N3q
  refine own_go st3 ?_
  show own_R _ _ _ _ T3 (mkF m 15 #[.val (.ref it), .val (.int (Int32.ofNat 0)), .unset] [(.ref y0)])
  refine own_go (fun _ => XS.astoreN X3.here hx rfl (hb hby d90_15) rfl rfl (l' := #[.val (.ref it), .val (.int (Int32.ofNat 0)), .val (.ref y0)]) rfl) ?_
  refine own_go (fun _ => XS.aloadN X3.here hx rfl (hb hby d90_16) rfl rfl) ?_
  refine own_go (fun _ => XS.iloadN X3.here hx rfl (hb hby d90_17) rfl ) ?_
  refine own_go (fun _ => XS.iconst X3.here hx rfl (hb hby d90_18)) ?_
  refine own_go (fun _ => XS.iadd X3.here hx rfl (hb hby d90_19) rfl) ?_
  show own_R _ _ _ _ T3 (mkF m 20 #[.val (.ref it), .val (.int (Int32.ofNat 0)), .val (.ref y0)] [(.int ((Int32.ofNat 0) + (1 : Int32))), (.ref it)])
  rw [show (Int32.ofNat 0) + (1 : Int32) = (Int32.ofNat 1) from by decide]
  show own_R _ _ _ _ T3 (mkF m 20 #[.val (.ref it), .val (.int (Int32.ofNat 0)), .val (.ref y0)] [(.int (Int32.ofNat 1)), (.ref it)])
  obtain ⟨T4, h4, X4, e4, W4, st4⟩ := putF X3 hx hZ hown (host := "") (Or.inl (hw 175 rfl)) Via.refl e3 J.2.2.2 J.1 (Or.inl (hw 176 rfl)) (hw 160 rfl) (ty := .int) (by decide) rfl rfl (g := (mkF m 20 #[.val (.ref it), .val (.int (Int32.ofNat 0)), .val (.ref y0)] [(.int (Int32.ofNat 1)), (.ref it)])) rfl rfl (hb hby d90_20)
  refine own_go st4 ?_
  show own_R _ _ _ _ T4 (mkF m 23 #[.val (.ref it), .val (.int (Int32.ofNat 0)), .val (.ref y0)] [])
  have N4 := Fr.snoc X4 N3 g9
  refine own_go (fun _ => XS.aloadN X4.here hx rfl (hb hby d90_23) rfl rfl) ?_
  show own_R _ _ _ _ T4 (mkF m 24 #[.val (.ref it), .val (.int (Int32.ofNat 0)), .val (.ref y0)] [(.ref y0)])
  exact own_end X4 (some (.ref y0)) (fun h => by rw [hret] at h; cases h) hlk (fun fs hr => own_retA X4 hx hret rfl rfl (hb hby d90_24) hr) (by show own_Qnx Z it x y0 (Int32.ofNat 1) (Int32.ofNat 1) h0 n0 _ T4.heap _; rw [e4]; exact ⟨rfl, N4, Keep.of_wr W4, J.1.wr W4, J.2.1.other W4 (Or.inr (slot_ne (Or.inr (hw 172 rfl)) (Or.inl (hw 176 rfl)) (by decide) (t := (.object "java/util/List")) (t' := .int) (by decide) (by decide))), J.2.2.1.other W4 (Or.inr (slot_ne (Or.inr (hw 174 rfl)) (Or.inl (hw 176 rfl)) (by decide) (t := .int) (t' := .int) (by decide) (by decide))), J.2.2.2.same W4⟩) (by decide) (by decide)
set_option maxRecDepth 65536 in
set_option maxHeartbeats 8000000 in
theorem rmNx20 (l : Launch) (Z : State) (a0 : Array Value) (hw : own_T a0 Z) (h0 : Heap) (n0 : Nat) (de : Addr) (kd : ClassId) (el ea : Addr) (ka : ClassId) (em mr : Addr) (G : own_G Z de kd el ea ka em mr) (Od : Old Z n0 h0) (x y0 y1 : Addr) (I : own_I12 Z h0 x y0 y1) (qe : y1 ≠ em) (it : Addr) (g9 : n0 ≤ it) (J : own_It Z h0 it x (Int32.ofNat 2) (Int32.ofNat 0))  :
    own_CB l Z own_y42 jdk_53_method_4_code 3 (some (.object "java/lang/Object")) ({ frames := 1, cells := 0, slots := 0, locals := 30 } : Room) #[(.ref it)] h0 (own_Qnx Z it x y0 (Int32.ofNat 2) (Int32.ofNat 1) h0 n0) := by
  refine own_bodyB (ls := #[.val (.ref it), .unset, .unset]) (fun m => by first | (simp [entryFrame, mkF, argsToLocals, Value.category]; done) | rfl) ?_
  intro p e s m below meth c T0 hZ hx hby hml hown hnm hret hlk X0 e0
  replace hml : c.maxLocals = 3 := hml
  have N0 := Fr.nil n0
  refine own_go (fun _ => XS.aloadN X0.here hx rfl (hb hby d90_0) rfl rfl) ?_
  show own_R _ _ _ _ T0 (mkF m 1 #[.val (.ref it), .unset, .unset] [(.ref it)])
  obtain ⟨T1, X1, e1, st1⟩ := getF X0 hx hZ hown (host := "") (Or.inl (hw 175 rfl)) Via.refl e0 J.2.2.2 (g := (mkF m 1 #[.val (.ref it), .unset, .unset] [(.ref it)])) rfl rfl (hb hby d90_1)
  refine own_go st1 ?_
  show own_R _ _ _ _ T1 (mkF m 4 #[.val (.ref it), .unset, .unset] [(.int (Int32.ofNat 0))])
  refine own_go (fun _ => XS.istoreN X1.here hx rfl (hb hby d90_4) rfl (l' := #[.val (.ref it), .val (.int (Int32.ofNat 0)), .unset]) rfl) ?_
  refine own_go (fun _ => XS.aloadN X1.here hx rfl (hb hby d90_5) rfl rfl) ?_
  show own_R _ _ _ _ T1 (mkF m 6 #[.val (.ref it), .val (.int (Int32.ofNat 0)), .unset] [(.ref it)])
  obtain ⟨T2, X2, e2, st2⟩ := getF X1 hx hZ hown (host := "") (Or.inl (hw 171 rfl)) Via.refl e1 J.2.1 (g := (mkF m 6 #[.val (.ref it), .val (.int (Int32.ofNat 0)), .unset] [(.ref it)])) rfl rfl (hb hby d90_6)
  refine own_go st2 ?_
  show own_R _ _ _ _ T2 (mkF m 9 #[.val (.ref it), .val (.int (Int32.ofNat 0)), .unset] [(.ref x)])
  refine own_go (fun _ => XS.iloadN X2.here hx rfl (hb hby d90_9) rfl ) ?_
  show own_R _ _ _ _ T2 (mkF m 10 #[.val (.ref it), .val (.int (Int32.ofNat 0)), .unset] [(.int (Int32.ofNat 0)), (.ref x)])
  obtain ⟨v3, T3, L3, X3, Q3, st3⟩ := own_backF X2 hx hZ hown (xi := own_y51) (hw 332 rfl) (hw 333 rfl) (mvT hZ (hw 334 rfl)) (hw 377 rfl) (hw 378 rfl) (hw 379 rfl) (hw 380 rfl) (hw 369 rfl) (by decide) (backOf (W := 0) (rmG12_0 l Z a0 hw [] h0 n0 x y0 y1 I) hZ (hw 381 rfl) (hw 351 rfl) (by decide) (by decide)) (b := x) I.1 (g := (mkF m 10 #[.val (.ref it), .val (.int (Int32.ofNat 0)), .unset] [(.int (Int32.ofNat 0)), (.ref x)])) rfl (by rw [hml]; rfl) (argsL := [(.int (Int32.ofNat 0))]) (rest := []) (lenOf pd__I_Ljava_lang_Object_ rfl) rfl rfl (Nat.le_of_eq rfl) (hb hby d90_10) e2 (by decide) (by decide)
  obtain ⟨rfl, N3q, e3⟩ := Q3
  have N3 := Fr.app N0 N3q
  refine own_go st3 ?_
  show own_R _ _ _ _ T3 (mkF m 15 #[.val (.ref it), .val (.int (Int32.ofNat 0)), .unset] [(.ref y0)])
  refine own_go (fun _ => XS.astoreN X3.here hx rfl (hb hby d90_15) rfl rfl (l' := #[.val (.ref it), .val (.int (Int32.ofNat 0)), .val (.ref y0)]) rfl) ?_
  refine own_go (fun _ => XS.aloadN X3.here hx rfl (hb hby d90_16) rfl rfl) ?_
  refine own_go (fun _ => XS.iloadN X3.here hx rfl (hb hby d90_17) rfl ) ?_
  refine own_go (fun _ => XS.iconst X3.here hx rfl (hb hby d90_18)) ?_
  refine own_go (fun _ => XS.iadd X3.here hx rfl (hb hby d90_19) rfl) ?_
  show own_R _ _ _ _ T3 (mkF m 20 #[.val (.ref it), .val (.int (Int32.ofNat 0)), .val (.ref y0)] [(.int ((Int32.ofNat 0) + (1 : Int32))), (.ref it)])
  rw [show (Int32.ofNat 0) + (1 : Int32) = (Int32.ofNat 1) from by decide]
  show own_R _ _ _ _ T3 (mkF m 20 #[.val (.ref it), .val (.int (Int32.ofNat 0)), .val (.ref y0)] [(.int (Int32.ofNat 1)), (.ref it)])
  obtain ⟨T4, h4, X4, e4, W4, st4⟩ := putF X3 hx hZ hown (host := "") (Or.inl (hw 175 rfl)) Via.refl e3 J.2.2.2 J.1 (Or.inl (hw 176 rfl)) (hw 160 rfl) (ty := .int) (by decide) rfl rfl (g := (mkF m 20 #[.val (.ref it), .val (.int (Int32.ofNat 0)), .val (.ref y0)] [(.int (Int32.ofNat 1)), (.ref it)])) rfl rfl (hb hby d90_20)
  refine own_go st4 ?_
  show own_R _ _ _ _ T4 (mkF m 23 #[.val (.ref it), .val (.int (Int32.ofNat 0)), .val (.ref y0)] [])
  have N4 := Fr.snoc X4 N3 g9
  refine own_go (fun _ => XS.aloadN X4.here hx rfl (hb hby d90_23) rfl rfl) ?_
  show own_R _ _ _ _ T4 (mkF m 24 #[.val (.ref it), .val (.int (Int32.ofNat 0)), .val (.ref y0)] [(.ref y0)])
  exact own_end X4 (some (.ref y0)) (fun h => by rw [hret] at h; cases h) hlk (fun fs hr => own_retA X4 hx hret rfl rfl (hb hby d90_24) hr) (by show own_Qnx Z it x y0 (Int32.ofNat 2) (Int32.ofNat 1) h0 n0 _ T4.heap _; rw [e4]; exact ⟨rfl, N4, Keep.of_wr W4, J.1.wr W4, J.2.1.other W4 (Or.inr (slot_ne (Or.inr (hw 172 rfl)) (Or.inl (hw 176 rfl)) (by decide) (t := (.object "java/util/List")) (t' := .int) (by decide) (by decide))), J.2.2.1.other W4 (Or.inr (slot_ne (Or.inr (hw 174 rfl)) (Or.inl (hw 176 rfl)) (by decide) (t := .int) (t' := .int) (by decide) (by decide))), J.2.2.2.same W4⟩) (by decide) (by decide)
set_option maxRecDepth 65536 in
set_option maxHeartbeats 8000000 in
theorem rmNx21 (l : Launch) (Z : State) (a0 : Array Value) (hw : own_T a0 Z) (h0 : Heap) (n0 : Nat) (de : Addr) (kd : ClassId) (el ea : Addr) (ka : ClassId) (em mr : Addr) (G : own_G Z de kd el ea ka em mr) (Od : Old Z n0 h0) (x y0 y1 : Addr) (I : own_I12 Z h0 x y0 y1) (qe : y1 ≠ em) (it : Addr) (g9 : n0 ≤ it) (J : own_It Z h0 it x (Int32.ofNat 2) (Int32.ofNat 1))  :
    own_CB l Z own_y42 jdk_53_method_4_code 3 (some (.object "java/lang/Object")) ({ frames := 1, cells := 0, slots := 0, locals := 30 } : Room) #[(.ref it)] h0 (own_Qnx Z it x y1 (Int32.ofNat 2) (Int32.ofNat 2) h0 n0) := by
  refine own_bodyB (ls := #[.val (.ref it), .unset, .unset]) (fun m => by first | (simp [entryFrame, mkF, argsToLocals, Value.category]; done) | rfl) ?_
  intro p e s m below meth c T0 hZ hx hby hml hown hnm hret hlk X0 e0
  replace hml : c.maxLocals = 3 := hml
  have N0 := Fr.nil n0
  refine own_go (fun _ => XS.aloadN X0.here hx rfl (hb hby d90_0) rfl rfl) ?_
  show own_R _ _ _ _ T0 (mkF m 1 #[.val (.ref it), .unset, .unset] [(.ref it)])
  obtain ⟨T1, X1, e1, st1⟩ := getF X0 hx hZ hown (host := "") (Or.inl (hw 175 rfl)) Via.refl e0 J.2.2.2 (g := (mkF m 1 #[.val (.ref it), .unset, .unset] [(.ref it)])) rfl rfl (hb hby d90_1)
  refine own_go st1 ?_
  show own_R _ _ _ _ T1 (mkF m 4 #[.val (.ref it), .unset, .unset] [(.int (Int32.ofNat 1))])
  refine own_go (fun _ => XS.istoreN X1.here hx rfl (hb hby d90_4) rfl (l' := #[.val (.ref it), .val (.int (Int32.ofNat 1)), .unset]) rfl) ?_
  refine own_go (fun _ => XS.aloadN X1.here hx rfl (hb hby d90_5) rfl rfl) ?_
  show own_R _ _ _ _ T1 (mkF m 6 #[.val (.ref it), .val (.int (Int32.ofNat 1)), .unset] [(.ref it)])
  obtain ⟨T2, X2, e2, st2⟩ := getF X1 hx hZ hown (host := "") (Or.inl (hw 171 rfl)) Via.refl e1 J.2.1 (g := (mkF m 6 #[.val (.ref it), .val (.int (Int32.ofNat 1)), .unset] [(.ref it)])) rfl rfl (hb hby d90_6)
  refine own_go st2 ?_
  show own_R _ _ _ _ T2 (mkF m 9 #[.val (.ref it), .val (.int (Int32.ofNat 1)), .unset] [(.ref x)])
  refine own_go (fun _ => XS.iloadN X2.here hx rfl (hb hby d90_9) rfl ) ?_
  show own_R _ _ _ _ T2 (mkF m 10 #[.val (.ref it), .val (.int (Int32.ofNat 1)), .unset] [(.int (Int32.ofNat 1)), (.ref x)])
  obtain ⟨v3, T3, L3, X3, Q3, st3⟩ := own_backF X2 hx hZ hown (xi := own_y51) (hw 332 rfl) (hw 333 rfl) (mvT hZ (hw 334 rfl)) (hw 377 rfl) (hw 378 rfl) (hw 379 rfl) (hw 380 rfl) (hw 369 rfl) (by decide) (backOf (W := 0) (rmG12_1 l Z a0 hw [] h0 n0 de kd el ea ka em mr G Od x y0 y1 I qe) hZ (hw 381 rfl) (hw 351 rfl) (by decide) (by decide)) (b := x) I.1 (g := (mkF m 10 #[.val (.ref it), .val (.int (Int32.ofNat 1)), .unset] [(.int (Int32.ofNat 1)), (.ref x)])) rfl (by rw [hml]; rfl) (argsL := [(.int (Int32.ofNat 1))]) (rest := []) (lenOf pd__I_Ljava_lang_Object_ rfl) rfl rfl (Nat.le_of_eq rfl) (hb hby d90_10) e2 (by decide) (by decide)
  obtain ⟨rfl, N3q, e3⟩ := Q3
  have N3 := Fr.app N0 N3q
  refine own_go st3 ?_
  show own_R _ _ _ _ T3 (mkF m 15 #[.val (.ref it), .val (.int (Int32.ofNat 1)), .unset] [(.ref y1)])
  refine own_go (fun _ => XS.astoreN X3.here hx rfl (hb hby d90_15) rfl rfl (l' := #[.val (.ref it), .val (.int (Int32.ofNat 1)), .val (.ref y1)]) rfl) ?_
  refine own_go (fun _ => XS.aloadN X3.here hx rfl (hb hby d90_16) rfl rfl) ?_
  refine own_go (fun _ => XS.iloadN X3.here hx rfl (hb hby d90_17) rfl ) ?_
  refine own_go (fun _ => XS.iconst X3.here hx rfl (hb hby d90_18)) ?_
  refine own_go (fun _ => XS.iadd X3.here hx rfl (hb hby d90_19) rfl) ?_
  show own_R _ _ _ _ T3 (mkF m 20 #[.val (.ref it), .val (.int (Int32.ofNat 1)), .val (.ref y1)] [(.int ((Int32.ofNat 1) + (1 : Int32))), (.ref it)])
  rw [show (Int32.ofNat 1) + (1 : Int32) = (Int32.ofNat 2) from by decide]
  show own_R _ _ _ _ T3 (mkF m 20 #[.val (.ref it), .val (.int (Int32.ofNat 1)), .val (.ref y1)] [(.int (Int32.ofNat 2)), (.ref it)])
  obtain ⟨T4, h4, X4, e4, W4, st4⟩ := putF X3 hx hZ hown (host := "") (Or.inl (hw 175 rfl)) Via.refl e3 J.2.2.2 J.1 (Or.inl (hw 176 rfl)) (hw 160 rfl) (ty := .int) (by decide) rfl rfl (g := (mkF m 20 #[.val (.ref it), .val (.int (Int32.ofNat 1)), .val (.ref y1)] [(.int (Int32.ofNat 2)), (.ref it)])) rfl rfl (hb hby d90_20)
  refine own_go st4 ?_
  show own_R _ _ _ _ T4 (mkF m 23 #[.val (.ref it), .val (.int (Int32.ofNat 1)), .val (.ref y1)] [])
  have N4 := Fr.snoc X4 N3 g9
  refine own_go (fun _ => XS.aloadN X4.here hx rfl (hb hby d90_23) rfl rfl) ?_
  show own_R _ _ _ _ T4 (mkF m 24 #[.val (.ref it), .val (.int (Int32.ofNat 1)), .val (.ref y1)] [(.ref y1)])
  exact own_end X4 (some (.ref y1)) (fun h => by rw [hret] at h; cases h) hlk (fun fs hr => own_retA X4 hx hret rfl rfl (hb hby d90_24) hr) (by show own_Qnx Z it x y1 (Int32.ofNat 2) (Int32.ofNat 2) h0 n0 _ T4.heap _; rw [e4]; exact ⟨rfl, N4, Keep.of_wr W4, J.1.wr W4, J.2.1.other W4 (Or.inr (slot_ne (Or.inr (hw 172 rfl)) (Or.inl (hw 176 rfl)) (by decide) (t := (.object "java/util/List")) (t' := .int) (by decide) (by decide))), J.2.2.1.other W4 (Or.inr (slot_ne (Or.inr (hw 174 rfl)) (Or.inl (hw 176 rfl)) (by decide) (t := .int) (t' := .int) (by decide) (by decide))), J.2.2.2.same W4⟩) (by decide) (by decide)
set_option maxRecDepth 65536 in
set_option maxHeartbeats 8000000 in
theorem rmNx30 (l : Launch) (Z : State) (a0 : Array Value) (hw : own_T a0 Z) (h0 : Heap) (n0 : Nat) (de : Addr) (kd : ClassId) (el ea : Addr) (ka : ClassId) (em mr : Addr) (G : own_G Z de kd el ea ka em mr) (Od : Old Z n0 h0) (x xa : Addr) (k : ClassId) (y0 y1 y2 : Addr) (I : own_IN Z h0 x xa k (Int32.ofNat 3) [.ref y0, .ref y1, .ref y2]) (it : Addr) (g9 : n0 ≤ it) (J : own_It Z h0 it x (Int32.ofNat 3) (Int32.ofNat 0))  :
    own_CB l Z own_y42 jdk_53_method_4_code 3 (some (.object "java/lang/Object")) ({ frames := 1, cells := 0, slots := 0, locals := 30 } : Room) #[(.ref it)] h0 (own_Qnx Z it x y0 (Int32.ofNat 3) (Int32.ofNat 1) h0 n0) := by
  refine own_bodyB (ls := #[.val (.ref it), .unset, .unset]) (fun m => by first | (simp [entryFrame, mkF, argsToLocals, Value.category]; done) | rfl) ?_
  intro p e s m below meth c T0 hZ hx hby hml hown hnm hret hlk X0 e0
  replace hml : c.maxLocals = 3 := hml
  have N0 := Fr.nil n0
  refine own_go (fun _ => XS.aloadN X0.here hx rfl (hb hby d90_0) rfl rfl) ?_
  show own_R _ _ _ _ T0 (mkF m 1 #[.val (.ref it), .unset, .unset] [(.ref it)])
  obtain ⟨T1, X1, e1, st1⟩ := getF X0 hx hZ hown (host := "") (Or.inl (hw 175 rfl)) Via.refl e0 J.2.2.2 (g := (mkF m 1 #[.val (.ref it), .unset, .unset] [(.ref it)])) rfl rfl (hb hby d90_1)
  refine own_go st1 ?_
  show own_R _ _ _ _ T1 (mkF m 4 #[.val (.ref it), .unset, .unset] [(.int (Int32.ofNat 0))])
  refine own_go (fun _ => XS.istoreN X1.here hx rfl (hb hby d90_4) rfl (l' := #[.val (.ref it), .val (.int (Int32.ofNat 0)), .unset]) rfl) ?_
  refine own_go (fun _ => XS.aloadN X1.here hx rfl (hb hby d90_5) rfl rfl) ?_
  show own_R _ _ _ _ T1 (mkF m 6 #[.val (.ref it), .val (.int (Int32.ofNat 0)), .unset] [(.ref it)])
  obtain ⟨T2, X2, e2, st2⟩ := getF X1 hx hZ hown (host := "") (Or.inl (hw 171 rfl)) Via.refl e1 J.2.1 (g := (mkF m 6 #[.val (.ref it), .val (.int (Int32.ofNat 0)), .unset] [(.ref it)])) rfl rfl (hb hby d90_6)
  refine own_go st2 ?_
  show own_R _ _ _ _ T2 (mkF m 9 #[.val (.ref it), .val (.int (Int32.ofNat 0)), .unset] [(.ref x)])
  refine own_go (fun _ => XS.iloadN X2.here hx rfl (hb hby d90_9) rfl ) ?_
  show own_R _ _ _ _ T2 (mkF m 10 #[.val (.ref it), .val (.int (Int32.ofNat 0)), .unset] [(.int (Int32.ofNat 0)), (.ref x)])
  obtain ⟨v3, T3, L3, X3, Q3, st3⟩ := own_backF X2 hx hZ hown (xi := own_y51) (hw 332 rfl) (hw 333 rfl) (mvT hZ (hw 334 rfl)) (hw 335 rfl) (hw 336 rfl) (hw 337 rfl) (hw 338 rfl) (hw 78 rfl) (by decide) (backOf (W := 0) (rmGN l Z a0 hw [] h0 n0 x xa k (Int32.ofNat 3) [.ref y0, .ref y1, .ref y2] I (Int32.ofNat 0) y0 ⟨by decide, by decide⟩ rfl) hZ (hw 339 rfl) (hw 118 rfl) (by decide) (by decide)) (b := x) I.1 (g := (mkF m 10 #[.val (.ref it), .val (.int (Int32.ofNat 0)), .unset] [(.int (Int32.ofNat 0)), (.ref x)])) rfl (by rw [hml]; rfl) (argsL := [(.int (Int32.ofNat 0))]) (rest := []) (lenOf pd__I_Ljava_lang_Object_ rfl) rfl rfl (Nat.le_of_eq rfl) (hb hby d90_10) e2 (by decide) (by decide)
  obtain ⟨rfl, N3q, e3⟩ := Q3
  have N3 := Fr.app N0 N3q
  refine own_go st3 ?_
  show own_R _ _ _ _ T3 (mkF m 15 #[.val (.ref it), .val (.int (Int32.ofNat 0)), .unset] [(.ref y0)])
  refine own_go (fun _ => XS.astoreN X3.here hx rfl (hb hby d90_15) rfl rfl (l' := #[.val (.ref it), .val (.int (Int32.ofNat 0)), .val (.ref y0)]) rfl) ?_
  refine own_go (fun _ => XS.aloadN X3.here hx rfl (hb hby d90_16) rfl rfl) ?_
  refine own_go (fun _ => XS.iloadN X3.here hx rfl (hb hby d90_17) rfl ) ?_
  refine own_go (fun _ => XS.iconst X3.here hx rfl (hb hby d90_18)) ?_
  refine own_go (fun _ => XS.iadd X3.here hx rfl (hb hby d90_19) rfl) ?_
  show own_R _ _ _ _ T3 (mkF m 20 #[.val (.ref it), .val (.int (Int32.ofNat 0)), .val (.ref y0)] [(.int ((Int32.ofNat 0) + (1 : Int32))), (.ref it)])
  rw [show (Int32.ofNat 0) + (1 : Int32) = (Int32.ofNat 1) from by decide]
  show own_R _ _ _ _ T3 (mkF m 20 #[.val (.ref it), .val (.int (Int32.ofNat 0)), .val (.ref y0)] [(.int (Int32.ofNat 1)), (.ref it)])
  obtain ⟨T4, h4, X4, e4, W4, st4⟩ := putF X3 hx hZ hown (host := "") (Or.inl (hw 175 rfl)) Via.refl e3 J.2.2.2 J.1 (Or.inl (hw 176 rfl)) (hw 160 rfl) (ty := .int) (by decide) rfl rfl (g := (mkF m 20 #[.val (.ref it), .val (.int (Int32.ofNat 0)), .val (.ref y0)] [(.int (Int32.ofNat 1)), (.ref it)])) rfl rfl (hb hby d90_20)
  refine own_go st4 ?_
  show own_R _ _ _ _ T4 (mkF m 23 #[.val (.ref it), .val (.int (Int32.ofNat 0)), .val (.ref y0)] [])
  have N4 := Fr.snoc X4 N3 g9
  refine own_go (fun _ => XS.aloadN X4.here hx rfl (hb hby d90_23) rfl rfl) ?_
  show own_R _ _ _ _ T4 (mkF m 24 #[.val (.ref it), .val (.int (Int32.ofNat 0)), .val (.ref y0)] [(.ref y0)])
  exact own_end X4 (some (.ref y0)) (fun h => by rw [hret] at h; cases h) hlk (fun fs hr => own_retA X4 hx hret rfl rfl (hb hby d90_24) hr) (by show own_Qnx Z it x y0 (Int32.ofNat 3) (Int32.ofNat 1) h0 n0 _ T4.heap _; rw [e4]; exact ⟨rfl, N4, Keep.of_wr W4, J.1.wr W4, J.2.1.other W4 (Or.inr (slot_ne (Or.inr (hw 172 rfl)) (Or.inl (hw 176 rfl)) (by decide) (t := (.object "java/util/List")) (t' := .int) (by decide) (by decide))), J.2.2.1.other W4 (Or.inr (slot_ne (Or.inr (hw 174 rfl)) (Or.inl (hw 176 rfl)) (by decide) (t := .int) (t' := .int) (by decide) (by decide))), J.2.2.2.same W4⟩) (by decide) (by decide)
set_option maxRecDepth 65536 in
set_option maxHeartbeats 8000000 in
theorem rmNx31 (l : Launch) (Z : State) (a0 : Array Value) (hw : own_T a0 Z) (h0 : Heap) (n0 : Nat) (de : Addr) (kd : ClassId) (el ea : Addr) (ka : ClassId) (em mr : Addr) (G : own_G Z de kd el ea ka em mr) (Od : Old Z n0 h0) (x xa : Addr) (k : ClassId) (y0 y1 y2 : Addr) (I : own_IN Z h0 x xa k (Int32.ofNat 3) [.ref y0, .ref y1, .ref y2]) (it : Addr) (g9 : n0 ≤ it) (J : own_It Z h0 it x (Int32.ofNat 3) (Int32.ofNat 1))  :
    own_CB l Z own_y42 jdk_53_method_4_code 3 (some (.object "java/lang/Object")) ({ frames := 1, cells := 0, slots := 0, locals := 30 } : Room) #[(.ref it)] h0 (own_Qnx Z it x y1 (Int32.ofNat 3) (Int32.ofNat 2) h0 n0) := by
  refine own_bodyB (ls := #[.val (.ref it), .unset, .unset]) (fun m => by first | (simp [entryFrame, mkF, argsToLocals, Value.category]; done) | rfl) ?_
  intro p e s m below meth c T0 hZ hx hby hml hown hnm hret hlk X0 e0
  replace hml : c.maxLocals = 3 := hml
  have N0 := Fr.nil n0
  refine own_go (fun _ => XS.aloadN X0.here hx rfl (hb hby d90_0) rfl rfl) ?_
  show own_R _ _ _ _ T0 (mkF m 1 #[.val (.ref it), .unset, .unset] [(.ref it)])
  obtain ⟨T1, X1, e1, st1⟩ := getF X0 hx hZ hown (host := "") (Or.inl (hw 175 rfl)) Via.refl e0 J.2.2.2 (g := (mkF m 1 #[.val (.ref it), .unset, .unset] [(.ref it)])) rfl rfl (hb hby d90_1)
  refine own_go st1 ?_
  show own_R _ _ _ _ T1 (mkF m 4 #[.val (.ref it), .unset, .unset] [(.int (Int32.ofNat 1))])
  refine own_go (fun _ => XS.istoreN X1.here hx rfl (hb hby d90_4) rfl (l' := #[.val (.ref it), .val (.int (Int32.ofNat 1)), .unset]) rfl) ?_
  refine own_go (fun _ => XS.aloadN X1.here hx rfl (hb hby d90_5) rfl rfl) ?_
  show own_R _ _ _ _ T1 (mkF m 6 #[.val (.ref it), .val (.int (Int32.ofNat 1)), .unset] [(.ref it)])
  obtain ⟨T2, X2, e2, st2⟩ := getF X1 hx hZ hown (host := "") (Or.inl (hw 171 rfl)) Via.refl e1 J.2.1 (g := (mkF m 6 #[.val (.ref it), .val (.int (Int32.ofNat 1)), .unset] [(.ref it)])) rfl rfl (hb hby d90_6)
  refine own_go st2 ?_
  show own_R _ _ _ _ T2 (mkF m 9 #[.val (.ref it), .val (.int (Int32.ofNat 1)), .unset] [(.ref x)])
  refine own_go (fun _ => XS.iloadN X2.here hx rfl (hb hby d90_9) rfl ) ?_
  show own_R _ _ _ _ T2 (mkF m 10 #[.val (.ref it), .val (.int (Int32.ofNat 1)), .unset] [(.int (Int32.ofNat 1)), (.ref x)])
  obtain ⟨v3, T3, L3, X3, Q3, st3⟩ := own_backF X2 hx hZ hown (xi := own_y51) (hw 332 rfl) (hw 333 rfl) (mvT hZ (hw 334 rfl)) (hw 335 rfl) (hw 336 rfl) (hw 337 rfl) (hw 338 rfl) (hw 78 rfl) (by decide) (backOf (W := 0) (rmGN l Z a0 hw [] h0 n0 x xa k (Int32.ofNat 3) [.ref y0, .ref y1, .ref y2] I (Int32.ofNat 1) y1 ⟨by decide, by decide⟩ rfl) hZ (hw 339 rfl) (hw 118 rfl) (by decide) (by decide)) (b := x) I.1 (g := (mkF m 10 #[.val (.ref it), .val (.int (Int32.ofNat 1)), .unset] [(.int (Int32.ofNat 1)), (.ref x)])) rfl (by rw [hml]; rfl) (argsL := [(.int (Int32.ofNat 1))]) (rest := []) (lenOf pd__I_Ljava_lang_Object_ rfl) rfl rfl (Nat.le_of_eq rfl) (hb hby d90_10) e2 (by decide) (by decide)
  obtain ⟨rfl, N3q, e3⟩ := Q3
  have N3 := Fr.app N0 N3q
  refine own_go st3 ?_
  show own_R _ _ _ _ T3 (mkF m 15 #[.val (.ref it), .val (.int (Int32.ofNat 1)), .unset] [(.ref y1)])
  refine own_go (fun _ => XS.astoreN X3.here hx rfl (hb hby d90_15) rfl rfl (l' := #[.val (.ref it), .val (.int (Int32.ofNat 1)), .val (.ref y1)]) rfl) ?_
  refine own_go (fun _ => XS.aloadN X3.here hx rfl (hb hby d90_16) rfl rfl) ?_
  refine own_go (fun _ => XS.iloadN X3.here hx rfl (hb hby d90_17) rfl ) ?_
  refine own_go (fun _ => XS.iconst X3.here hx rfl (hb hby d90_18)) ?_
  refine own_go (fun _ => XS.iadd X3.here hx rfl (hb hby d90_19) rfl) ?_
  show own_R _ _ _ _ T3 (mkF m 20 #[.val (.ref it), .val (.int (Int32.ofNat 1)), .val (.ref y1)] [(.int ((Int32.ofNat 1) + (1 : Int32))), (.ref it)])
  rw [show (Int32.ofNat 1) + (1 : Int32) = (Int32.ofNat 2) from by decide]
  show own_R _ _ _ _ T3 (mkF m 20 #[.val (.ref it), .val (.int (Int32.ofNat 1)), .val (.ref y1)] [(.int (Int32.ofNat 2)), (.ref it)])
  obtain ⟨T4, h4, X4, e4, W4, st4⟩ := putF X3 hx hZ hown (host := "") (Or.inl (hw 175 rfl)) Via.refl e3 J.2.2.2 J.1 (Or.inl (hw 176 rfl)) (hw 160 rfl) (ty := .int) (by decide) rfl rfl (g := (mkF m 20 #[.val (.ref it), .val (.int (Int32.ofNat 1)), .val (.ref y1)] [(.int (Int32.ofNat 2)), (.ref it)])) rfl rfl (hb hby d90_20)
  refine own_go st4 ?_
  show own_R _ _ _ _ T4 (mkF m 23 #[.val (.ref it), .val (.int (Int32.ofNat 1)), .val (.ref y1)] [])
  have N4 := Fr.snoc X4 N3 g9
  refine own_go (fun _ => XS.aloadN X4.here hx rfl (hb hby d90_23) rfl rfl) ?_
  show own_R _ _ _ _ T4 (mkF m 24 #[.val (.ref it), .val (.int (Int32.ofNat 1)), .val (.ref y1)] [(.ref y1)])
  exact own_end X4 (some (.ref y1)) (fun h => by rw [hret] at h; cases h) hlk (fun fs hr => own_retA X4 hx hret rfl rfl (hb hby d90_24) hr) (by show own_Qnx Z it x y1 (Int32.ofNat 3) (Int32.ofNat 2) h0 n0 _ T4.heap _; rw [e4]; exact ⟨rfl, N4, Keep.of_wr W4, J.1.wr W4, J.2.1.other W4 (Or.inr (slot_ne (Or.inr (hw 172 rfl)) (Or.inl (hw 176 rfl)) (by decide) (t := (.object "java/util/List")) (t' := .int) (by decide) (by decide))), J.2.2.1.other W4 (Or.inr (slot_ne (Or.inr (hw 174 rfl)) (Or.inl (hw 176 rfl)) (by decide) (t := .int) (t' := .int) (by decide) (by decide))), J.2.2.2.same W4⟩) (by decide) (by decide)
set_option maxRecDepth 65536 in
set_option maxHeartbeats 8000000 in
theorem rmNx32 (l : Launch) (Z : State) (a0 : Array Value) (hw : own_T a0 Z) (h0 : Heap) (n0 : Nat) (de : Addr) (kd : ClassId) (el ea : Addr) (ka : ClassId) (em mr : Addr) (G : own_G Z de kd el ea ka em mr) (Od : Old Z n0 h0) (x xa : Addr) (k : ClassId) (y0 y1 y2 : Addr) (I : own_IN Z h0 x xa k (Int32.ofNat 3) [.ref y0, .ref y1, .ref y2]) (it : Addr) (g9 : n0 ≤ it) (J : own_It Z h0 it x (Int32.ofNat 3) (Int32.ofNat 2))  :
    own_CB l Z own_y42 jdk_53_method_4_code 3 (some (.object "java/lang/Object")) ({ frames := 1, cells := 0, slots := 0, locals := 30 } : Room) #[(.ref it)] h0 (own_Qnx Z it x y2 (Int32.ofNat 3) (Int32.ofNat 3) h0 n0) := by
  refine own_bodyB (ls := #[.val (.ref it), .unset, .unset]) (fun m => by first | (simp [entryFrame, mkF, argsToLocals, Value.category]; done) | rfl) ?_
  intro p e s m below meth c T0 hZ hx hby hml hown hnm hret hlk X0 e0
  replace hml : c.maxLocals = 3 := hml
  have N0 := Fr.nil n0
  refine own_go (fun _ => XS.aloadN X0.here hx rfl (hb hby d90_0) rfl rfl) ?_
  show own_R _ _ _ _ T0 (mkF m 1 #[.val (.ref it), .unset, .unset] [(.ref it)])
  obtain ⟨T1, X1, e1, st1⟩ := getF X0 hx hZ hown (host := "") (Or.inl (hw 175 rfl)) Via.refl e0 J.2.2.2 (g := (mkF m 1 #[.val (.ref it), .unset, .unset] [(.ref it)])) rfl rfl (hb hby d90_1)
  refine own_go st1 ?_
  show own_R _ _ _ _ T1 (mkF m 4 #[.val (.ref it), .unset, .unset] [(.int (Int32.ofNat 2))])
  refine own_go (fun _ => XS.istoreN X1.here hx rfl (hb hby d90_4) rfl (l' := #[.val (.ref it), .val (.int (Int32.ofNat 2)), .unset]) rfl) ?_
  refine own_go (fun _ => XS.aloadN X1.here hx rfl (hb hby d90_5) rfl rfl) ?_
  show own_R _ _ _ _ T1 (mkF m 6 #[.val (.ref it), .val (.int (Int32.ofNat 2)), .unset] [(.ref it)])
  obtain ⟨T2, X2, e2, st2⟩ := getF X1 hx hZ hown (host := "") (Or.inl (hw 171 rfl)) Via.refl e1 J.2.1 (g := (mkF m 6 #[.val (.ref it), .val (.int (Int32.ofNat 2)), .unset] [(.ref it)])) rfl rfl (hb hby d90_6)
  refine own_go st2 ?_
  show own_R _ _ _ _ T2 (mkF m 9 #[.val (.ref it), .val (.int (Int32.ofNat 2)), .unset] [(.ref x)])
  refine own_go (fun _ => XS.iloadN X2.here hx rfl (hb hby d90_9) rfl ) ?_
  show own_R _ _ _ _ T2 (mkF m 10 #[.val (.ref it), .val (.int (Int32.ofNat 2)), .unset] [(.int (Int32.ofNat 2)), (.ref x)])
  obtain ⟨v3, T3, L3, X3, Q3, st3⟩ := own_backF X2 hx hZ hown (xi := own_y51) (hw 332 rfl) (hw 333 rfl) (mvT hZ (hw 334 rfl)) (hw 335 rfl) (hw 336 rfl) (hw 337 rfl) (hw 338 rfl) (hw 78 rfl) (by decide) (backOf (W := 0) (rmGN l Z a0 hw [] h0 n0 x xa k (Int32.ofNat 3) [.ref y0, .ref y1, .ref y2] I (Int32.ofNat 2) y2 ⟨by decide, by decide⟩ rfl) hZ (hw 339 rfl) (hw 118 rfl) (by decide) (by decide)) (b := x) I.1 (g := (mkF m 10 #[.val (.ref it), .val (.int (Int32.ofNat 2)), .unset] [(.int (Int32.ofNat 2)), (.ref x)])) rfl (by rw [hml]; rfl) (argsL := [(.int (Int32.ofNat 2))]) (rest := []) (lenOf pd__I_Ljava_lang_Object_ rfl) rfl rfl (Nat.le_of_eq rfl) (hb hby d90_10) e2 (by decide) (by decide)
  obtain ⟨rfl, N3q, e3⟩ := Q3
  have N3 := Fr.app N0 N3q
  refine own_go st3 ?_
  show own_R _ _ _ _ T3 (mkF m 15 #[.val (.ref it), .val (.int (Int32.ofNat 2)), .unset] [(.ref y2)])
  refine own_go (fun _ => XS.astoreN X3.here hx rfl (hb hby d90_15) rfl rfl (l' := #[.val (.ref it), .val (.int (Int32.ofNat 2)), .val (.ref y2)]) rfl) ?_
  refine own_go (fun _ => XS.aloadN X3.here hx rfl (hb hby d90_16) rfl rfl) ?_
  refine own_go (fun _ => XS.iloadN X3.here hx rfl (hb hby d90_17) rfl ) ?_
  refine own_go (fun _ => XS.iconst X3.here hx rfl (hb hby d90_18)) ?_
  refine own_go (fun _ => XS.iadd X3.here hx rfl (hb hby d90_19) rfl) ?_
  show own_R _ _ _ _ T3 (mkF m 20 #[.val (.ref it), .val (.int (Int32.ofNat 2)), .val (.ref y2)] [(.int ((Int32.ofNat 2) + (1 : Int32))), (.ref it)])
  rw [show (Int32.ofNat 2) + (1 : Int32) = (Int32.ofNat 3) from by decide]
  show own_R _ _ _ _ T3 (mkF m 20 #[.val (.ref it), .val (.int (Int32.ofNat 2)), .val (.ref y2)] [(.int (Int32.ofNat 3)), (.ref it)])
  obtain ⟨T4, h4, X4, e4, W4, st4⟩ := putF X3 hx hZ hown (host := "") (Or.inl (hw 175 rfl)) Via.refl e3 J.2.2.2 J.1 (Or.inl (hw 176 rfl)) (hw 160 rfl) (ty := .int) (by decide) rfl rfl (g := (mkF m 20 #[.val (.ref it), .val (.int (Int32.ofNat 2)), .val (.ref y2)] [(.int (Int32.ofNat 3)), (.ref it)])) rfl rfl (hb hby d90_20)
  refine own_go st4 ?_
  show own_R _ _ _ _ T4 (mkF m 23 #[.val (.ref it), .val (.int (Int32.ofNat 2)), .val (.ref y2)] [])
  have N4 := Fr.snoc X4 N3 g9
  refine own_go (fun _ => XS.aloadN X4.here hx rfl (hb hby d90_23) rfl rfl) ?_
  show own_R _ _ _ _ T4 (mkF m 24 #[.val (.ref it), .val (.int (Int32.ofNat 2)), .val (.ref y2)] [(.ref y2)])
  exact own_end X4 (some (.ref y2)) (fun h => by rw [hret] at h; cases h) hlk (fun fs hr => own_retA X4 hx hret rfl rfl (hb hby d90_24) hr) (by show own_Qnx Z it x y2 (Int32.ofNat 3) (Int32.ofNat 3) h0 n0 _ T4.heap _; rw [e4]; exact ⟨rfl, N4, Keep.of_wr W4, J.1.wr W4, J.2.1.other W4 (Or.inr (slot_ne (Or.inr (hw 172 rfl)) (Or.inl (hw 176 rfl)) (by decide) (t := (.object "java/util/List")) (t' := .int) (by decide) (by decide))), J.2.2.1.other W4 (Or.inr (slot_ne (Or.inr (hw 174 rfl)) (Or.inl (hw 176 rfl)) (by decide) (t := .int) (t' := .int) (by decide) (by decide))), J.2.2.2.same W4⟩) (by decide) (by decide)
theorem own_AL.ext {Z : State} {h h' : Heap} {x ed : Addr} {n : Nat} {md : Int32} (A : own_AL Z h x ed n md) (E : Ext h h') : own_AL Z h' x ed n md := ⟨A.1.ext E, A.2.1.ext E, A.2.2.1.ext E, A.2.2.2.ext E⟩
theorem own_AL.keep {Z : State} {h h' : Heap} {ws : List Addr} {x ed : Addr} {n : Nat} {md : Int32} (A : own_AL Z h x ed n md) (K : Keep h h' ws) (q : x ∉ ws) : own_AL Z h' x ed n md := ⟨A.1.keep K, A.2.1.keep K q, A.2.2.1.keep K q, A.2.2.2.keep K q⟩
theorem own_L.keep {Z : State} {h h' : Heap} {ws : List Addr} {x ed : Addr} {k : ClassId} {vs : List Value} {md : Int32} (A : own_L Z h x ed k vs md) (K : Keep h h' ws) (q : x ∉ ws) (q' : ed ∉ ws) : own_L Z h' x ed k vs md := ⟨A.1.keep K q, A.2.1.keep K q', A.2.2.1, A.2.2.2.1, A.2.2.2.2.keep K⟩
theorem own_L.ext {Z : State} {h h' : Heap} {x ed : Addr} {k : ClassId} {vs : List Value} {md : Int32} (A : own_L Z h x ed k vs md) (E : Ext h h') : own_L Z h' x ed k vs md := ⟨A.1.ext E, A.2.1.ext E, A.2.2.1, A.2.2.2.1, A.2.2.2.2.ext E⟩
theorem own_I12.keep {Z : State} {h h' : Heap} {ws : List Addr} {x y0 y1 : Addr} (A : own_I12 Z h x y0 y1) (K : Keep h h' ws) (q : x ∉ ws) : own_I12 Z h' x y0 y1 := ⟨A.1.keep K, A.2.1.keep K q, A.2.2.keep K q⟩
theorem own_I12.ext {Z : State} {h h' : Heap} {x y0 y1 : Addr} (A : own_I12 Z h x y0 y1) (E : Ext h h') : own_I12 Z h' x y0 y1 := ⟨A.1.ext E, A.2.1.ext E, A.2.2.ext E⟩
theorem own_IN.keep {Z : State} {h h' : Heap} {ws : List Addr} {x xa : Addr} {k : ClassId} {nn : Int32} {vs : List Value} (A : own_IN Z h x xa k nn vs) (K : Keep h h' ws) (q : x ∉ ws) (q' : xa ∉ ws) : own_IN Z h' x xa k nn vs := ⟨A.1.keep K, A.2.1.keep K q, A.2.2.keep K q'⟩
theorem own_IN.ext {Z : State} {h h' : Heap} {x xa : Addr} {k : ClassId} {nn : Int32} {vs : List Value} (A : own_IN Z h x xa k nn vs) (E : Ext h h') : own_IN Z h' x xa k nn vs := ⟨A.1.ext E, A.2.1.ext E, A.2.2.ext E⟩
theorem own_It.keep {Z : State} {h h' : Heap} {ws : List Addr} {it x : Addr} {n cu : Int32} (A : own_It Z h it x n cu) (K : Keep h h' ws) (q : it ∉ ws) : own_It Z h' it x n cu := ⟨A.1.keep K, A.2.1.keep K q, A.2.2.1.keep K q, A.2.2.2.keep K q⟩
theorem own_Fo.lt {h : Heap} {f b : Addr} {cK : ClassId} (F : own_Fo h f cK b) : @LT.lt Nat instLTNat f h.size := (Array.getElem?_eq_some_iff.mp F).1
def own_Qla (Z : State) (en : Addr) (mm : Nat) (ws : List Addr) (lo : Nat) (h0 : Heap) (n0 : Nat) (v : Option Value) (h : Heap) (L : List Loc) : Prop := ∃ (ed : Addr) (k : ClassId) (vs : List Value) (md : Int32), v = none ∧ Fr n0 L ∧ Keep h0 h ws ∧ n0 ≤ ed ∧ lo ≤ ed ∧ own_L Z h en ed k vs md ∧ vs.length = mm
theorem own_Qla.none {Z : State} {en : Addr} {mm : Nat} {ws : List Addr} {lo : Nat} {h0 : Heap} {n0 : Nat} : ∀ (v : Option Value) (h : Heap) (L : List Loc), own_Qla Z en mm ws lo h0 n0 v h L → v = Option.none := fun _ _ _ ⟨_, _, _, _, q, _⟩ => q
set_option maxRecDepth 65536 in
set_option maxHeartbeats 8000000 in
theorem rmLamF (l : Launch) (Z : State) (a0 : Array Value) (hw : own_T a0 Z) (ws : List Jvm.Cond) (h0 : Heap) (n0 : Nat) (de : Addr) (kd : ClassId) (el ea : Addr) (ka : ClassId) (em mr : Addr) (G : own_G Z de kd el ea ka em mr) (Od : Old Z n0 h0) (ho y en : Addr) (ge : n0 ≤ en) (Fen : Fld Z h0 ho "com/example/zellwerk/zellwerk/service/Holdings" "ended" "Ljava/util/List;" (.ref en)) (md : Int32) (A0 : own_AL Z h0 en de 0 md)  :
    own_C l Z own_y6 prog_48_method_12_code 2 none ws ({ frames := 5, cells := 2, slots := 13, locals := 100 } : Room) #[(.ref ho), (.ref y)] h0 (own_Qla Z en 1 [en] h0.size h0 n0) := by
  refine own_body (ls := #[.val (.ref ho), .val (.ref y)]) pn_42 (fun m => by first | (simp [entryFrame, mkF, argsToLocals, Value.category]; done) | rfl) ?_
  intro p e s m below meth c T0 hZ hx hby hml hown hnm hret hlk X0 e0
  replace hml : c.maxLocals = 2 := hml
  have N0 := Fr.nil n0
  refine own_go (fun _ => XS.aloadN X0.here hx rfl (hb hby d42_0) rfl rfl) ?_
  show own_R _ _ _ _ T0 (mkF m 1 #[.val (.ref ho), .val (.ref y)] [(.ref ho)])
  obtain ⟨T0g, X0g, e0g, st0g⟩ := getF X0 hx hZ hown (host := "") (Or.inl (hw 102 rfl)) Via.refl e0 Fen (g := (mkF m 1 #[.val (.ref ho), .val (.ref y)] [(.ref ho)])) rfl rfl (hb hby d42_1)
  refine own_go st0g ?_
  show own_R _ _ _ _ T0g (mkF m 4 #[.val (.ref ho), .val (.ref y)] [(.ref en)])
  obtain ⟨T1, h1, X1, e1, E1, A1, D1, -, st1⟩ := newO X0g hx hZ hown (hw 100 rfl) (hw 1 rfl) (hw 2 rfl) e0g (g := (mkF m 4 #[.val (.ref ho), .val (.ref y)] [(.ref en)])) rfl (hb hby d42_4) (by decide) (by decide)
  obtain ⟨a1, g1⟩ : ∃ z, z = h0.size := ⟨_, rfl⟩
  rw [← g1] at A1 D1 st1
  refine own_go st1 ?_
  show own_R _ _ _ _ T1 (mkF m 7 #[.val (.ref ho), .val (.ref y)] [(.ref a1), (.ref en)])
  refine own_go (fun _ => XS.dup X1.here hx rfl (hb hby d42_7) rfl rfl) ?_
  show own_R _ _ _ _ T1 (mkF m 8 #[.val (.ref ho), .val (.ref y)] [(.ref a1), (.ref a1), (.ref en)])
  have g1n : n0 ≤ a1 := Nat.le_trans (Od.1 ▸ Od.2.1) (Nat.le_of_eq g1.symm)
  obtain ⟨v2, T2, L2, X2, Q2, st2⟩ := own_callI X1 hx hZ hown (y := own_y18) rfl (hw 101 rfl) (hw 4 rfl) (hw 5 rfl) (hw 2 rfl) (by decide) (rmAL l Z a0 hw [] h1 n0 a1 g1n A1 (D1 (Or.inl (hw 25 rfl)) (ty := (.array (.object "java/lang/Object"))) (by decide)) (D1 (Or.inl (hw 69 rfl)) (ty := .int) (by decide)) (D1 (Or.inl (hw 22 rfl)) (ty := .int) (by decide)) de G.1 (Od.ext E1)) (W := 2) (g := (mkF m 8 #[.val (.ref ho), .val (.ref y)] [(.ref a1), (.ref a1), (.ref en)])) rfl (by rw [hml]; rfl) (a := a1) (argsL := []) (rest := [(.ref a1), (.ref en)]) (lenOf pd___V rfl) rfl rfl (Nat.le_of_eq rfl) (hb hby d42_8) e1 (by decide) (by decide) (by decide) (by decide)
  obtain ⟨rfl, N2q, K2, A2⟩ := Q2
  have N2 := Fr.app N0 N2q
  refine own_go st2 ?_
  show own_R _ _ _ _ T2 (mkF m 11 #[.val (.ref ho), .val (.ref y)] [(.ref a1), (.ref en)])
  have Od2 := (Od.ext E1).keep K2 (fun z hz => by cases List.mem_singleton.mp hz; exact g1n)
  have nen : en ≠ a1 := own_nd A0.1.lt (Nat.le_of_eq g1.symm)
  have K12 : Keep h0 T2.heap [en] := ((Keep.refl h0 [en]).ext E1).trans K2 (fun z hz => Or.inr (by cases List.mem_singleton.mp hz; exact Nat.le_of_eq g1.symm))
  have L2 := (A0.ext E1).keep K2 (own_ni nen)
  obtain ⟨v3, T3, L3, X3, Q3, st3⟩ := own_backF X2 hx hZ hown (xi := own_y48) (hw 347 rfl) (hw 237 rfl) (mvT hZ (hw 238 rfl)) (hw 239 rfl) (hw 240 rfl) (hw 241 rfl) (hw 242 rfl) (hw 243 rfl) (by decide) (backOf (W := 0) (rmA1F l Z a0 hw [] T2.heap n0 en ge (Od2.1 ▸ Od2.2.1) md de kd L2 G.1 (G.2.1.ext Od2.2) Od2 a1 "java/util/ArrayList" A2.1 (hw 348 rfl)) hZ (hw 244 rfl) (hw 2 rfl) (by decide) (by decide)) (b := en) L2.1 (g := (mkF m 11 #[.val (.ref ho), .val (.ref y)] [(.ref a1), (.ref en)])) rfl (by rw [hml]; rfl) (argsL := [(.ref a1)]) (rest := []) (lenOf pd__Ljava_lang_Object__Z rfl) rfl rfl (Nat.le_of_eq rfl) (hb hby d42_11) rfl (by decide) (by decide)
  obtain ⟨ed3, k3, rfl, N3q, K3, ge3, gl3, L3⟩ := Q3
  have N3 := Fr.app N2 N3q
  refine own_go st3 ?_
  show own_R _ _ _ _ T3 (mkF m 16 #[.val (.ref ho), .val (.ref y)] [(.int (1 : Int32))])
  refine own_go (fun _ => XS.pop X3.here hx rfl (hb hby d42_16) rfl rfl) ?_
  show own_R _ _ _ _ T3 (mkF m 17 #[.val (.ref ho), .val (.ref y)] [])
  exact own_end X3 none (fun _ => rfl) hlk (fun fs hr => X3.returnOut hx hret (hb hby d42_17) hr) ⟨ed3, k3, _, _, rfl, N3, K12.trans K3 (fun z hz => Or.inl hz), ge3, Nat.le_trans K12.1 gl3, L3, rfl⟩ (by decide) (by decide)
set_option maxRecDepth 65536 in
set_option maxHeartbeats 8000000 in
theorem rmLamM (l : Launch) (Z : State) (a0 : Array Value) (hw : own_T a0 Z) (ws : List Jvm.Cond) (h0 : Heap) (n0 : Nat) (de : Addr) (kd : ClassId) (el ea : Addr) (ka : ClassId) (em mr : Addr) (G : own_G Z de kd el ea ka em mr) (Od : Old Z n0 h0) (ho y en : Addr) (ge : n0 ≤ en) (Fen : Fld Z h0 ho "com/example/zellwerk/zellwerk/service/Holdings" "ended" "Ljava/util/List;" (.ref en)) (md : Int32) (ed : Addr) (k : ClassId) (vs : List Value) (hvs : vs.length ≤ 5) (A0 : own_L Z h0 en ed k vs md) (ge2 : n0 ≤ ed) (lo : Nat) (gl : lo ≤ ed)  :
    own_C l Z own_y6 prog_48_method_12_code 2 none ws ({ frames := 5, cells := 1, slots := 3, locals := 100 } : Room) #[(.ref ho), (.ref y)] h0 (own_Qla Z en (vs.length + 1) [en, ed] lo h0 n0) := by
  refine own_body (ls := #[.val (.ref ho), .val (.ref y)]) pn_42 (fun m => by first | (simp [entryFrame, mkF, argsToLocals, Value.category]; done) | rfl) ?_
  intro p e s m below meth c T0 hZ hx hby hml hown hnm hret hlk X0 e0
  replace hml : c.maxLocals = 2 := hml
  have N0 := Fr.nil n0
  refine own_go (fun _ => XS.aloadN X0.here hx rfl (hb hby d42_0) rfl rfl) ?_
  show own_R _ _ _ _ T0 (mkF m 1 #[.val (.ref ho), .val (.ref y)] [(.ref ho)])
  obtain ⟨T0g, X0g, e0g, st0g⟩ := getF X0 hx hZ hown (host := "") (Or.inl (hw 102 rfl)) Via.refl e0 Fen (g := (mkF m 1 #[.val (.ref ho), .val (.ref y)] [(.ref ho)])) rfl rfl (hb hby d42_1)
  refine own_go st0g ?_
  show own_R _ _ _ _ T0g (mkF m 4 #[.val (.ref ho), .val (.ref y)] [(.ref en)])
  obtain ⟨T1, h1, X1, e1, E1, A1, D1, -, st1⟩ := newO X0g hx hZ hown (hw 100 rfl) (hw 1 rfl) (hw 2 rfl) e0g (g := (mkF m 4 #[.val (.ref ho), .val (.ref y)] [(.ref en)])) rfl (hb hby d42_4) (by decide) (by decide)
  obtain ⟨a1, g1⟩ : ∃ z, z = h0.size := ⟨_, rfl⟩
  rw [← g1] at A1 D1 st1
  refine own_go st1 ?_
  show own_R _ _ _ _ T1 (mkF m 7 #[.val (.ref ho), .val (.ref y)] [(.ref a1), (.ref en)])
  refine own_go (fun _ => XS.dup X1.here hx rfl (hb hby d42_7) rfl rfl) ?_
  show own_R _ _ _ _ T1 (mkF m 8 #[.val (.ref ho), .val (.ref y)] [(.ref a1), (.ref a1), (.ref en)])
  have g1n : n0 ≤ a1 := Nat.le_trans (Od.1 ▸ Od.2.1) (Nat.le_of_eq g1.symm)
  obtain ⟨v2, T2, L2, X2, Q2, st2⟩ := own_callI X1 hx hZ hown (y := own_y18) rfl (hw 101 rfl) (hw 4 rfl) (hw 5 rfl) (hw 2 rfl) (by decide) (rmAL l Z a0 hw [] h1 n0 a1 g1n A1 (D1 (Or.inl (hw 25 rfl)) (ty := (.array (.object "java/lang/Object"))) (by decide)) (D1 (Or.inl (hw 69 rfl)) (ty := .int) (by decide)) (D1 (Or.inl (hw 22 rfl)) (ty := .int) (by decide)) de G.1 (Od.ext E1)) (W := 2) (g := (mkF m 8 #[.val (.ref ho), .val (.ref y)] [(.ref a1), (.ref a1), (.ref en)])) rfl (by rw [hml]; rfl) (a := a1) (argsL := []) (rest := [(.ref a1), (.ref en)]) (lenOf pd___V rfl) rfl rfl (Nat.le_of_eq rfl) (hb hby d42_8) e1 (by decide) (by decide) (by decide) (by decide)
  obtain ⟨rfl, N2q, K2, A2⟩ := Q2
  have N2 := Fr.app N0 N2q
  refine own_go st2 ?_
  show own_R _ _ _ _ T2 (mkF m 11 #[.val (.ref ho), .val (.ref y)] [(.ref a1), (.ref en)])
  have nen : en ≠ a1 := own_nd A0.1.1.lt (Nat.le_of_eq g1.symm)
  have K12 : Keep h0 T2.heap [en, ed] := ((Keep.refl h0 [en, ed]).ext E1).trans K2 (fun z hz => Or.inr (by cases List.mem_singleton.mp hz; exact Nat.le_of_eq g1.symm))
  have ned : ed ≠ a1 := own_nd A0.2.1.lt (Nat.le_of_eq g1.symm)
  have L2 := (A0.ext E1).keep K2 (own_ni nen) (own_ni ned)
  obtain ⟨v3, T3, L3, X3, Q3, st3⟩ := own_backF X2 hx hZ hown (xi := own_y48) (hw 347 rfl) (hw 237 rfl) (mvT hZ (hw 238 rfl)) (hw 239 rfl) (hw 240 rfl) (hw 241 rfl) (hw 242 rfl) (hw 243 rfl) (by decide) (backOf (W := 0) (rmA1M l Z a0 hw [] T2.heap n0 en ge md ed k vs hvs L2 ge2 lo gl a1 "java/util/ArrayList" A2.1 (hw 348 rfl)) hZ (hw 244 rfl) (hw 2 rfl) (by decide) (by decide)) (b := en) L2.1.1 (g := (mkF m 11 #[.val (.ref ho), .val (.ref y)] [(.ref a1), (.ref en)])) rfl (by rw [hml]; rfl) (argsL := [(.ref a1)]) (rest := []) (lenOf pd__Ljava_lang_Object__Z rfl) rfl rfl (Nat.le_of_eq rfl) (hb hby d42_11) rfl (by decide) (by decide)
  obtain ⟨ed3, k3, rfl, N3q, K3, ge3, gl3, L3⟩ := Q3
  have N3 := Fr.app N2 N3q
  refine own_go st3 ?_
  show own_R _ _ _ _ T3 (mkF m 16 #[.val (.ref ho), .val (.ref y)] [(.int (1 : Int32))])
  refine own_go (fun _ => XS.pop X3.here hx rfl (hb hby d42_16) rfl rfl) ?_
  show own_R _ _ _ _ T3 (mkF m 17 #[.val (.ref ho), .val (.ref y)] [])
  exact own_end X3 none (fun _ => rfl) hlk (fun fs hr => X3.returnOut hx hret (hb hby d42_17) hr) ⟨ed3, k3, _, _, rfl, N3, K12.trans K3 (fun z hz => Or.inl hz), ge3, gl3, L3, by simp⟩ (by decide) (by decide)
theorem own_padv (n : Nat) (d : Value) : ∀ i, (List.replicate n d).getD i d = ([] : List Value).getD i d := fun i => by
  simp [List.getD_eq_getElem?_getD, List.getElem?_replicate]; split <;> rfl
set_option maxRecDepth 65536 in
set_option maxHeartbeats 4000000 in
theorem rmFi0 (l : Launch) (Z : State) (a0 : Array Value) (hw : own_T a0 Z) (ws : List Jvm.Cond) (h0 : Heap) (n0 : Nat) (a : Addr) (k : ClassId) (g9 : n0 ≤ a) (A : Arv Z h0 a k .int (Int32.ofNat 0) [] (.int 0)) (z : Int32) :
    own_C l Z own_y27 jdk_65_method_103_code 4 none ws ({ frames := 0, cells := 0, slots := 0, locals := 0 } : Room) #[(.ref a), (.int z)] h0 (own_Qk a h0 n0) := by
  refine own_body (ls := #[.val (.ref a), .val (.int z), .unset, .unset]) pn_15 (fun m => by first | (simp [entryFrame, mkF, argsToLocals, Value.category]; done) | rfl) ?_
  intro p e s m below meth c T0 hZ hx hby hml hown hnm hret hlk X0 e0
  replace hml : c.maxLocals = 4 := hml
  have N0 := Fr.nil n0
  have Av0 : Arv Z h0 a k .int (Int32.ofNat 0) (List.replicate 0 (.int 0)) (.int 0) := A.pad (own_padv 0 _)
  have K0 := Keep.refl h0 [a]
  refine own_go (fun _ => XS.iconst X0.here hx rfl (hb hby d15_0)) ?_
  refine own_go (fun _ => XS.istoreN X0.here hx rfl (hb hby d15_1) rfl (l' := #[.val (.ref a), .val (.int z), .val (.int (0 : Int32)), .unset]) rfl) ?_
  refine own_go (fun _ => XS.aloadN X0.here hx rfl (hb hby d15_2) rfl rfl) ?_
  show own_R _ _ _ _ T0 (mkF m 3 #[.val (.ref a), .val (.int z), .val (.int (0 : Int32)), .unset] [(.ref a)])
  refine own_go (own_len X0 hx hZ e0 A (g := (mkF m 3 #[.val (.ref a), .val (.int z), .val (.int (0 : Int32)), .unset] [(.ref a)])) rfl rfl (hb hby d15_3)) ?_
  show own_R _ _ _ _ T0 (mkF m 4 #[.val (.ref a), .val (.int z), .val (.int (0 : Int32)), .unset] [(.int (Int32.ofNat 0))])
  refine own_go (fun _ => XS.istoreN X0.here hx rfl (hb hby d15_4) rfl (l' := #[.val (.ref a), .val (.int z), .val (.int (0 : Int32)), .val (.int (Int32.ofNat 0))]) rfl) ?_
  refine own_go (fun _ => XS.iloadN X0.here hx rfl (hb hby d15_5) rfl ) ?_
  refine own_go (fun _ => XS.iloadN X0.here hx rfl (hb hby d15_6) rfl ) ?_
  show own_R _ _ _ _ T0 (mkF m 7 #[.val (.ref a), .val (.int z), .val (.int (0 : Int32)), .val (.int (Int32.ofNat 0))] [(.int (Int32.ofNat 0)), (.int (0 : Int32))])
  refine own_go (fun _ => XS.icmpYes X0.here hx rfl (pc0 := 7) (pc' := 20) rfl (hb hby d15_7) rfl (flt (by decide : ¬ ((0 : Int32) < (Int32.ofNat 0)))).2.1 (by decide) (by decide)) ?_
  show own_R _ _ _ _ T0 (mkF m 20 #[.val (.ref a), .val (.int z), .val (.int (0 : Int32)), .val (.int (Int32.ofNat 0))] [])
  exact own_end X0 none (fun _ => rfl) hlk (fun fs hr => X0.returnOut hx hret (hb hby d15_20) hr) (by show own_Qk a h0 n0 _ T0.heap _; rw [e0]; exact ⟨rfl, N0, K0⟩) (by decide) (by decide)
set_option maxRecDepth 65536 in
set_option maxHeartbeats 4000000 in
theorem rmFi1 (l : Launch) (Z : State) (a0 : Array Value) (hw : own_T a0 Z) (ws : List Jvm.Cond) (h0 : Heap) (n0 : Nat) (a : Addr) (k : ClassId) (g9 : n0 ≤ a) (A : Arv Z h0 a k .int (Int32.ofNat 1) [] (.int 0)) (z : Int32) :
    own_C l Z own_y27 jdk_65_method_103_code 4 none ws ({ frames := 0, cells := 0, slots := 0, locals := 0 } : Room) #[(.ref a), (.int z)] h0 (own_Qk a h0 n0) := by
  refine own_body (ls := #[.val (.ref a), .val (.int z), .unset, .unset]) pn_15 (fun m => by first | (simp [entryFrame, mkF, argsToLocals, Value.category]; done) | rfl) ?_
  intro p e s m below meth c T0 hZ hx hby hml hown hnm hret hlk X0 e0
  replace hml : c.maxLocals = 4 := hml
  have N0 := Fr.nil n0
  have Av0 : Arv Z h0 a k .int (Int32.ofNat 1) (List.replicate 1 (.int 0)) (.int 0) := A.pad (own_padv 1 _)
  have K0 := Keep.refl h0 [a]
  refine own_go (fun _ => XS.iconst X0.here hx rfl (hb hby d15_0)) ?_
  refine own_go (fun _ => XS.istoreN X0.here hx rfl (hb hby d15_1) rfl (l' := #[.val (.ref a), .val (.int z), .val (.int (0 : Int32)), .unset]) rfl) ?_
  refine own_go (fun _ => XS.aloadN X0.here hx rfl (hb hby d15_2) rfl rfl) ?_
  show own_R _ _ _ _ T0 (mkF m 3 #[.val (.ref a), .val (.int z), .val (.int (0 : Int32)), .unset] [(.ref a)])
  refine own_go (own_len X0 hx hZ e0 A (g := (mkF m 3 #[.val (.ref a), .val (.int z), .val (.int (0 : Int32)), .unset] [(.ref a)])) rfl rfl (hb hby d15_3)) ?_
  show own_R _ _ _ _ T0 (mkF m 4 #[.val (.ref a), .val (.int z), .val (.int (0 : Int32)), .unset] [(.int (Int32.ofNat 1))])
  refine own_go (fun _ => XS.istoreN X0.here hx rfl (hb hby d15_4) rfl (l' := #[.val (.ref a), .val (.int z), .val (.int (0 : Int32)), .val (.int (Int32.ofNat 1))]) rfl) ?_
  refine own_go (fun _ => XS.iloadN X0.here hx rfl (hb hby d15_5) rfl ) ?_
  refine own_go (fun _ => XS.iloadN X0.here hx rfl (hb hby d15_6) rfl ) ?_
  show own_R _ _ _ _ T0 (mkF m 7 #[.val (.ref a), .val (.int z), .val (.int (0 : Int32)), .val (.int (Int32.ofNat 1))] [(.int (Int32.ofNat 1)), (.int (0 : Int32))])
  refine own_go (fun _ => XS.icmpNo X0.here hx rfl (hb hby d15_7) rfl (tlt (by decide : ((0 : Int32) : Int32) < (Int32.ofNat 1))).2.1) ?_
  show own_R _ _ _ _ T0 (mkF m 10 #[.val (.ref a), .val (.int z), .val (.int (0 : Int32)), .val (.int (Int32.ofNat 1))] [])
  refine own_go (fun _ => XS.aloadN X0.here hx rfl (hb hby d15_10) rfl rfl) ?_
  refine own_go (fun _ => XS.iloadN X0.here hx rfl (hb hby d15_11) rfl ) ?_
  refine own_go (fun _ => XS.iloadN X0.here hx rfl (hb hby d15_12) rfl ) ?_
  show own_R _ _ _ _ T0 (mkF m 13 #[.val (.ref a), .val (.int z), .val (.int (0 : Int32)), .val (.int (Int32.ofNat 1))] [(.int z), (.int (0 : Int32)), (.ref a)])
  obtain ⟨T1, h1, X1, e1, W1, Av1, st1⟩ := own_stI X0 hx hZ e0 Av0 (j := (0 : Int32)) ⟨by decide, by decide⟩ 0 rfl (by simp) (g := (mkF m 13 #[.val (.ref a), .val (.int z), .val (.int (0 : Int32)), .val (.int (Int32.ofNat 1))] [(.int z), (.int (0 : Int32)), (.ref a)])) rfl rfl (hb hby d15_13)
  refine own_go st1 ?_
  show own_R _ _ _ _ T1 (mkF m 14 #[.val (.ref a), .val (.int z), .val (.int (0 : Int32)), .val (.int (Int32.ofNat 1))] [])
  have K1 := K0.wr W1 (Or.inl (by simp))
  have N1 := Fr.snoc X1 N0 g9
  refine own_go (fun _ => XS.iinc X1.here hx rfl (hb hby d15_14) rfl (l' := #[.val (.ref a), .val (.int z), .val (.int ((0 : Int32) + (1 : Int32))), .val (.int (Int32.ofNat 1))]) rfl) ?_
  show own_R _ _ _ _ T1 (mkF m 17 #[.val (.ref a), .val (.int z), .val (.int ((0 : Int32) + (1 : Int32))), .val (.int (Int32.ofNat 1))] [])
  refine own_go (fun _ => XS.goto X1.here hx rfl (pc0 := 17) (pc' := 5) rfl (hb hby d15_17) (by decide) (by decide)) ?_
  show own_R _ _ _ _ T1 (mkF m 5 #[.val (.ref a), .val (.int z), .val (.int ((0 : Int32) + (1 : Int32))), .val (.int (Int32.ofNat 1))] [])
  rw [show ((0 : Int32) + (1 : Int32)) = (1 : Int32) from by decide]
  show own_R _ _ _ _ T1 (mkF m 5 #[.val (.ref a), .val (.int z), .val (.int (1 : Int32)), .val (.int (Int32.ofNat 1))] [])
  refine own_go (fun _ => XS.iloadN X1.here hx rfl (hb hby d15_5) rfl ) ?_
  refine own_go (fun _ => XS.iloadN X1.here hx rfl (hb hby d15_6) rfl ) ?_
  show own_R _ _ _ _ T1 (mkF m 7 #[.val (.ref a), .val (.int z), .val (.int (1 : Int32)), .val (.int (Int32.ofNat 1))] [(.int (Int32.ofNat 1)), (.int (1 : Int32))])
  refine own_go (fun _ => XS.icmpYes X1.here hx rfl (pc0 := 7) (pc' := 20) rfl (hb hby d15_7) rfl (flt (by decide : ¬ ((1 : Int32) < (Int32.ofNat 1)))).2.1 (by decide) (by decide)) ?_
  show own_R _ _ _ _ T1 (mkF m 20 #[.val (.ref a), .val (.int z), .val (.int (1 : Int32)), .val (.int (Int32.ofNat 1))] [])
  exact own_end X1 none (fun _ => rfl) hlk (fun fs hr => X1.returnOut hx hret (hb hby d15_20) hr) (by show own_Qk a h0 n0 _ T1.heap _; rw [e1]; exact ⟨rfl, N1, K1⟩) (by decide) (by decide)
set_option maxRecDepth 65536 in
set_option maxHeartbeats 4000000 in
theorem rmFi2 (l : Launch) (Z : State) (a0 : Array Value) (hw : own_T a0 Z) (ws : List Jvm.Cond) (h0 : Heap) (n0 : Nat) (a : Addr) (k : ClassId) (g9 : n0 ≤ a) (A : Arv Z h0 a k .int (Int32.ofNat 2) [] (.int 0)) (z : Int32) :
    own_C l Z own_y27 jdk_65_method_103_code 4 none ws ({ frames := 0, cells := 0, slots := 0, locals := 0 } : Room) #[(.ref a), (.int z)] h0 (own_Qk a h0 n0) := by
  refine own_body (ls := #[.val (.ref a), .val (.int z), .unset, .unset]) pn_15 (fun m => by first | (simp [entryFrame, mkF, argsToLocals, Value.category]; done) | rfl) ?_
  intro p e s m below meth c T0 hZ hx hby hml hown hnm hret hlk X0 e0
  replace hml : c.maxLocals = 4 := hml
  have N0 := Fr.nil n0
  have Av0 : Arv Z h0 a k .int (Int32.ofNat 2) (List.replicate 2 (.int 0)) (.int 0) := A.pad (own_padv 2 _)
  have K0 := Keep.refl h0 [a]
  refine own_go (fun _ => XS.iconst X0.here hx rfl (hb hby d15_0)) ?_
  refine own_go (fun _ => XS.istoreN X0.here hx rfl (hb hby d15_1) rfl (l' := #[.val (.ref a), .val (.int z), .val (.int (0 : Int32)), .unset]) rfl) ?_
  refine own_go (fun _ => XS.aloadN X0.here hx rfl (hb hby d15_2) rfl rfl) ?_
  show own_R _ _ _ _ T0 (mkF m 3 #[.val (.ref a), .val (.int z), .val (.int (0 : Int32)), .unset] [(.ref a)])
  refine own_go (own_len X0 hx hZ e0 A (g := (mkF m 3 #[.val (.ref a), .val (.int z), .val (.int (0 : Int32)), .unset] [(.ref a)])) rfl rfl (hb hby d15_3)) ?_
  show own_R _ _ _ _ T0 (mkF m 4 #[.val (.ref a), .val (.int z), .val (.int (0 : Int32)), .unset] [(.int (Int32.ofNat 2))])
  refine own_go (fun _ => XS.istoreN X0.here hx rfl (hb hby d15_4) rfl (l' := #[.val (.ref a), .val (.int z), .val (.int (0 : Int32)), .val (.int (Int32.ofNat 2))]) rfl) ?_
  refine own_go (fun _ => XS.iloadN X0.here hx rfl (hb hby d15_5) rfl ) ?_
  refine own_go (fun _ => XS.iloadN X0.here hx rfl (hb hby d15_6) rfl ) ?_
  show own_R _ _ _ _ T0 (mkF m 7 #[.val (.ref a), .val (.int z), .val (.int (0 : Int32)), .val (.int (Int32.ofNat 2))] [(.int (Int32.ofNat 2)), (.int (0 : Int32))])
  refine own_go (fun _ => XS.icmpNo X0.here hx rfl (hb hby d15_7) rfl (tlt (by decide : ((0 : Int32) : Int32) < (Int32.ofNat 2))).2.1) ?_
  show own_R _ _ _ _ T0 (mkF m 10 #[.val (.ref a), .val (.int z), .val (.int (0 : Int32)), .val (.int (Int32.ofNat 2))] [])
  refine own_go (fun _ => XS.aloadN X0.here hx rfl (hb hby d15_10) rfl rfl) ?_
  refine own_go (fun _ => XS.iloadN X0.here hx rfl (hb hby d15_11) rfl ) ?_
  refine own_go (fun _ => XS.iloadN X0.here hx rfl (hb hby d15_12) rfl ) ?_
  show own_R _ _ _ _ T0 (mkF m 13 #[.val (.ref a), .val (.int z), .val (.int (0 : Int32)), .val (.int (Int32.ofNat 2))] [(.int z), (.int (0 : Int32)), (.ref a)])
  obtain ⟨T1, h1, X1, e1, W1, Av1, st1⟩ := own_stI X0 hx hZ e0 Av0 (j := (0 : Int32)) ⟨by decide, by decide⟩ 0 rfl (by simp) (g := (mkF m 13 #[.val (.ref a), .val (.int z), .val (.int (0 : Int32)), .val (.int (Int32.ofNat 2))] [(.int z), (.int (0 : Int32)), (.ref a)])) rfl rfl (hb hby d15_13)
  refine own_go st1 ?_
  show own_R _ _ _ _ T1 (mkF m 14 #[.val (.ref a), .val (.int z), .val (.int (0 : Int32)), .val (.int (Int32.ofNat 2))] [])
  have K1 := K0.wr W1 (Or.inl (by simp))
  have N1 := Fr.snoc X1 N0 g9
  refine own_go (fun _ => XS.iinc X1.here hx rfl (hb hby d15_14) rfl (l' := #[.val (.ref a), .val (.int z), .val (.int ((0 : Int32) + (1 : Int32))), .val (.int (Int32.ofNat 2))]) rfl) ?_
  show own_R _ _ _ _ T1 (mkF m 17 #[.val (.ref a), .val (.int z), .val (.int ((0 : Int32) + (1 : Int32))), .val (.int (Int32.ofNat 2))] [])
  refine own_go (fun _ => XS.goto X1.here hx rfl (pc0 := 17) (pc' := 5) rfl (hb hby d15_17) (by decide) (by decide)) ?_
  show own_R _ _ _ _ T1 (mkF m 5 #[.val (.ref a), .val (.int z), .val (.int ((0 : Int32) + (1 : Int32))), .val (.int (Int32.ofNat 2))] [])
  rw [show ((0 : Int32) + (1 : Int32)) = (1 : Int32) from by decide]
  show own_R _ _ _ _ T1 (mkF m 5 #[.val (.ref a), .val (.int z), .val (.int (1 : Int32)), .val (.int (Int32.ofNat 2))] [])
  refine own_go (fun _ => XS.iloadN X1.here hx rfl (hb hby d15_5) rfl ) ?_
  refine own_go (fun _ => XS.iloadN X1.here hx rfl (hb hby d15_6) rfl ) ?_
  show own_R _ _ _ _ T1 (mkF m 7 #[.val (.ref a), .val (.int z), .val (.int (1 : Int32)), .val (.int (Int32.ofNat 2))] [(.int (Int32.ofNat 2)), (.int (1 : Int32))])
  refine own_go (fun _ => XS.icmpNo X1.here hx rfl (hb hby d15_7) rfl (tlt (by decide : ((1 : Int32) : Int32) < (Int32.ofNat 2))).2.1) ?_
  show own_R _ _ _ _ T1 (mkF m 10 #[.val (.ref a), .val (.int z), .val (.int (1 : Int32)), .val (.int (Int32.ofNat 2))] [])
  refine own_go (fun _ => XS.aloadN X1.here hx rfl (hb hby d15_10) rfl rfl) ?_
  refine own_go (fun _ => XS.iloadN X1.here hx rfl (hb hby d15_11) rfl ) ?_
  refine own_go (fun _ => XS.iloadN X1.here hx rfl (hb hby d15_12) rfl ) ?_
  show own_R _ _ _ _ T1 (mkF m 13 #[.val (.ref a), .val (.int z), .val (.int (1 : Int32)), .val (.int (Int32.ofNat 2))] [(.int z), (.int (1 : Int32)), (.ref a)])
  obtain ⟨T2, h2, X2, e2, W2, Av2, st2⟩ := own_stI X1 hx hZ e1 Av1 (j := (1 : Int32)) ⟨by decide, by decide⟩ 1 rfl (by simp) (g := (mkF m 13 #[.val (.ref a), .val (.int z), .val (.int (1 : Int32)), .val (.int (Int32.ofNat 2))] [(.int z), (.int (1 : Int32)), (.ref a)])) rfl rfl (hb hby d15_13)
  refine own_go st2 ?_
  show own_R _ _ _ _ T2 (mkF m 14 #[.val (.ref a), .val (.int z), .val (.int (1 : Int32)), .val (.int (Int32.ofNat 2))] [])
  have K2 := K1.wr W2 (Or.inl (by simp))
  have N2 := Fr.snoc X2 N1 g9
  refine own_go (fun _ => XS.iinc X2.here hx rfl (hb hby d15_14) rfl (l' := #[.val (.ref a), .val (.int z), .val (.int ((1 : Int32) + (1 : Int32))), .val (.int (Int32.ofNat 2))]) rfl) ?_
  show own_R _ _ _ _ T2 (mkF m 17 #[.val (.ref a), .val (.int z), .val (.int ((1 : Int32) + (1 : Int32))), .val (.int (Int32.ofNat 2))] [])
  refine own_go (fun _ => XS.goto X2.here hx rfl (pc0 := 17) (pc' := 5) rfl (hb hby d15_17) (by decide) (by decide)) ?_
  show own_R _ _ _ _ T2 (mkF m 5 #[.val (.ref a), .val (.int z), .val (.int ((1 : Int32) + (1 : Int32))), .val (.int (Int32.ofNat 2))] [])
  rw [show ((1 : Int32) + (1 : Int32)) = (2 : Int32) from by decide]
  show own_R _ _ _ _ T2 (mkF m 5 #[.val (.ref a), .val (.int z), .val (.int (2 : Int32)), .val (.int (Int32.ofNat 2))] [])
  refine own_go (fun _ => XS.iloadN X2.here hx rfl (hb hby d15_5) rfl ) ?_
  refine own_go (fun _ => XS.iloadN X2.here hx rfl (hb hby d15_6) rfl ) ?_
  show own_R _ _ _ _ T2 (mkF m 7 #[.val (.ref a), .val (.int z), .val (.int (2 : Int32)), .val (.int (Int32.ofNat 2))] [(.int (Int32.ofNat 2)), (.int (2 : Int32))])
  refine own_go (fun _ => XS.icmpYes X2.here hx rfl (pc0 := 7) (pc' := 20) rfl (hb hby d15_7) rfl (flt (by decide : ¬ ((2 : Int32) < (Int32.ofNat 2)))).2.1 (by decide) (by decide)) ?_
  show own_R _ _ _ _ T2 (mkF m 20 #[.val (.ref a), .val (.int z), .val (.int (2 : Int32)), .val (.int (Int32.ofNat 2))] [])
  exact own_end X2 none (fun _ => rfl) hlk (fun fs hr => X2.returnOut hx hret (hb hby d15_20) hr) (by show own_Qk a h0 n0 _ T2.heap _; rw [e2]; exact ⟨rfl, N2, K2⟩) (by decide) (by decide)
set_option maxRecDepth 65536 in
set_option maxHeartbeats 4000000 in
theorem rmFi3 (l : Launch) (Z : State) (a0 : Array Value) (hw : own_T a0 Z) (ws : List Jvm.Cond) (h0 : Heap) (n0 : Nat) (a : Addr) (k : ClassId) (g9 : n0 ≤ a) (A : Arv Z h0 a k .int (Int32.ofNat 3) [] (.int 0)) (z : Int32) :
    own_C l Z own_y27 jdk_65_method_103_code 4 none ws ({ frames := 0, cells := 0, slots := 0, locals := 0 } : Room) #[(.ref a), (.int z)] h0 (own_Qk a h0 n0) := by
  refine own_body (ls := #[.val (.ref a), .val (.int z), .unset, .unset]) pn_15 (fun m => by first | (simp [entryFrame, mkF, argsToLocals, Value.category]; done) | rfl) ?_
  intro p e s m below meth c T0 hZ hx hby hml hown hnm hret hlk X0 e0
  replace hml : c.maxLocals = 4 := hml
  have N0 := Fr.nil n0
  have Av0 : Arv Z h0 a k .int (Int32.ofNat 3) (List.replicate 3 (.int 0)) (.int 0) := A.pad (own_padv 3 _)
  have K0 := Keep.refl h0 [a]
  refine own_go (fun _ => XS.iconst X0.here hx rfl (hb hby d15_0)) ?_
  refine own_go (fun _ => XS.istoreN X0.here hx rfl (hb hby d15_1) rfl (l' := #[.val (.ref a), .val (.int z), .val (.int (0 : Int32)), .unset]) rfl) ?_
  refine own_go (fun _ => XS.aloadN X0.here hx rfl (hb hby d15_2) rfl rfl) ?_
  show own_R _ _ _ _ T0 (mkF m 3 #[.val (.ref a), .val (.int z), .val (.int (0 : Int32)), .unset] [(.ref a)])
  refine own_go (own_len X0 hx hZ e0 A (g := (mkF m 3 #[.val (.ref a), .val (.int z), .val (.int (0 : Int32)), .unset] [(.ref a)])) rfl rfl (hb hby d15_3)) ?_
  show own_R _ _ _ _ T0 (mkF m 4 #[.val (.ref a), .val (.int z), .val (.int (0 : Int32)), .unset] [(.int (Int32.ofNat 3))])
  refine own_go (fun _ => XS.istoreN X0.here hx rfl (hb hby d15_4) rfl (l' := #[.val (.ref a), .val (.int z), .val (.int (0 : Int32)), .val (.int (Int32.ofNat 3))]) rfl) ?_
  refine own_go (fun _ => XS.iloadN X0.here hx rfl (hb hby d15_5) rfl ) ?_
  refine own_go (fun _ => XS.iloadN X0.here hx rfl (hb hby d15_6) rfl ) ?_
  show own_R _ _ _ _ T0 (mkF m 7 #[.val (.ref a), .val (.int z), .val (.int (0 : Int32)), .val (.int (Int32.ofNat 3))] [(.int (Int32.ofNat 3)), (.int (0 : Int32))])
  refine own_go (fun _ => XS.icmpNo X0.here hx rfl (hb hby d15_7) rfl (tlt (by decide : ((0 : Int32) : Int32) < (Int32.ofNat 3))).2.1) ?_
  show own_R _ _ _ _ T0 (mkF m 10 #[.val (.ref a), .val (.int z), .val (.int (0 : Int32)), .val (.int (Int32.ofNat 3))] [])
  refine own_go (fun _ => XS.aloadN X0.here hx rfl (hb hby d15_10) rfl rfl) ?_
  refine own_go (fun _ => XS.iloadN X0.here hx rfl (hb hby d15_11) rfl ) ?_
  refine own_go (fun _ => XS.iloadN X0.here hx rfl (hb hby d15_12) rfl ) ?_
  show own_R _ _ _ _ T0 (mkF m 13 #[.val (.ref a), .val (.int z), .val (.int (0 : Int32)), .val (.int (Int32.ofNat 3))] [(.int z), (.int (0 : Int32)), (.ref a)])
  obtain ⟨T1, h1, X1, e1, W1, Av1, st1⟩ := own_stI X0 hx hZ e0 Av0 (j := (0 : Int32)) ⟨by decide, by decide⟩ 0 rfl (by simp) (g := (mkF m 13 #[.val (.ref a), .val (.int z), .val (.int (0 : Int32)), .val (.int (Int32.ofNat 3))] [(.int z), (.int (0 : Int32)), (.ref a)])) rfl rfl (hb hby d15_13)
  refine own_go st1 ?_
  show own_R _ _ _ _ T1 (mkF m 14 #[.val (.ref a), .val (.int z), .val (.int (0 : Int32)), .val (.int (Int32.ofNat 3))] [])
  have K1 := K0.wr W1 (Or.inl (by simp))
  have N1 := Fr.snoc X1 N0 g9
  refine own_go (fun _ => XS.iinc X1.here hx rfl (hb hby d15_14) rfl (l' := #[.val (.ref a), .val (.int z), .val (.int ((0 : Int32) + (1 : Int32))), .val (.int (Int32.ofNat 3))]) rfl) ?_
  show own_R _ _ _ _ T1 (mkF m 17 #[.val (.ref a), .val (.int z), .val (.int ((0 : Int32) + (1 : Int32))), .val (.int (Int32.ofNat 3))] [])
  refine own_go (fun _ => XS.goto X1.here hx rfl (pc0 := 17) (pc' := 5) rfl (hb hby d15_17) (by decide) (by decide)) ?_
  show own_R _ _ _ _ T1 (mkF m 5 #[.val (.ref a), .val (.int z), .val (.int ((0 : Int32) + (1 : Int32))), .val (.int (Int32.ofNat 3))] [])
  rw [show ((0 : Int32) + (1 : Int32)) = (1 : Int32) from by decide]
  show own_R _ _ _ _ T1 (mkF m 5 #[.val (.ref a), .val (.int z), .val (.int (1 : Int32)), .val (.int (Int32.ofNat 3))] [])
  refine own_go (fun _ => XS.iloadN X1.here hx rfl (hb hby d15_5) rfl ) ?_
  refine own_go (fun _ => XS.iloadN X1.here hx rfl (hb hby d15_6) rfl ) ?_
  show own_R _ _ _ _ T1 (mkF m 7 #[.val (.ref a), .val (.int z), .val (.int (1 : Int32)), .val (.int (Int32.ofNat 3))] [(.int (Int32.ofNat 3)), (.int (1 : Int32))])
  refine own_go (fun _ => XS.icmpNo X1.here hx rfl (hb hby d15_7) rfl (tlt (by decide : ((1 : Int32) : Int32) < (Int32.ofNat 3))).2.1) ?_
  show own_R _ _ _ _ T1 (mkF m 10 #[.val (.ref a), .val (.int z), .val (.int (1 : Int32)), .val (.int (Int32.ofNat 3))] [])
  refine own_go (fun _ => XS.aloadN X1.here hx rfl (hb hby d15_10) rfl rfl) ?_
  refine own_go (fun _ => XS.iloadN X1.here hx rfl (hb hby d15_11) rfl ) ?_
  refine own_go (fun _ => XS.iloadN X1.here hx rfl (hb hby d15_12) rfl ) ?_
  show own_R _ _ _ _ T1 (mkF m 13 #[.val (.ref a), .val (.int z), .val (.int (1 : Int32)), .val (.int (Int32.ofNat 3))] [(.int z), (.int (1 : Int32)), (.ref a)])
  obtain ⟨T2, h2, X2, e2, W2, Av2, st2⟩ := own_stI X1 hx hZ e1 Av1 (j := (1 : Int32)) ⟨by decide, by decide⟩ 1 rfl (by simp) (g := (mkF m 13 #[.val (.ref a), .val (.int z), .val (.int (1 : Int32)), .val (.int (Int32.ofNat 3))] [(.int z), (.int (1 : Int32)), (.ref a)])) rfl rfl (hb hby d15_13)
  refine own_go st2 ?_
  show own_R _ _ _ _ T2 (mkF m 14 #[.val (.ref a), .val (.int z), .val (.int (1 : Int32)), .val (.int (Int32.ofNat 3))] [])
  have K2 := K1.wr W2 (Or.inl (by simp))
  have N2 := Fr.snoc X2 N1 g9
  refine own_go (fun _ => XS.iinc X2.here hx rfl (hb hby d15_14) rfl (l' := #[.val (.ref a), .val (.int z), .val (.int ((1 : Int32) + (1 : Int32))), .val (.int (Int32.ofNat 3))]) rfl) ?_
  show own_R _ _ _ _ T2 (mkF m 17 #[.val (.ref a), .val (.int z), .val (.int ((1 : Int32) + (1 : Int32))), .val (.int (Int32.ofNat 3))] [])
  refine own_go (fun _ => XS.goto X2.here hx rfl (pc0 := 17) (pc' := 5) rfl (hb hby d15_17) (by decide) (by decide)) ?_
  show own_R _ _ _ _ T2 (mkF m 5 #[.val (.ref a), .val (.int z), .val (.int ((1 : Int32) + (1 : Int32))), .val (.int (Int32.ofNat 3))] [])
  rw [show ((1 : Int32) + (1 : Int32)) = (2 : Int32) from by decide]
  show own_R _ _ _ _ T2 (mkF m 5 #[.val (.ref a), .val (.int z), .val (.int (2 : Int32)), .val (.int (Int32.ofNat 3))] [])
  refine own_go (fun _ => XS.iloadN X2.here hx rfl (hb hby d15_5) rfl ) ?_
  refine own_go (fun _ => XS.iloadN X2.here hx rfl (hb hby d15_6) rfl ) ?_
  show own_R _ _ _ _ T2 (mkF m 7 #[.val (.ref a), .val (.int z), .val (.int (2 : Int32)), .val (.int (Int32.ofNat 3))] [(.int (Int32.ofNat 3)), (.int (2 : Int32))])
  refine own_go (fun _ => XS.icmpNo X2.here hx rfl (hb hby d15_7) rfl (tlt (by decide : ((2 : Int32) : Int32) < (Int32.ofNat 3))).2.1) ?_
  show own_R _ _ _ _ T2 (mkF m 10 #[.val (.ref a), .val (.int z), .val (.int (2 : Int32)), .val (.int (Int32.ofNat 3))] [])
  refine own_go (fun _ => XS.aloadN X2.here hx rfl (hb hby d15_10) rfl rfl) ?_
  refine own_go (fun _ => XS.iloadN X2.here hx rfl (hb hby d15_11) rfl ) ?_
  refine own_go (fun _ => XS.iloadN X2.here hx rfl (hb hby d15_12) rfl ) ?_
  show own_R _ _ _ _ T2 (mkF m 13 #[.val (.ref a), .val (.int z), .val (.int (2 : Int32)), .val (.int (Int32.ofNat 3))] [(.int z), (.int (2 : Int32)), (.ref a)])
  obtain ⟨T3, h3, X3, e3, W3, Av3, st3⟩ := own_stI X2 hx hZ e2 Av2 (j := (2 : Int32)) ⟨by decide, by decide⟩ 2 rfl (by simp) (g := (mkF m 13 #[.val (.ref a), .val (.int z), .val (.int (2 : Int32)), .val (.int (Int32.ofNat 3))] [(.int z), (.int (2 : Int32)), (.ref a)])) rfl rfl (hb hby d15_13)
  refine own_go st3 ?_
  show own_R _ _ _ _ T3 (mkF m 14 #[.val (.ref a), .val (.int z), .val (.int (2 : Int32)), .val (.int (Int32.ofNat 3))] [])
  have K3 := K2.wr W3 (Or.inl (by simp))
  have N3 := Fr.snoc X3 N2 g9
  refine own_go (fun _ => XS.iinc X3.here hx rfl (hb hby d15_14) rfl (l' := #[.val (.ref a), .val (.int z), .val (.int ((2 : Int32) + (1 : Int32))), .val (.int (Int32.ofNat 3))]) rfl) ?_
  show own_R _ _ _ _ T3 (mkF m 17 #[.val (.ref a), .val (.int z), .val (.int ((2 : Int32) + (1 : Int32))), .val (.int (Int32.ofNat 3))] [])
  refine own_go (fun _ => XS.goto X3.here hx rfl (pc0 := 17) (pc' := 5) rfl (hb hby d15_17) (by decide) (by decide)) ?_
  show own_R _ _ _ _ T3 (mkF m 5 #[.val (.ref a), .val (.int z), .val (.int ((2 : Int32) + (1 : Int32))), .val (.int (Int32.ofNat 3))] [])
  rw [show ((2 : Int32) + (1 : Int32)) = (3 : Int32) from by decide]
  show own_R _ _ _ _ T3 (mkF m 5 #[.val (.ref a), .val (.int z), .val (.int (3 : Int32)), .val (.int (Int32.ofNat 3))] [])
  refine own_go (fun _ => XS.iloadN X3.here hx rfl (hb hby d15_5) rfl ) ?_
  refine own_go (fun _ => XS.iloadN X3.here hx rfl (hb hby d15_6) rfl ) ?_
  show own_R _ _ _ _ T3 (mkF m 7 #[.val (.ref a), .val (.int z), .val (.int (3 : Int32)), .val (.int (Int32.ofNat 3))] [(.int (Int32.ofNat 3)), (.int (3 : Int32))])
  refine own_go (fun _ => XS.icmpYes X3.here hx rfl (pc0 := 7) (pc' := 20) rfl (hb hby d15_7) rfl (flt (by decide : ¬ ((3 : Int32) < (Int32.ofNat 3)))).2.1 (by decide) (by decide)) ?_
  show own_R _ _ _ _ T3 (mkF m 20 #[.val (.ref a), .val (.int z), .val (.int (3 : Int32)), .val (.int (Int32.ofNat 3))] [])
  exact own_end X3 none (fun _ => rfl) hlk (fun fs hr => X3.returnOut hx hret (hb hby d15_20) hr) (by show own_Qk a h0 n0 _ T3.heap _; rw [e3]; exact ⟨rfl, N3, K3⟩) (by decide) (by decide)
set_option maxRecDepth 65536 in
set_option maxHeartbeats 4000000 in
theorem rmAny0 (l : Launch) (Z : State) (a0 : Array Value) (hw : own_T a0 Z) (ws : List Jvm.Cond) (h0 : Heap) (n0 : Nat) (a ua : Addr) (k : ClassId) (F : Fld Z h0 a "com/example/zellwerk/zellwerk/service/Holdings" "until" "[D" (.ref ua)) (A : Arv Z h0 ua k .double (Int32.ofNat 0) [] (.double 0)) :
    own_C l Z own_y5 prog_48_method_2_code 1 (some .boolean) ws ({ frames := 0, cells := 0, slots := 0, locals := 0 } : Room) #[(.ref a)] h0 (own_Qr (some (.int 0)) h0 n0) := by
  refine own_body (ls := #[.val (.ref a)]) pn_21 (fun m => by first | (simp [entryFrame, mkF, argsToLocals, Value.category]; done) | rfl) ?_
  intro p e s m below meth c T0 hZ hx hby hml hown hnm hret hlk X0 e0
  replace hml : c.maxLocals = 1 := hml
  have N0 := Fr.nil n0
  refine own_go (fun _ => XS.aloadN X0.here hx rfl (hb hby d21_0) rfl rfl) ?_
  show own_R _ _ _ _ T0 (mkF m 1 #[.val (.ref a)] [(.ref a)])
  obtain ⟨T1, X1, e1, st1⟩ := getF X0 hx hZ hown (host := "") (Or.inl (hw 126 rfl)) Via.refl e0 F (g := (mkF m 1 #[.val (.ref a)] [(.ref a)])) rfl rfl (hb hby d21_1)
  refine own_go st1 ?_
  show own_R _ _ _ _ T1 (mkF m 4 #[.val (.ref a)] [(.ref ua)])
  refine own_go (own_len X1 hx hZ e1 A (g := (mkF m 4 #[.val (.ref a)] [(.ref ua)])) rfl rfl (hb hby d21_4)) ?_
  show own_R _ _ _ _ T1 (mkF m 5 #[.val (.ref a)] [(.int (Int32.ofNat 0))])
  refine own_go (fun _ => XS.ifYes X1.here hx rfl (pc0 := 5) (pc' := 12) rfl (hb hby d21_5) rfl ((if0 _ _).trans (flt (by decide : ¬ ((0 : Int32) < (Int32.ofNat 0)))).2.2.2) (by decide) (by decide)) ?_
  show own_R _ _ _ _ T1 (mkF m 12 #[.val (.ref a)] [])
  refine own_go (fun _ => XS.iconst X1.here hx rfl (hb hby d21_12)) ?_
  show own_R _ _ _ _ T1 (mkF m 13 #[.val (.ref a)] [(.int (0 : Int32))])
  exact own_end X1 (some (.int (nar .boolean (0 : Int32)))) (fun h => by rw [hret] at h; cases h) hlk (fun fs hr => retN X1 hx (t := .boolean) hret (by simp) (hb hby d21_13) hr) ⟨rfl, N0, e1⟩ (by decide) (by decide)
set_option maxRecDepth 65536 in
set_option maxHeartbeats 4000000 in
theorem rmAny1 (l : Launch) (Z : State) (a0 : Array Value) (hw : own_T a0 Z) (ws : List Jvm.Cond) (h0 : Heap) (n0 : Nat) (a ua : Addr) (k : ClassId) (nn : Int32) (q : 0 < nn) (F : Fld Z h0 a "com/example/zellwerk/zellwerk/service/Holdings" "until" "[D" (.ref ua)) (A : Arv Z h0 ua k .double nn [] (.double 0)) :
    own_C l Z own_y5 prog_48_method_2_code 1 (some .boolean) ws ({ frames := 0, cells := 0, slots := 0, locals := 0 } : Room) #[(.ref a)] h0 (own_Qr (some (.int 1)) h0 n0) := by
  refine own_body (ls := #[.val (.ref a)]) pn_21 (fun m => by first | (simp [entryFrame, mkF, argsToLocals, Value.category]; done) | rfl) ?_
  intro p e s m below meth c T0 hZ hx hby hml hown hnm hret hlk X0 e0
  replace hml : c.maxLocals = 1 := hml
  have N0 := Fr.nil n0
  refine own_go (fun _ => XS.aloadN X0.here hx rfl (hb hby d21_0) rfl rfl) ?_
  show own_R _ _ _ _ T0 (mkF m 1 #[.val (.ref a)] [(.ref a)])
  obtain ⟨T1, X1, e1, st1⟩ := getF X0 hx hZ hown (host := "") (Or.inl (hw 126 rfl)) Via.refl e0 F (g := (mkF m 1 #[.val (.ref a)] [(.ref a)])) rfl rfl (hb hby d21_1)
  refine own_go st1 ?_
  show own_R _ _ _ _ T1 (mkF m 4 #[.val (.ref a)] [(.ref ua)])
  refine own_go (own_len X1 hx hZ e1 A (g := (mkF m 4 #[.val (.ref a)] [(.ref ua)])) rfl rfl (hb hby d21_4)) ?_
  show own_R _ _ _ _ T1 (mkF m 5 #[.val (.ref a)] [(.int nn)])
  refine own_go (fun _ => XS.ifNo X1.here hx rfl (hb hby d21_5) rfl ((if0 _ _).trans (tlt q).2.2.2)) ?_
  show own_R _ _ _ _ T1 (mkF m 8 #[.val (.ref a)] [])
  refine own_go (fun _ => XS.iconst X1.here hx rfl (hb hby d21_8)) ?_
  refine own_go (fun _ => XS.goto X1.here hx rfl (pc0 := 9) (pc' := 13) rfl (hb hby d21_9) (by decide) (by decide)) ?_
  show own_R _ _ _ _ T1 (mkF m 13 #[.val (.ref a)] [(.int (1 : Int32))])
  exact own_end X1 (some (.int (nar .boolean (1 : Int32)))) (fun h => by rw [hret] at h; cases h) hlk (fun fs hr => retN X1 hx (t := .boolean) hret (by simp) (hb hby d21_13) hr) ⟨rfl, N0, e1⟩ (by decide) (by decide)
def own_Qfe (en : Addr) (h0 : Heap) (n0 : Nat) (v : Option Value) (h : Heap) (L : List Loc) : Prop := v = none ∧ Fr n0 L ∧ Keep h0 h [en]
set_option maxRecDepth 65536 in
set_option maxHeartbeats 40000000 in
theorem rmFe0 (l : Launch) (Z : State) (a0 : Array Value) (hw : own_T a0 Z) (h0 : Heap) (n0 : Nat) (de : Addr) (kd : ClassId) (el ea : Addr) (ka : ClassId) (em mr : Addr) (G : own_G Z de kd el ea ka em mr) (Od : Old Z n0 h0) (I : own_IN Z h0 el ea ka (Int32.ofNat 0) []) (cK : ClassId) (M : own_Mk Z cK) (f ho en : Addr) (F : own_Fo h0 f cK ho) (Eh : Exa Z h0 ho "com/example/zellwerk/zellwerk/service/Holdings") (Fen : Fld Z h0 ho "com/example/zellwerk/zellwerk/service/Holdings" "ended" "Ljava/util/List;" (.ref en)) (ge : n0 ≤ en) (A0 : own_AL Z h0 en de 0 0) (nx : el ≠ en) (nf : f ≠ en) (nh : ho ≠ en) (nxa : ea ≠ en)   :
    own_CB l Z own_y7 jdk_27_method_2_code 4 none ({ frames := 7, cells := 1, slots := 4, locals := 160 } : Room) #[(.ref el), (.ref f)] h0 (own_Qfe en h0 n0) := by
  refine own_bodyB (ls := #[.val (.ref el), .val (.ref f), .unset, .unset]) (fun m => by first | (simp [entryFrame, mkF, argsToLocals, Value.category]; done) | rfl) ?_
  intro p e s m below meth c T0 hZ hx hby hml hown hnm hret hlk X0 e0
  replace hml : c.maxLocals = 4 := hml
  have N0 := Fr.nil n0
  refine own_go (fun _ => XS.aloadN X0.here hx rfl (hb hby d16_0) rfl rfl) ?_
  show own_R _ _ _ _ T0 (mkF m 1 #[.val (.ref el), .val (.ref f), .unset, .unset] [(.ref f)])
  obtain ⟨v1, T1, L1, X1, Q1, st1⟩ := own_callS X0 hx hZ hown (y := own_y55) (hw 146 rfl) (hw 147 rfl) (hw 148 rfl) (hw 149 rfl) (by decide) (rmReq l Z a0 hw [] h0 n0 f) (W := 0) (g := (mkF m 1 #[.val (.ref el), .val (.ref f), .unset, .unset] [(.ref f)])) rfl (by rw [hml]; rfl) (argsL := [(.ref f)]) (rest := []) (lenOf pd__Ljava_lang_Object__Ljava_lang_Object_ rfl) rfl rfl (Nat.le_of_eq rfl) (hb hby d16_1) e0 (by decide) (by decide) (by decide) (by decide)
  obtain ⟨rfl, N1q, e1⟩ := Q1
  have N1 := Fr.app N0 N1q
  refine own_go st1 ?_
  show own_R _ _ _ _ T1 (mkF m 4 #[.val (.ref el), .val (.ref f), .unset, .unset] [(.ref f)])
  refine own_go (fun _ => XS.pop X1.here hx rfl (hb hby d16_4) rfl rfl) ?_
  refine own_go (fun _ => XS.aloadN X1.here hx rfl (hb hby d16_5) rfl rfl) ?_
  show own_R _ _ _ _ T1 (mkF m 6 #[.val (.ref el), .val (.ref f), .unset, .unset] [(.ref el)])
  obtain ⟨v2, T2, L2, X2, Q2, st2⟩ := own_backF X1 hx hZ hown (xi := own_y8) (hw 150 rfl) (hw 151 rfl) (mvT hZ (hw 152 rfl)) (hw 153 rfl) (hw 154 rfl) (hw 155 rfl) (hw 156 rfl) (hw 144 rfl) (by decide) (backOf (W := 0) (rmIt0 l Z a0 hw [] h0 n0 de kd el ea ka em mr G Od I) hZ (hw 158 rfl) (hw 157 rfl) (by decide) (by decide)) (b := el) I.1 (g := (mkF m 6 #[.val (.ref el), .val (.ref f), .unset, .unset] [(.ref el)])) rfl (by rw [hml]; rfl) (argsL := []) (rest := []) (lenOf pd___Ljava_util_Iterator_ rfl) rfl rfl (Nat.le_of_eq rfl) (hb hby d16_6) e1 (by decide) (by decide)
  obtain ⟨it, rfl, N2q, K2, git, J2⟩ := Q2
  have N2 := Fr.app N1 N2q
  refine own_go st2 ?_
  show own_R _ _ _ _ T2 (mkF m 11 #[.val (.ref el), .val (.ref f), .unset, .unset] [(.ref it)])
  have gi : n0 ≤ it := Nat.le_trans (Od.1 ▸ Od.2.1) git
  have K2t : Keep h0 T2.heap [en] := (Keep.refl h0 [en]).trans K2 all0
  refine own_go (fun _ => XS.astoreN X2.here hx rfl (hb hby d16_11) rfl rfl (l' := #[.val (.ref el), .val (.ref f), .val (.ref it), .unset]) rfl) ?_
  refine own_go (fun _ => XS.aloadN X2.here hx rfl (hb hby d16_12) rfl rfl) ?_
  show own_R _ _ _ _ T2 (mkF m 13 #[.val (.ref el), .val (.ref f), .val (.ref it), .unset] [(.ref it)])
  obtain ⟨v90, T90, L90, X90, Q90, st90⟩ := own_backF X2 hx hZ hown (xi := own_y46) (hw 179 rfl) (hw 180 rfl) (mvT hZ (hw 181 rfl)) (hw 182 rfl) (hw 183 rfl) (hw 184 rfl) (hw 185 rfl) (hw 186 rfl) (by decide) (backOf (W := 0) (rmHN0 l Z a0 hw [] T2.heap n0 it el (Int32.ofNat 0) (Int32.ofNat 0) J2 rfl) hZ (hw 187 rfl) (hw 161 rfl) (by decide) (by decide)) (b := it) J2.1 (g := (mkF m 13 #[.val (.ref el), .val (.ref f), .val (.ref it), .unset] [(.ref it)])) rfl (by rw [hml]; rfl) (argsL := []) (rest := []) (lenOf pd___Z rfl) rfl rfl (Nat.le_of_eq rfl) (hb hby d16_13) rfl (by decide) (by decide)
  obtain ⟨rfl, N90q, e90⟩ := Q90
  have N90 := Fr.app N2 N90q
  refine own_go st90 ?_
  show own_R _ _ _ _ T90 (mkF m 18 #[.val (.ref el), .val (.ref f), .val (.ref it), .unset] [(.int (0 : Int32))])
  refine own_go (fun _ => XS.ifYes X90.here hx rfl (pc0 := 18) (pc' := 38) rfl (hb hby d16_18) rfl ((if0 _ _).trans (teq (rfl : (0 : Int32) = (0 : Int32))).1) (by decide) (by decide)) ?_
  show own_R _ _ _ _ T90 (mkF m 38 #[.val (.ref el), .val (.ref f), .val (.ref it), .unset] [])
  exact own_end X90 none (fun _ => rfl) hlk (fun fs hr => X90.returnOut hx hret (hb hby d16_38) hr) (by show own_Qfe en h0 n0 _ T90.heap _; rw [e90]; exact ⟨rfl, N90, K2t⟩) (by decide) (by decide)
set_option maxRecDepth 65536 in
set_option maxHeartbeats 40000000 in
theorem rmFe1 (l : Launch) (Z : State) (a0 : Array Value) (hw : own_T a0 Z) (h0 : Heap) (n0 : Nat) (de : Addr) (kd : ClassId) (el ea : Addr) (ka : ClassId) (em mr : Addr) (G : own_G Z de kd el ea ka em mr) (Od : Old Z n0 h0) (x y0 : Addr) (I : own_I12 Z h0 x y0 em) (cK : ClassId) (M : own_Mk Z cK) (f ho en : Addr) (F : own_Fo h0 f cK ho) (Eh : Exa Z h0 ho "com/example/zellwerk/zellwerk/service/Holdings") (Fen : Fld Z h0 ho "com/example/zellwerk/zellwerk/service/Holdings" "ended" "Ljava/util/List;" (.ref en)) (ge : n0 ≤ en) (A0 : own_AL Z h0 en de 0 0) (nx : x ≠ en) (nf : f ≠ en) (nh : ho ≠ en) (Ey0 : Exa Z h0 y0 "com/example/zellwerk/zellwerk/model/Area")  :
    own_CB l Z own_y7 jdk_27_method_2_code 4 none ({ frames := 7, cells := 3, slots := 17, locals := 160 } : Room) #[(.ref x), (.ref f)] h0 (own_Qfe en h0 n0) := by
  refine own_bodyB (ls := #[.val (.ref x), .val (.ref f), .unset, .unset]) (fun m => by first | (simp [entryFrame, mkF, argsToLocals, Value.category]; done) | rfl) ?_
  intro p e s m below meth c T0 hZ hx hby hml hown hnm hret hlk X0 e0
  replace hml : c.maxLocals = 4 := hml
  have N0 := Fr.nil n0
  refine own_go (fun _ => XS.aloadN X0.here hx rfl (hb hby d16_0) rfl rfl) ?_
  show own_R _ _ _ _ T0 (mkF m 1 #[.val (.ref x), .val (.ref f), .unset, .unset] [(.ref f)])
  obtain ⟨v1, T1, L1, X1, Q1, st1⟩ := own_callS X0 hx hZ hown (y := own_y55) (hw 146 rfl) (hw 147 rfl) (hw 148 rfl) (hw 149 rfl) (by decide) (rmReq l Z a0 hw [] h0 n0 f) (W := 0) (g := (mkF m 1 #[.val (.ref x), .val (.ref f), .unset, .unset] [(.ref f)])) rfl (by rw [hml]; rfl) (argsL := [(.ref f)]) (rest := []) (lenOf pd__Ljava_lang_Object__Ljava_lang_Object_ rfl) rfl rfl (Nat.le_of_eq rfl) (hb hby d16_1) e0 (by decide) (by decide) (by decide) (by decide)
  obtain ⟨rfl, N1q, e1⟩ := Q1
  have N1 := Fr.app N0 N1q
  refine own_go st1 ?_
  show own_R _ _ _ _ T1 (mkF m 4 #[.val (.ref x), .val (.ref f), .unset, .unset] [(.ref f)])
  refine own_go (fun _ => XS.pop X1.here hx rfl (hb hby d16_4) rfl rfl) ?_
  refine own_go (fun _ => XS.aloadN X1.here hx rfl (hb hby d16_5) rfl rfl) ?_
  show own_R _ _ _ _ T1 (mkF m 6 #[.val (.ref x), .val (.ref f), .unset, .unset] [(.ref x)])
  obtain ⟨v2, T2, L2, X2, Q2, st2⟩ := own_backF X1 hx hZ hown (xi := own_y8) (hw 150 rfl) (hw 151 rfl) (mvT hZ (hw 152 rfl)) (hw 374 rfl) (hw 154 rfl) (hw 155 rfl) (hw 375 rfl) (hw 373 rfl) (by decide) (backOf (W := 0) (rmIt1 l Z a0 hw [] h0 n0 de kd el ea ka em mr G Od x y0 I) hZ (hw 158 rfl) (hw 157 rfl) (by decide) (by decide)) (b := x) I.1 (g := (mkF m 6 #[.val (.ref x), .val (.ref f), .unset, .unset] [(.ref x)])) rfl (by rw [hml]; rfl) (argsL := []) (rest := []) (lenOf pd___Ljava_util_Iterator_ rfl) rfl rfl (Nat.le_of_eq rfl) (hb hby d16_6) e1 (by decide) (by decide)
  obtain ⟨it, rfl, N2q, K2, git, J2⟩ := Q2
  have N2 := Fr.app N1 N2q
  refine own_go st2 ?_
  show own_R _ _ _ _ T2 (mkF m 11 #[.val (.ref x), .val (.ref f), .unset, .unset] [(.ref it)])
  have gi : n0 ≤ it := Nat.le_trans (Od.1 ▸ Od.2.1) git
  have ix : x ≠ it := own_nd I.1.lt git
  have iF : f ≠ it := own_nd F.lt git
  have ih : ho ≠ it := own_nd Eh.lt git
  have ie : en ≠ it := own_nd A0.1.lt git
  have K2t : Keep h0 T2.heap [en] := (Keep.refl h0 [en]).trans K2 all0
  have I2 := I.keep K2 nin0
  have F2 := F.keep K2 nin0
  have Eh2 := Eh.keep K2
  have Fen2 := Fen.keep K2 nin0
  have A2 := A0.keep K2 nin0
  have Od2 := Od.keep K2 all0
  have Ey0_2 := Ey0.keep K2
  refine own_go (fun _ => XS.astoreN X2.here hx rfl (hb hby d16_11) rfl rfl (l' := #[.val (.ref x), .val (.ref f), .val (.ref it), .unset]) rfl) ?_
  refine own_go (fun _ => XS.aloadN X2.here hx rfl (hb hby d16_12) rfl rfl) ?_
  show own_R _ _ _ _ T2 (mkF m 13 #[.val (.ref x), .val (.ref f), .val (.ref it), .unset] [(.ref it)])
  obtain ⟨v10, T10, L10, X10, Q10, st10⟩ := own_backF X2 hx hZ hown (xi := own_y46) (hw 179 rfl) (hw 180 rfl) (mvT hZ (hw 181 rfl)) (hw 182 rfl) (hw 183 rfl) (hw 184 rfl) (hw 185 rfl) (hw 186 rfl) (by decide) (backOf (W := 0) (rmHN1 l Z a0 hw [] T2.heap n0 it x (Int32.ofNat 1) (Int32.ofNat 0) J2 (by decide)) hZ (hw 187 rfl) (hw 161 rfl) (by decide) (by decide)) (b := it) J2.1 (g := (mkF m 13 #[.val (.ref x), .val (.ref f), .val (.ref it), .unset] [(.ref it)])) rfl (by rw [hml]; rfl) (argsL := []) (rest := []) (lenOf pd___Z rfl) rfl rfl (Nat.le_of_eq rfl) (hb hby d16_13) rfl (by decide) (by decide)
  obtain ⟨rfl, N10q, e10⟩ := Q10
  have N10 := Fr.app N2 N10q
  refine own_go st10 ?_
  show own_R _ _ _ _ T10 (mkF m 18 #[.val (.ref x), .val (.ref f), .val (.ref it), .unset] [(.int (1 : Int32))])
  refine own_go (fun _ => XS.ifNo X10.here hx rfl (hb hby d16_18) rfl ((if0 _ _).trans (feq (by decide : ¬ ((1 : Int32) = (0 : Int32)))).1)) ?_
  show own_R _ _ _ _ T10 (mkF m 21 #[.val (.ref x), .val (.ref f), .val (.ref it), .unset] [])
  refine own_go (fun _ => XS.aloadN X10.here hx rfl (hb hby d16_21) rfl rfl) ?_
  show own_R _ _ _ _ T10 (mkF m 22 #[.val (.ref x), .val (.ref f), .val (.ref it), .unset] [(.ref it)])
  obtain ⟨v11, T11, L11, X11, Q11, st11⟩ := own_backF X10 hx hZ hown (xi := own_y47) (hw 324 rfl) (hw 325 rfl) (mvT hZ (hw 326 rfl)) (hw 327 rfl) (hw 328 rfl) (hw 329 rfl) (hw 330 rfl) (hw 186 rfl) (by decide) (own_backB (W := 0) (rmNx10 l Z a0 hw T2.heap n0 de kd el ea ka em mr G Od2 x y0 I2 it gi J2) hx hZ (by decide) (own_findW (hw 331 rfl)) (by decide) (by decide)) (b := it) J2.1 (g := (mkF m 22 #[.val (.ref x), .val (.ref f), .val (.ref it), .unset] [(.ref it)])) rfl (by rw [hml]; rfl) (argsL := []) (rest := []) (lenOf pd___Ljava_lang_Object_ rfl) rfl rfl (Nat.le_of_eq rfl) (hb hby d16_22) e10 (by decide) (by decide)
  obtain ⟨rfl, N11q, K11, J11⟩ := Q11
  have N11 := Fr.app N10 N11q
  refine own_go st11 ?_
  show own_R _ _ _ _ T11 (mkF m 27 #[.val (.ref x), .val (.ref f), .val (.ref it), .unset] [(.ref y0)])
  have I11 := I2.keep K11 (own_ni ix)
  have F11 := F2.keep K11 (own_ni iF)
  have Eh11 := Eh2.keep K11
  have Fen11 := Fen2.keep K11 (own_ni ih)
  have A11 := A2.keep K11 (own_ni ie)
  have Od11 := Od2.keep K11 (fun z hz => by cases List.mem_singleton.mp hz; exact gi)
  have K11t := K2t.trans K11 (fun z hz => Or.inr (by cases List.mem_singleton.mp hz; exact git))
  have Ey0_11 := Ey0_2.keep K11
  refine own_go (fun _ => XS.astoreN X11.here hx rfl (hb hby d16_27) rfl rfl (l' := #[.val (.ref x), .val (.ref f), .val (.ref it), .val (.ref y0)]) rfl) ?_
  refine own_go (fun _ => XS.aloadN X11.here hx rfl (hb hby d16_28) rfl rfl) ?_
  refine own_go (fun _ => XS.aloadN X11.here hx rfl (hb hby d16_29) rfl rfl) ?_
  show own_R _ _ _ _ T11 (mkF m 30 #[.val (.ref x), .val (.ref f), .val (.ref it), .val (.ref y0)] [(.ref y0), (.ref f)])
  obtain ⟨T12, L12, X12, Q12, st12⟩ := own_accept X11 hx hZ hown M (hw 340 rfl) (hw 341 rfl) (mvT hZ (hw 342 rfl)) (hw 346 rfl) (hw 344 rfl) (hw 345 rfl) (hw 95 rfl) (hw 343 rfl) (rmLamF l Z a0 hw [] T11.heap n0 de kd el ea ka em mr G Od11 ho y0 en ge Fen11 0 A11) own_Qla.none F11 Eh11 Ey0_11 (W := 0) (g := (mkF m 30 #[.val (.ref x), .val (.ref f), .val (.ref it), .val (.ref y0)] [(.ref y0), (.ref f)])) rfl (by rw [hml]; rfl) rfl (Nat.le_of_eq rfl) (hb hby d16_30) rfl (by decide) (by decide) (by decide) (by decide)
  obtain ⟨ed0, k0, vs0, md0, -, N12q, K12, ged0, gel0, A12, hvl0⟩ := Q12
  obtain ⟨lo0, glo⟩ : ∃ z, z = T11.heap.size := ⟨_, rfl⟩
  rw [← glo] at gel0
  have dx0 := own_nd (b := ed0) I11.1.lt (glo ▸ gel0)
  have df0 := own_nd (b := ed0) F11.lt (glo ▸ gel0)
  have dh0 := own_nd (b := ed0) Eh11.lt (glo ▸ gel0)
  have gd0 : h0.size ≤ ed0 := Nat.le_trans K11t.1 (glo ▸ gel0)
  have J12 := J11.keep K12 (own_ni (Ne.symm ie))
  have K12t := K11t.trans K12 (fun z hz => Or.inl hz)
  have N12 := Fr.app N11 N12q
  refine own_go st12 ?_
  show own_R _ _ _ _ T12 (mkF m 35 #[.val (.ref x), .val (.ref f), .val (.ref it), .val (.ref y0)] [])
  refine own_go (fun _ => XS.goto X12.here hx rfl (pc0 := 35) (pc' := 12) rfl (hb hby d16_35) (by decide) (by decide)) ?_
  show own_R _ _ _ _ T12 (mkF m 12 #[.val (.ref x), .val (.ref f), .val (.ref it), .val (.ref y0)] [])
  refine own_go (fun _ => XS.aloadN X12.here hx rfl (hb hby d16_12) rfl rfl) ?_
  show own_R _ _ _ _ T12 (mkF m 13 #[.val (.ref x), .val (.ref f), .val (.ref it), .val (.ref y0)] [(.ref it)])
  obtain ⟨v90, T90, L90, X90, Q90, st90⟩ := own_backF X12 hx hZ hown (xi := own_y46) (hw 179 rfl) (hw 180 rfl) (mvT hZ (hw 181 rfl)) (hw 182 rfl) (hw 183 rfl) (hw 184 rfl) (hw 185 rfl) (hw 186 rfl) (by decide) (backOf (W := 0) (rmHN0 l Z a0 hw [] T12.heap n0 it x (Int32.ofNat 1) (Int32.ofNat 1) J12 rfl) hZ (hw 187 rfl) (hw 161 rfl) (by decide) (by decide)) (b := it) J12.1 (g := (mkF m 13 #[.val (.ref x), .val (.ref f), .val (.ref it), .val (.ref y0)] [(.ref it)])) rfl (by rw [hml]; rfl) (argsL := []) (rest := []) (lenOf pd___Z rfl) rfl rfl (Nat.le_of_eq rfl) (hb hby d16_13) rfl (by decide) (by decide)
  obtain ⟨rfl, N90q, e90⟩ := Q90
  have N90 := Fr.app N12 N90q
  refine own_go st90 ?_
  show own_R _ _ _ _ T90 (mkF m 18 #[.val (.ref x), .val (.ref f), .val (.ref it), .val (.ref y0)] [(.int (0 : Int32))])
  refine own_go (fun _ => XS.ifYes X90.here hx rfl (pc0 := 18) (pc' := 38) rfl (hb hby d16_18) rfl ((if0 _ _).trans (teq (rfl : (0 : Int32) = (0 : Int32))).1) (by decide) (by decide)) ?_
  show own_R _ _ _ _ T90 (mkF m 38 #[.val (.ref x), .val (.ref f), .val (.ref it), .val (.ref y0)] [])
  exact own_end X90 none (fun _ => rfl) hlk (fun fs hr => X90.returnOut hx hret (hb hby d16_38) hr) (by show own_Qfe en h0 n0 _ T90.heap _; rw [e90]; exact ⟨rfl, N90, K12t⟩) (by decide) (by decide)
set_option maxRecDepth 65536 in
set_option maxHeartbeats 40000000 in
theorem rmFe2 (l : Launch) (Z : State) (a0 : Array Value) (hw : own_T a0 Z) (h0 : Heap) (n0 : Nat) (de : Addr) (kd : ClassId) (el ea : Addr) (ka : ClassId) (em mr : Addr) (G : own_G Z de kd el ea ka em mr) (Od : Old Z n0 h0) (x y0 y1 : Addr) (I : own_I12 Z h0 x y0 y1) (qe : y1 ≠ em) (cK : ClassId) (M : own_Mk Z cK) (f ho en : Addr) (F : own_Fo h0 f cK ho) (Eh : Exa Z h0 ho "com/example/zellwerk/zellwerk/service/Holdings") (Fen : Fld Z h0 ho "com/example/zellwerk/zellwerk/service/Holdings" "ended" "Ljava/util/List;" (.ref en)) (ge : n0 ≤ en) (A0 : own_AL Z h0 en de 0 0) (nx : x ≠ en) (nf : f ≠ en) (nh : ho ≠ en) (Ey0 : Exa Z h0 y0 "com/example/zellwerk/zellwerk/model/Area") (Ey1 : Exa Z h0 y1 "com/example/zellwerk/zellwerk/model/Area")  :
    own_CB l Z own_y7 jdk_27_method_2_code 4 none ({ frames := 7, cells := 4, slots := 20, locals := 160 } : Room) #[(.ref x), (.ref f)] h0 (own_Qfe en h0 n0) := by
  refine own_bodyB (ls := #[.val (.ref x), .val (.ref f), .unset, .unset]) (fun m => by first | (simp [entryFrame, mkF, argsToLocals, Value.category]; done) | rfl) ?_
  intro p e s m below meth c T0 hZ hx hby hml hown hnm hret hlk X0 e0
  replace hml : c.maxLocals = 4 := hml
  have N0 := Fr.nil n0
  refine own_go (fun _ => XS.aloadN X0.here hx rfl (hb hby d16_0) rfl rfl) ?_
  show own_R _ _ _ _ T0 (mkF m 1 #[.val (.ref x), .val (.ref f), .unset, .unset] [(.ref f)])
  obtain ⟨v1, T1, L1, X1, Q1, st1⟩ := own_callS X0 hx hZ hown (y := own_y55) (hw 146 rfl) (hw 147 rfl) (hw 148 rfl) (hw 149 rfl) (by decide) (rmReq l Z a0 hw [] h0 n0 f) (W := 0) (g := (mkF m 1 #[.val (.ref x), .val (.ref f), .unset, .unset] [(.ref f)])) rfl (by rw [hml]; rfl) (argsL := [(.ref f)]) (rest := []) (lenOf pd__Ljava_lang_Object__Ljava_lang_Object_ rfl) rfl rfl (Nat.le_of_eq rfl) (hb hby d16_1) e0 (by decide) (by decide) (by decide) (by decide)
  obtain ⟨rfl, N1q, e1⟩ := Q1
  have N1 := Fr.app N0 N1q
  refine own_go st1 ?_
  show own_R _ _ _ _ T1 (mkF m 4 #[.val (.ref x), .val (.ref f), .unset, .unset] [(.ref f)])
  refine own_go (fun _ => XS.pop X1.here hx rfl (hb hby d16_4) rfl rfl) ?_
  refine own_go (fun _ => XS.aloadN X1.here hx rfl (hb hby d16_5) rfl rfl) ?_
  show own_R _ _ _ _ T1 (mkF m 6 #[.val (.ref x), .val (.ref f), .unset, .unset] [(.ref x)])
  obtain ⟨v2, T2, L2, X2, Q2, st2⟩ := own_backF X1 hx hZ hown (xi := own_y8) (hw 150 rfl) (hw 151 rfl) (mvT hZ (hw 152 rfl)) (hw 374 rfl) (hw 154 rfl) (hw 155 rfl) (hw 375 rfl) (hw 373 rfl) (by decide) (backOf (W := 0) (rmIt2 l Z a0 hw [] h0 n0 de kd el ea ka em mr G Od x y0 y1 I qe) hZ (hw 158 rfl) (hw 157 rfl) (by decide) (by decide)) (b := x) I.1 (g := (mkF m 6 #[.val (.ref x), .val (.ref f), .unset, .unset] [(.ref x)])) rfl (by rw [hml]; rfl) (argsL := []) (rest := []) (lenOf pd___Ljava_util_Iterator_ rfl) rfl rfl (Nat.le_of_eq rfl) (hb hby d16_6) e1 (by decide) (by decide)
  obtain ⟨it, rfl, N2q, K2, git, J2⟩ := Q2
  have N2 := Fr.app N1 N2q
  refine own_go st2 ?_
  show own_R _ _ _ _ T2 (mkF m 11 #[.val (.ref x), .val (.ref f), .unset, .unset] [(.ref it)])
  have gi : n0 ≤ it := Nat.le_trans (Od.1 ▸ Od.2.1) git
  have ix : x ≠ it := own_nd I.1.lt git
  have iF : f ≠ it := own_nd F.lt git
  have ih : ho ≠ it := own_nd Eh.lt git
  have ie : en ≠ it := own_nd A0.1.lt git
  have K2t : Keep h0 T2.heap [en] := (Keep.refl h0 [en]).trans K2 all0
  have I2 := I.keep K2 nin0
  have F2 := F.keep K2 nin0
  have Eh2 := Eh.keep K2
  have Fen2 := Fen.keep K2 nin0
  have A2 := A0.keep K2 nin0
  have Od2 := Od.keep K2 all0
  have Ey0_2 := Ey0.keep K2
  have Ey1_2 := Ey1.keep K2
  refine own_go (fun _ => XS.astoreN X2.here hx rfl (hb hby d16_11) rfl rfl (l' := #[.val (.ref x), .val (.ref f), .val (.ref it), .unset]) rfl) ?_
  refine own_go (fun _ => XS.aloadN X2.here hx rfl (hb hby d16_12) rfl rfl) ?_
  show own_R _ _ _ _ T2 (mkF m 13 #[.val (.ref x), .val (.ref f), .val (.ref it), .unset] [(.ref it)])
  obtain ⟨v10, T10, L10, X10, Q10, st10⟩ := own_backF X2 hx hZ hown (xi := own_y46) (hw 179 rfl) (hw 180 rfl) (mvT hZ (hw 181 rfl)) (hw 182 rfl) (hw 183 rfl) (hw 184 rfl) (hw 185 rfl) (hw 186 rfl) (by decide) (backOf (W := 0) (rmHN1 l Z a0 hw [] T2.heap n0 it x (Int32.ofNat 2) (Int32.ofNat 0) J2 (by decide)) hZ (hw 187 rfl) (hw 161 rfl) (by decide) (by decide)) (b := it) J2.1 (g := (mkF m 13 #[.val (.ref x), .val (.ref f), .val (.ref it), .unset] [(.ref it)])) rfl (by rw [hml]; rfl) (argsL := []) (rest := []) (lenOf pd___Z rfl) rfl rfl (Nat.le_of_eq rfl) (hb hby d16_13) rfl (by decide) (by decide)
  obtain ⟨rfl, N10q, e10⟩ := Q10
  have N10 := Fr.app N2 N10q
  refine own_go st10 ?_
  show own_R _ _ _ _ T10 (mkF m 18 #[.val (.ref x), .val (.ref f), .val (.ref it), .unset] [(.int (1 : Int32))])
  refine own_go (fun _ => XS.ifNo X10.here hx rfl (hb hby d16_18) rfl ((if0 _ _).trans (feq (by decide : ¬ ((1 : Int32) = (0 : Int32)))).1)) ?_
  show own_R _ _ _ _ T10 (mkF m 21 #[.val (.ref x), .val (.ref f), .val (.ref it), .unset] [])
  refine own_go (fun _ => XS.aloadN X10.here hx rfl (hb hby d16_21) rfl rfl) ?_
  show own_R _ _ _ _ T10 (mkF m 22 #[.val (.ref x), .val (.ref f), .val (.ref it), .unset] [(.ref it)])
  obtain ⟨v11, T11, L11, X11, Q11, st11⟩ := own_backF X10 hx hZ hown (xi := own_y47) (hw 324 rfl) (hw 325 rfl) (mvT hZ (hw 326 rfl)) (hw 327 rfl) (hw 328 rfl) (hw 329 rfl) (hw 330 rfl) (hw 186 rfl) (by decide) (own_backB (W := 0) (rmNx20 l Z a0 hw T2.heap n0 de kd el ea ka em mr G Od2 x y0 y1 I2 qe it gi J2) hx hZ (by decide) (own_findW (hw 331 rfl)) (by decide) (by decide)) (b := it) J2.1 (g := (mkF m 22 #[.val (.ref x), .val (.ref f), .val (.ref it), .unset] [(.ref it)])) rfl (by rw [hml]; rfl) (argsL := []) (rest := []) (lenOf pd___Ljava_lang_Object_ rfl) rfl rfl (Nat.le_of_eq rfl) (hb hby d16_22) e10 (by decide) (by decide)
  obtain ⟨rfl, N11q, K11, J11⟩ := Q11
  have N11 := Fr.app N10 N11q
  refine own_go st11 ?_
  show own_R _ _ _ _ T11 (mkF m 27 #[.val (.ref x), .val (.ref f), .val (.ref it), .unset] [(.ref y0)])
  have I11 := I2.keep K11 (own_ni ix)
  have F11 := F2.keep K11 (own_ni iF)
  have Eh11 := Eh2.keep K11
  have Fen11 := Fen2.keep K11 (own_ni ih)
  have A11 := A2.keep K11 (own_ni ie)
  have Od11 := Od2.keep K11 (fun z hz => by cases List.mem_singleton.mp hz; exact gi)
  have K11t := K2t.trans K11 (fun z hz => Or.inr (by cases List.mem_singleton.mp hz; exact git))
  have Ey0_11 := Ey0_2.keep K11
  have Ey1_11 := Ey1_2.keep K11
  refine own_go (fun _ => XS.astoreN X11.here hx rfl (hb hby d16_27) rfl rfl (l' := #[.val (.ref x), .val (.ref f), .val (.ref it), .val (.ref y0)]) rfl) ?_
  refine own_go (fun _ => XS.aloadN X11.here hx rfl (hb hby d16_28) rfl rfl) ?_
  refine own_go (fun _ => XS.aloadN X11.here hx rfl (hb hby d16_29) rfl rfl) ?_
  show own_R _ _ _ _ T11 (mkF m 30 #[.val (.ref x), .val (.ref f), .val (.ref it), .val (.ref y0)] [(.ref y0), (.ref f)])
  obtain ⟨T12, L12, X12, Q12, st12⟩ := own_accept X11 hx hZ hown M (hw 340 rfl) (hw 341 rfl) (mvT hZ (hw 342 rfl)) (hw 346 rfl) (hw 344 rfl) (hw 345 rfl) (hw 95 rfl) (hw 343 rfl) (rmLamF l Z a0 hw [] T11.heap n0 de kd el ea ka em mr G Od11 ho y0 en ge Fen11 0 A11) own_Qla.none F11 Eh11 Ey0_11 (W := 0) (g := (mkF m 30 #[.val (.ref x), .val (.ref f), .val (.ref it), .val (.ref y0)] [(.ref y0), (.ref f)])) rfl (by rw [hml]; rfl) rfl (Nat.le_of_eq rfl) (hb hby d16_30) rfl (by decide) (by decide) (by decide) (by decide)
  obtain ⟨ed0, k0, vs0, md0, -, N12q, K12, ged0, gel0, A12, hvl0⟩ := Q12
  obtain ⟨lo0, glo⟩ : ∃ z, z = T11.heap.size := ⟨_, rfl⟩
  rw [← glo] at gel0
  have ned0 : it ≠ ed0 := own_nd J11.1.lt (glo ▸ gel0)
  have dx0 := own_nd (b := ed0) I11.1.lt (glo ▸ gel0)
  have df0 := own_nd (b := ed0) F11.lt (glo ▸ gel0)
  have dh0 := own_nd (b := ed0) Eh11.lt (glo ▸ gel0)
  have gd0 : h0.size ≤ ed0 := Nat.le_trans K11t.1 (glo ▸ gel0)
  have J12 := J11.keep K12 (own_ni (Ne.symm ie))
  have I12 := I11.keep K12 (own_ni nx)
  have F12 := F11.keep K12 (own_ni nf)
  have Eh12 := Eh11.keep K12
  have Fen12 := Fen11.keep K12 (own_ni nh)
  have Od12 := Od11.keep K12 (fun z hz => by cases List.mem_singleton.mp hz; exact ge)
  have K12t := K11t.trans K12 (fun z hz => Or.inl hz)
  have Ey1_12 := Ey1_11.keep K12
  have N12 := Fr.app N11 N12q
  refine own_go st12 ?_
  show own_R _ _ _ _ T12 (mkF m 35 #[.val (.ref x), .val (.ref f), .val (.ref it), .val (.ref y0)] [])
  refine own_go (fun _ => XS.goto X12.here hx rfl (pc0 := 35) (pc' := 12) rfl (hb hby d16_35) (by decide) (by decide)) ?_
  show own_R _ _ _ _ T12 (mkF m 12 #[.val (.ref x), .val (.ref f), .val (.ref it), .val (.ref y0)] [])
  refine own_go (fun _ => XS.aloadN X12.here hx rfl (hb hby d16_12) rfl rfl) ?_
  show own_R _ _ _ _ T12 (mkF m 13 #[.val (.ref x), .val (.ref f), .val (.ref it), .val (.ref y0)] [(.ref it)])
  obtain ⟨v20, T20, L20, X20, Q20, st20⟩ := own_backF X12 hx hZ hown (xi := own_y46) (hw 179 rfl) (hw 180 rfl) (mvT hZ (hw 181 rfl)) (hw 182 rfl) (hw 183 rfl) (hw 184 rfl) (hw 185 rfl) (hw 186 rfl) (by decide) (backOf (W := 0) (rmHN1 l Z a0 hw [] T12.heap n0 it x (Int32.ofNat 2) (Int32.ofNat 1) J12 (by decide)) hZ (hw 187 rfl) (hw 161 rfl) (by decide) (by decide)) (b := it) J12.1 (g := (mkF m 13 #[.val (.ref x), .val (.ref f), .val (.ref it), .val (.ref y0)] [(.ref it)])) rfl (by rw [hml]; rfl) (argsL := []) (rest := []) (lenOf pd___Z rfl) rfl rfl (Nat.le_of_eq rfl) (hb hby d16_13) rfl (by decide) (by decide)
  obtain ⟨rfl, N20q, e20⟩ := Q20
  have N20 := Fr.app N12 N20q
  refine own_go st20 ?_
  show own_R _ _ _ _ T20 (mkF m 18 #[.val (.ref x), .val (.ref f), .val (.ref it), .val (.ref y0)] [(.int (1 : Int32))])
  refine own_go (fun _ => XS.ifNo X20.here hx rfl (hb hby d16_18) rfl ((if0 _ _).trans (feq (by decide : ¬ ((1 : Int32) = (0 : Int32)))).1)) ?_
  show own_R _ _ _ _ T20 (mkF m 21 #[.val (.ref x), .val (.ref f), .val (.ref it), .val (.ref y0)] [])
  refine own_go (fun _ => XS.aloadN X20.here hx rfl (hb hby d16_21) rfl rfl) ?_
  show own_R _ _ _ _ T20 (mkF m 22 #[.val (.ref x), .val (.ref f), .val (.ref it), .val (.ref y0)] [(.ref it)])
  obtain ⟨v21, T21, L21, X21, Q21, st21⟩ := own_backF X20 hx hZ hown (xi := own_y47) (hw 324 rfl) (hw 325 rfl) (mvT hZ (hw 326 rfl)) (hw 327 rfl) (hw 328 rfl) (hw 329 rfl) (hw 330 rfl) (hw 186 rfl) (by decide) (own_backB (W := 0) (rmNx21 l Z a0 hw T12.heap n0 de kd el ea ka em mr G Od12 x y0 y1 I12 qe it gi J12) hx hZ (by decide) (own_findW (hw 331 rfl)) (by decide) (by decide)) (b := it) J12.1 (g := (mkF m 22 #[.val (.ref x), .val (.ref f), .val (.ref it), .val (.ref y0)] [(.ref it)])) rfl (by rw [hml]; rfl) (argsL := []) (rest := []) (lenOf pd___Ljava_lang_Object_ rfl) rfl rfl (Nat.le_of_eq rfl) (hb hby d16_22) e20 (by decide) (by decide)
  obtain ⟨rfl, N21q, K21, J21⟩ := Q21
  have N21 := Fr.app N20 N21q
  refine own_go st21 ?_
  show own_R _ _ _ _ T21 (mkF m 27 #[.val (.ref x), .val (.ref f), .val (.ref it), .val (.ref y0)] [(.ref y1)])
  have F21 := F12.keep K21 (own_ni iF)
  have Eh21 := Eh12.keep K21
  have Fen21 := Fen12.keep K21 (own_ni ih)
  have A21 := A12.keep K21 (own_ni ie) (own_ni (Ne.symm ned0))
  have Od21 := Od12.keep K21 (fun z hz => by cases List.mem_singleton.mp hz; exact gi)
  have K21t := K12t.trans K21 (fun z hz => Or.inr (by cases List.mem_singleton.mp hz; exact git))
  have Ey1_21 := Ey1_12.keep K21
  refine own_go (fun _ => XS.astoreN X21.here hx rfl (hb hby d16_27) rfl rfl (l' := #[.val (.ref x), .val (.ref f), .val (.ref it), .val (.ref y1)]) rfl) ?_
  refine own_go (fun _ => XS.aloadN X21.here hx rfl (hb hby d16_28) rfl rfl) ?_
  refine own_go (fun _ => XS.aloadN X21.here hx rfl (hb hby d16_29) rfl rfl) ?_
  show own_R _ _ _ _ T21 (mkF m 30 #[.val (.ref x), .val (.ref f), .val (.ref it), .val (.ref y1)] [(.ref y1), (.ref f)])
  obtain ⟨T22, L22, X22, Q22, st22⟩ := own_accept X21 hx hZ hown M (hw 340 rfl) (hw 341 rfl) (mvT hZ (hw 342 rfl)) (hw 346 rfl) (hw 344 rfl) (hw 345 rfl) (hw 95 rfl) (hw 343 rfl) (rmLamM l Z a0 hw [] T21.heap n0 de kd el ea ka em mr G Od21 ho y1 en ge Fen21 md0 ed0 k0 vs0 (by omega) A21 ged0 lo0 gel0) own_Qla.none F21 Eh21 Ey1_21 (W := 0) (g := (mkF m 30 #[.val (.ref x), .val (.ref f), .val (.ref it), .val (.ref y1)] [(.ref y1), (.ref f)])) rfl (by rw [hml]; rfl) rfl (Nat.le_of_eq rfl) (hb hby d16_30) rfl (by decide) (by decide) (by decide) (by decide)
  obtain ⟨ed1, k1, vs1, md1, -, N22q, K22, ged1, gel1, A22, hvl1⟩ := Q22
  have dx1 := own_nd (b := ed1) I11.1.lt (glo ▸ gel1)
  have df1 := own_nd (b := ed1) F11.lt (glo ▸ gel1)
  have dh1 := own_nd (b := ed1) Eh11.lt (glo ▸ gel1)
  have gd1 : h0.size ≤ ed1 := Nat.le_trans K11t.1 (glo ▸ gel1)
  have J22 := J21.keep K22 (ninS (Ne.symm ie) (own_ni ned0))
  have Od22 := Od21.keep K22 (allS (P := fun z => n0 ≤ z) ge (allS ged0 all0))
  have K22t := K21t.trans K22 (allS (P := fun z => z ∈ [en] ∨ h0.size ≤ z) (Or.inl (by simp)) (allS (Or.inr gd0) all0))
  have N22 := Fr.app N21 N22q
  refine own_go st22 ?_
  show own_R _ _ _ _ T22 (mkF m 35 #[.val (.ref x), .val (.ref f), .val (.ref it), .val (.ref y1)] [])
  refine own_go (fun _ => XS.goto X22.here hx rfl (pc0 := 35) (pc' := 12) rfl (hb hby d16_35) (by decide) (by decide)) ?_
  show own_R _ _ _ _ T22 (mkF m 12 #[.val (.ref x), .val (.ref f), .val (.ref it), .val (.ref y1)] [])
  refine own_go (fun _ => XS.aloadN X22.here hx rfl (hb hby d16_12) rfl rfl) ?_
  show own_R _ _ _ _ T22 (mkF m 13 #[.val (.ref x), .val (.ref f), .val (.ref it), .val (.ref y1)] [(.ref it)])
  obtain ⟨v90, T90, L90, X90, Q90, st90⟩ := own_backF X22 hx hZ hown (xi := own_y46) (hw 179 rfl) (hw 180 rfl) (mvT hZ (hw 181 rfl)) (hw 182 rfl) (hw 183 rfl) (hw 184 rfl) (hw 185 rfl) (hw 186 rfl) (by decide) (backOf (W := 0) (rmHN0 l Z a0 hw [] T22.heap n0 it x (Int32.ofNat 2) (Int32.ofNat 2) J22 rfl) hZ (hw 187 rfl) (hw 161 rfl) (by decide) (by decide)) (b := it) J22.1 (g := (mkF m 13 #[.val (.ref x), .val (.ref f), .val (.ref it), .val (.ref y1)] [(.ref it)])) rfl (by rw [hml]; rfl) (argsL := []) (rest := []) (lenOf pd___Z rfl) rfl rfl (Nat.le_of_eq rfl) (hb hby d16_13) rfl (by decide) (by decide)
  obtain ⟨rfl, N90q, e90⟩ := Q90
  have N90 := Fr.app N22 N90q
  refine own_go st90 ?_
  show own_R _ _ _ _ T90 (mkF m 18 #[.val (.ref x), .val (.ref f), .val (.ref it), .val (.ref y1)] [(.int (0 : Int32))])
  refine own_go (fun _ => XS.ifYes X90.here hx rfl (pc0 := 18) (pc' := 38) rfl (hb hby d16_18) rfl ((if0 _ _).trans (teq (rfl : (0 : Int32) = (0 : Int32))).1) (by decide) (by decide)) ?_
  show own_R _ _ _ _ T90 (mkF m 38 #[.val (.ref x), .val (.ref f), .val (.ref it), .val (.ref y1)] [])
  exact own_end X90 none (fun _ => rfl) hlk (fun fs hr => X90.returnOut hx hret (hb hby d16_38) hr) (by show own_Qfe en h0 n0 _ T90.heap _; rw [e90]; exact ⟨rfl, N90, K22t⟩) (by decide) (by decide)
set_option maxRecDepth 65536 in
set_option maxHeartbeats 40000000 in
theorem rmFe3 (l : Launch) (Z : State) (a0 : Array Value) (hw : own_T a0 Z) (h0 : Heap) (n0 : Nat) (de : Addr) (kd : ClassId) (el ea : Addr) (ka : ClassId) (em mr : Addr) (G : own_G Z de kd el ea ka em mr) (Od : Old Z n0 h0) (x xa : Addr) (k : ClassId) (y0 y1 y2 : Addr) (I : own_IN Z h0 x xa k (Int32.ofNat 3) [.ref y0, .ref y1, .ref y2]) (cK : ClassId) (M : own_Mk Z cK) (f ho en : Addr) (F : own_Fo h0 f cK ho) (Eh : Exa Z h0 ho "com/example/zellwerk/zellwerk/service/Holdings") (Fen : Fld Z h0 ho "com/example/zellwerk/zellwerk/service/Holdings" "ended" "Ljava/util/List;" (.ref en)) (ge : n0 ≤ en) (A0 : own_AL Z h0 en de 0 0) (nx : x ≠ en) (nf : f ≠ en) (nh : ho ≠ en) (nxa : xa ≠ en) (Ey0 : Exa Z h0 y0 "com/example/zellwerk/zellwerk/model/Area") (Ey1 : Exa Z h0 y1 "com/example/zellwerk/zellwerk/model/Area") (Ey2 : Exa Z h0 y2 "com/example/zellwerk/zellwerk/model/Area")  :
    own_CB l Z own_y7 jdk_27_method_2_code 4 none ({ frames := 7, cells := 5, slots := 23, locals := 160 } : Room) #[(.ref x), (.ref f)] h0 (own_Qfe en h0 n0) := by
  refine own_bodyB (ls := #[.val (.ref x), .val (.ref f), .unset, .unset]) (fun m => by first | (simp [entryFrame, mkF, argsToLocals, Value.category]; done) | rfl) ?_
  intro p e s m below meth c T0 hZ hx hby hml hown hnm hret hlk X0 e0
  replace hml : c.maxLocals = 4 := hml
  have N0 := Fr.nil n0
  refine own_go (fun _ => XS.aloadN X0.here hx rfl (hb hby d16_0) rfl rfl) ?_
  show own_R _ _ _ _ T0 (mkF m 1 #[.val (.ref x), .val (.ref f), .unset, .unset] [(.ref f)])
  obtain ⟨v1, T1, L1, X1, Q1, st1⟩ := own_callS X0 hx hZ hown (y := own_y55) (hw 146 rfl) (hw 147 rfl) (hw 148 rfl) (hw 149 rfl) (by decide) (rmReq l Z a0 hw [] h0 n0 f) (W := 0) (g := (mkF m 1 #[.val (.ref x), .val (.ref f), .unset, .unset] [(.ref f)])) rfl (by rw [hml]; rfl) (argsL := [(.ref f)]) (rest := []) (lenOf pd__Ljava_lang_Object__Ljava_lang_Object_ rfl) rfl rfl (Nat.le_of_eq rfl) (hb hby d16_1) e0 (by decide) (by decide) (by decide) (by decide)
  obtain ⟨rfl, N1q, e1⟩ := Q1
  have N1 := Fr.app N0 N1q
  refine own_go st1 ?_
  show own_R _ _ _ _ T1 (mkF m 4 #[.val (.ref x), .val (.ref f), .unset, .unset] [(.ref f)])
  refine own_go (fun _ => XS.pop X1.here hx rfl (hb hby d16_4) rfl rfl) ?_
  refine own_go (fun _ => XS.aloadN X1.here hx rfl (hb hby d16_5) rfl rfl) ?_
  show own_R _ _ _ _ T1 (mkF m 6 #[.val (.ref x), .val (.ref f), .unset, .unset] [(.ref x)])
  obtain ⟨v2, T2, L2, X2, Q2, st2⟩ := own_backF X1 hx hZ hown (xi := own_y8) (hw 150 rfl) (hw 151 rfl) (mvT hZ (hw 152 rfl)) (hw 153 rfl) (hw 154 rfl) (hw 155 rfl) (hw 156 rfl) (hw 144 rfl) (by decide) (backOf (W := 0) (rmIt3 l Z a0 hw [] h0 n0 de kd el ea ka em mr G Od x xa k y0 y1 y2 I) hZ (hw 158 rfl) (hw 157 rfl) (by decide) (by decide)) (b := x) I.1 (g := (mkF m 6 #[.val (.ref x), .val (.ref f), .unset, .unset] [(.ref x)])) rfl (by rw [hml]; rfl) (argsL := []) (rest := []) (lenOf pd___Ljava_util_Iterator_ rfl) rfl rfl (Nat.le_of_eq rfl) (hb hby d16_6) e1 (by decide) (by decide)
  obtain ⟨it, rfl, N2q, K2, git, J2⟩ := Q2
  have N2 := Fr.app N1 N2q
  refine own_go st2 ?_
  show own_R _ _ _ _ T2 (mkF m 11 #[.val (.ref x), .val (.ref f), .unset, .unset] [(.ref it)])
  have gi : n0 ≤ it := Nat.le_trans (Od.1 ▸ Od.2.1) git
  have ix : x ≠ it := own_nd I.1.lt git
  have iF : f ≠ it := own_nd F.lt git
  have ih : ho ≠ it := own_nd Eh.lt git
  have ie : en ≠ it := own_nd A0.1.lt git
  have ixa : xa ≠ it := own_nd I.2.2.lt git
  have K2t : Keep h0 T2.heap [en] := (Keep.refl h0 [en]).trans K2 all0
  have I2 := I.keep K2 nin0 nin0
  have F2 := F.keep K2 nin0
  have Eh2 := Eh.keep K2
  have Fen2 := Fen.keep K2 nin0
  have A2 := A0.keep K2 nin0
  have Od2 := Od.keep K2 all0
  have Ey0_2 := Ey0.keep K2
  have Ey1_2 := Ey1.keep K2
  have Ey2_2 := Ey2.keep K2
  refine own_go (fun _ => XS.astoreN X2.here hx rfl (hb hby d16_11) rfl rfl (l' := #[.val (.ref x), .val (.ref f), .val (.ref it), .unset]) rfl) ?_
  refine own_go (fun _ => XS.aloadN X2.here hx rfl (hb hby d16_12) rfl rfl) ?_
  show own_R _ _ _ _ T2 (mkF m 13 #[.val (.ref x), .val (.ref f), .val (.ref it), .unset] [(.ref it)])
  obtain ⟨v10, T10, L10, X10, Q10, st10⟩ := own_backF X2 hx hZ hown (xi := own_y46) (hw 179 rfl) (hw 180 rfl) (mvT hZ (hw 181 rfl)) (hw 182 rfl) (hw 183 rfl) (hw 184 rfl) (hw 185 rfl) (hw 186 rfl) (by decide) (backOf (W := 0) (rmHN1 l Z a0 hw [] T2.heap n0 it x (Int32.ofNat 3) (Int32.ofNat 0) J2 (by decide)) hZ (hw 187 rfl) (hw 161 rfl) (by decide) (by decide)) (b := it) J2.1 (g := (mkF m 13 #[.val (.ref x), .val (.ref f), .val (.ref it), .unset] [(.ref it)])) rfl (by rw [hml]; rfl) (argsL := []) (rest := []) (lenOf pd___Z rfl) rfl rfl (Nat.le_of_eq rfl) (hb hby d16_13) rfl (by decide) (by decide)
  obtain ⟨rfl, N10q, e10⟩ := Q10
  have N10 := Fr.app N2 N10q
  refine own_go st10 ?_
  show own_R _ _ _ _ T10 (mkF m 18 #[.val (.ref x), .val (.ref f), .val (.ref it), .unset] [(.int (1 : Int32))])
  refine own_go (fun _ => XS.ifNo X10.here hx rfl (hb hby d16_18) rfl ((if0 _ _).trans (feq (by decide : ¬ ((1 : Int32) = (0 : Int32)))).1)) ?_
  show own_R _ _ _ _ T10 (mkF m 21 #[.val (.ref x), .val (.ref f), .val (.ref it), .unset] [])
  refine own_go (fun _ => XS.aloadN X10.here hx rfl (hb hby d16_21) rfl rfl) ?_
  show own_R _ _ _ _ T10 (mkF m 22 #[.val (.ref x), .val (.ref f), .val (.ref it), .unset] [(.ref it)])
  obtain ⟨v11, T11, L11, X11, Q11, st11⟩ := own_backF X10 hx hZ hown (xi := own_y47) (hw 324 rfl) (hw 325 rfl) (mvT hZ (hw 326 rfl)) (hw 327 rfl) (hw 328 rfl) (hw 329 rfl) (hw 330 rfl) (hw 186 rfl) (by decide) (own_backB (W := 0) (rmNx30 l Z a0 hw T2.heap n0 de kd el ea ka em mr G Od2 x xa k y0 y1 y2 I2 it gi J2) hx hZ (by decide) (own_findW (hw 331 rfl)) (by decide) (by decide)) (b := it) J2.1 (g := (mkF m 22 #[.val (.ref x), .val (.ref f), .val (.ref it), .unset] [(.ref it)])) rfl (by rw [hml]; rfl) (argsL := []) (rest := []) (lenOf pd___Ljava_lang_Object_ rfl) rfl rfl (Nat.le_of_eq rfl) (hb hby d16_22) e10 (by decide) (by decide)
  obtain ⟨rfl, N11q, K11, J11⟩ := Q11
  have N11 := Fr.app N10 N11q
  refine own_go st11 ?_
  show own_R _ _ _ _ T11 (mkF m 27 #[.val (.ref x), .val (.ref f), .val (.ref it), .unset] [(.ref y0)])
  have I11 := I2.keep K11 (own_ni ix) (own_ni ixa)
  have F11 := F2.keep K11 (own_ni iF)
  have Eh11 := Eh2.keep K11
  have Fen11 := Fen2.keep K11 (own_ni ih)
  have A11 := A2.keep K11 (own_ni ie)
  have Od11 := Od2.keep K11 (fun z hz => by cases List.mem_singleton.mp hz; exact gi)
  have K11t := K2t.trans K11 (fun z hz => Or.inr (by cases List.mem_singleton.mp hz; exact git))
  have Ey0_11 := Ey0_2.keep K11
  have Ey1_11 := Ey1_2.keep K11
  have Ey2_11 := Ey2_2.keep K11
  refine own_go (fun _ => XS.astoreN X11.here hx rfl (hb hby d16_27) rfl rfl (l' := #[.val (.ref x), .val (.ref f), .val (.ref it), .val (.ref y0)]) rfl) ?_
  refine own_go (fun _ => XS.aloadN X11.here hx rfl (hb hby d16_28) rfl rfl) ?_
  refine own_go (fun _ => XS.aloadN X11.here hx rfl (hb hby d16_29) rfl rfl) ?_
  show own_R _ _ _ _ T11 (mkF m 30 #[.val (.ref x), .val (.ref f), .val (.ref it), .val (.ref y0)] [(.ref y0), (.ref f)])
  obtain ⟨T12, L12, X12, Q12, st12⟩ := own_accept X11 hx hZ hown M (hw 340 rfl) (hw 341 rfl) (mvT hZ (hw 342 rfl)) (hw 346 rfl) (hw 344 rfl) (hw 345 rfl) (hw 95 rfl) (hw 343 rfl) (rmLamF l Z a0 hw [] T11.heap n0 de kd el ea ka em mr G Od11 ho y0 en ge Fen11 0 A11) own_Qla.none F11 Eh11 Ey0_11 (W := 0) (g := (mkF m 30 #[.val (.ref x), .val (.ref f), .val (.ref it), .val (.ref y0)] [(.ref y0), (.ref f)])) rfl (by rw [hml]; rfl) rfl (Nat.le_of_eq rfl) (hb hby d16_30) rfl (by decide) (by decide) (by decide) (by decide)
  obtain ⟨ed0, k0, vs0, md0, -, N12q, K12, ged0, gel0, A12, hvl0⟩ := Q12
  obtain ⟨lo0, glo⟩ : ∃ z, z = T11.heap.size := ⟨_, rfl⟩
  rw [← glo] at gel0
  have ned0 : it ≠ ed0 := own_nd J11.1.lt (glo ▸ gel0)
  have dx0 := own_nd (b := ed0) I11.1.lt (glo ▸ gel0)
  have df0 := own_nd (b := ed0) F11.lt (glo ▸ gel0)
  have dh0 := own_nd (b := ed0) Eh11.lt (glo ▸ gel0)
  have dxa0 := own_nd (b := ed0) I11.2.2.lt (glo ▸ gel0)
  have gd0 : h0.size ≤ ed0 := Nat.le_trans K11t.1 (glo ▸ gel0)
  have J12 := J11.keep K12 (own_ni (Ne.symm ie))
  have I12 := I11.keep K12 (own_ni nx) (own_ni nxa)
  have F12 := F11.keep K12 (own_ni nf)
  have Eh12 := Eh11.keep K12
  have Fen12 := Fen11.keep K12 (own_ni nh)
  have Od12 := Od11.keep K12 (fun z hz => by cases List.mem_singleton.mp hz; exact ge)
  have K12t := K11t.trans K12 (fun z hz => Or.inl hz)
  have Ey1_12 := Ey1_11.keep K12
  have Ey2_12 := Ey2_11.keep K12
  have N12 := Fr.app N11 N12q
  refine own_go st12 ?_
  show own_R _ _ _ _ T12 (mkF m 35 #[.val (.ref x), .val (.ref f), .val (.ref it), .val (.ref y0)] [])
  refine own_go (fun _ => XS.goto X12.here hx rfl (pc0 := 35) (pc' := 12) rfl (hb hby d16_35) (by decide) (by decide)) ?_
  show own_R _ _ _ _ T12 (mkF m 12 #[.val (.ref x), .val (.ref f), .val (.ref it), .val (.ref y0)] [])
  refine own_go (fun _ => XS.aloadN X12.here hx rfl (hb hby d16_12) rfl rfl) ?_
  show own_R _ _ _ _ T12 (mkF m 13 #[.val (.ref x), .val (.ref f), .val (.ref it), .val (.ref y0)] [(.ref it)])
  obtain ⟨v20, T20, L20, X20, Q20, st20⟩ := own_backF X12 hx hZ hown (xi := own_y46) (hw 179 rfl) (hw 180 rfl) (mvT hZ (hw 181 rfl)) (hw 182 rfl) (hw 183 rfl) (hw 184 rfl) (hw 185 rfl) (hw 186 rfl) (by decide) (backOf (W := 0) (rmHN1 l Z a0 hw [] T12.heap n0 it x (Int32.ofNat 3) (Int32.ofNat 1) J12 (by decide)) hZ (hw 187 rfl) (hw 161 rfl) (by decide) (by decide)) (b := it) J12.1 (g := (mkF m 13 #[.val (.ref x), .val (.ref f), .val (.ref it), .val (.ref y0)] [(.ref it)])) rfl (by rw [hml]; rfl) (argsL := []) (rest := []) (lenOf pd___Z rfl) rfl rfl (Nat.le_of_eq rfl) (hb hby d16_13) rfl (by decide) (by decide)
  obtain ⟨rfl, N20q, e20⟩ := Q20
  have N20 := Fr.app N12 N20q
  refine own_go st20 ?_
  show own_R _ _ _ _ T20 (mkF m 18 #[.val (.ref x), .val (.ref f), .val (.ref it), .val (.ref y0)] [(.int (1 : Int32))])
  refine own_go (fun _ => XS.ifNo X20.here hx rfl (hb hby d16_18) rfl ((if0 _ _).trans (feq (by decide : ¬ ((1 : Int32) = (0 : Int32)))).1)) ?_
  show own_R _ _ _ _ T20 (mkF m 21 #[.val (.ref x), .val (.ref f), .val (.ref it), .val (.ref y0)] [])
  refine own_go (fun _ => XS.aloadN X20.here hx rfl (hb hby d16_21) rfl rfl) ?_
  show own_R _ _ _ _ T20 (mkF m 22 #[.val (.ref x), .val (.ref f), .val (.ref it), .val (.ref y0)] [(.ref it)])
  obtain ⟨v21, T21, L21, X21, Q21, st21⟩ := own_backF X20 hx hZ hown (xi := own_y47) (hw 324 rfl) (hw 325 rfl) (mvT hZ (hw 326 rfl)) (hw 327 rfl) (hw 328 rfl) (hw 329 rfl) (hw 330 rfl) (hw 186 rfl) (by decide) (own_backB (W := 0) (rmNx31 l Z a0 hw T12.heap n0 de kd el ea ka em mr G Od12 x xa k y0 y1 y2 I12 it gi J12) hx hZ (by decide) (own_findW (hw 331 rfl)) (by decide) (by decide)) (b := it) J12.1 (g := (mkF m 22 #[.val (.ref x), .val (.ref f), .val (.ref it), .val (.ref y0)] [(.ref it)])) rfl (by rw [hml]; rfl) (argsL := []) (rest := []) (lenOf pd___Ljava_lang_Object_ rfl) rfl rfl (Nat.le_of_eq rfl) (hb hby d16_22) e20 (by decide) (by decide)
  obtain ⟨rfl, N21q, K21, J21⟩ := Q21
  have N21 := Fr.app N20 N21q
  refine own_go st21 ?_
  show own_R _ _ _ _ T21 (mkF m 27 #[.val (.ref x), .val (.ref f), .val (.ref it), .val (.ref y0)] [(.ref y1)])
  have I21 := I12.keep K21 (own_ni ix) (own_ni ixa)
  have F21 := F12.keep K21 (own_ni iF)
  have Eh21 := Eh12.keep K21
  have Fen21 := Fen12.keep K21 (own_ni ih)
  have A21 := A12.keep K21 (own_ni ie) (own_ni (Ne.symm ned0))
  have Od21 := Od12.keep K21 (fun z hz => by cases List.mem_singleton.mp hz; exact gi)
  have K21t := K12t.trans K21 (fun z hz => Or.inr (by cases List.mem_singleton.mp hz; exact git))
  have Ey1_21 := Ey1_12.keep K21
  have Ey2_21 := Ey2_12.keep K21
  refine own_go (fun _ => XS.astoreN X21.here hx rfl (hb hby d16_27) rfl rfl (l' := #[.val (.ref x), .val (.ref f), .val (.ref it), .val (.ref y1)]) rfl) ?_
  refine own_go (fun _ => XS.aloadN X21.here hx rfl (hb hby d16_28) rfl rfl) ?_
  refine own_go (fun _ => XS.aloadN X21.here hx rfl (hb hby d16_29) rfl rfl) ?_
  show own_R _ _ _ _ T21 (mkF m 30 #[.val (.ref x), .val (.ref f), .val (.ref it), .val (.ref y1)] [(.ref y1), (.ref f)])
  obtain ⟨T22, L22, X22, Q22, st22⟩ := own_accept X21 hx hZ hown M (hw 340 rfl) (hw 341 rfl) (mvT hZ (hw 342 rfl)) (hw 346 rfl) (hw 344 rfl) (hw 345 rfl) (hw 95 rfl) (hw 343 rfl) (rmLamM l Z a0 hw [] T21.heap n0 de kd el ea ka em mr G Od21 ho y1 en ge Fen21 md0 ed0 k0 vs0 (by omega) A21 ged0 lo0 gel0) own_Qla.none F21 Eh21 Ey1_21 (W := 0) (g := (mkF m 30 #[.val (.ref x), .val (.ref f), .val (.ref it), .val (.ref y1)] [(.ref y1), (.ref f)])) rfl (by rw [hml]; rfl) rfl (Nat.le_of_eq rfl) (hb hby d16_30) rfl (by decide) (by decide) (by decide) (by decide)
  obtain ⟨ed1, k1, vs1, md1, -, N22q, K22, ged1, gel1, A22, hvl1⟩ := Q22
  have ned1 : it ≠ ed1 := own_nd J11.1.lt (glo ▸ gel1)
  have dx1 := own_nd (b := ed1) I11.1.lt (glo ▸ gel1)
  have df1 := own_nd (b := ed1) F11.lt (glo ▸ gel1)
  have dh1 := own_nd (b := ed1) Eh11.lt (glo ▸ gel1)
  have dxa1 := own_nd (b := ed1) I11.2.2.lt (glo ▸ gel1)
  have gd1 : h0.size ≤ ed1 := Nat.le_trans K11t.1 (glo ▸ gel1)
  have J22 := J21.keep K22 (ninS (Ne.symm ie) (own_ni ned0))
  have I22 := I21.keep K22 (ninS nx (own_ni dx0)) (ninS nxa (own_ni dxa0))
  have F22 := F21.keep K22 (ninS nf (own_ni df0))
  have Eh22 := Eh21.keep K22
  have Fen22 := Fen21.keep K22 (ninS nh (own_ni dh0))
  have Od22 := Od21.keep K22 (allS (P := fun z => n0 ≤ z) ge (allS ged0 all0))
  have K22t := K21t.trans K22 (allS (P := fun z => z ∈ [en] ∨ h0.size ≤ z) (Or.inl (by simp)) (allS (Or.inr gd0) all0))
  have Ey2_22 := Ey2_21.keep K22
  have N22 := Fr.app N21 N22q
  refine own_go st22 ?_
  show own_R _ _ _ _ T22 (mkF m 35 #[.val (.ref x), .val (.ref f), .val (.ref it), .val (.ref y1)] [])
  refine own_go (fun _ => XS.goto X22.here hx rfl (pc0 := 35) (pc' := 12) rfl (hb hby d16_35) (by decide) (by decide)) ?_
  show own_R _ _ _ _ T22 (mkF m 12 #[.val (.ref x), .val (.ref f), .val (.ref it), .val (.ref y1)] [])
  refine own_go (fun _ => XS.aloadN X22.here hx rfl (hb hby d16_12) rfl rfl) ?_
  show own_R _ _ _ _ T22 (mkF m 13 #[.val (.ref x), .val (.ref f), .val (.ref it), .val (.ref y1)] [(.ref it)])
  obtain ⟨v30, T30, L30, X30, Q30, st30⟩ := own_backF X22 hx hZ hown (xi := own_y46) (hw 179 rfl) (hw 180 rfl) (mvT hZ (hw 181 rfl)) (hw 182 rfl) (hw 183 rfl) (hw 184 rfl) (hw 185 rfl) (hw 186 rfl) (by decide) (backOf (W := 0) (rmHN1 l Z a0 hw [] T22.heap n0 it x (Int32.ofNat 3) (Int32.ofNat 2) J22 (by decide)) hZ (hw 187 rfl) (hw 161 rfl) (by decide) (by decide)) (b := it) J22.1 (g := (mkF m 13 #[.val (.ref x), .val (.ref f), .val (.ref it), .val (.ref y1)] [(.ref it)])) rfl (by rw [hml]; rfl) (argsL := []) (rest := []) (lenOf pd___Z rfl) rfl rfl (Nat.le_of_eq rfl) (hb hby d16_13) rfl (by decide) (by decide)
  obtain ⟨rfl, N30q, e30⟩ := Q30
  have N30 := Fr.app N22 N30q
  refine own_go st30 ?_
  show own_R _ _ _ _ T30 (mkF m 18 #[.val (.ref x), .val (.ref f), .val (.ref it), .val (.ref y1)] [(.int (1 : Int32))])
  refine own_go (fun _ => XS.ifNo X30.here hx rfl (hb hby d16_18) rfl ((if0 _ _).trans (feq (by decide : ¬ ((1 : Int32) = (0 : Int32)))).1)) ?_
  show own_R _ _ _ _ T30 (mkF m 21 #[.val (.ref x), .val (.ref f), .val (.ref it), .val (.ref y1)] [])
  refine own_go (fun _ => XS.aloadN X30.here hx rfl (hb hby d16_21) rfl rfl) ?_
  show own_R _ _ _ _ T30 (mkF m 22 #[.val (.ref x), .val (.ref f), .val (.ref it), .val (.ref y1)] [(.ref it)])
  obtain ⟨v31, T31, L31, X31, Q31, st31⟩ := own_backF X30 hx hZ hown (xi := own_y47) (hw 324 rfl) (hw 325 rfl) (mvT hZ (hw 326 rfl)) (hw 327 rfl) (hw 328 rfl) (hw 329 rfl) (hw 330 rfl) (hw 186 rfl) (by decide) (own_backB (W := 0) (rmNx32 l Z a0 hw T22.heap n0 de kd el ea ka em mr G Od22 x xa k y0 y1 y2 I22 it gi J22) hx hZ (by decide) (own_findW (hw 331 rfl)) (by decide) (by decide)) (b := it) J22.1 (g := (mkF m 22 #[.val (.ref x), .val (.ref f), .val (.ref it), .val (.ref y1)] [(.ref it)])) rfl (by rw [hml]; rfl) (argsL := []) (rest := []) (lenOf pd___Ljava_lang_Object_ rfl) rfl rfl (Nat.le_of_eq rfl) (hb hby d16_22) e30 (by decide) (by decide)
  obtain ⟨rfl, N31q, K31, J31⟩ := Q31
  have N31 := Fr.app N30 N31q
  refine own_go st31 ?_
  show own_R _ _ _ _ T31 (mkF m 27 #[.val (.ref x), .val (.ref f), .val (.ref it), .val (.ref y1)] [(.ref y2)])
  have F31 := F22.keep K31 (own_ni iF)
  have Eh31 := Eh22.keep K31
  have Fen31 := Fen22.keep K31 (own_ni ih)
  have A31 := A22.keep K31 (own_ni ie) (own_ni (Ne.symm ned1))
  have Od31 := Od22.keep K31 (fun z hz => by cases List.mem_singleton.mp hz; exact gi)
  have K31t := K22t.trans K31 (fun z hz => Or.inr (by cases List.mem_singleton.mp hz; exact git))
  have Ey2_31 := Ey2_22.keep K31
  refine own_go (fun _ => XS.astoreN X31.here hx rfl (hb hby d16_27) rfl rfl (l' := #[.val (.ref x), .val (.ref f), .val (.ref it), .val (.ref y2)]) rfl) ?_
  refine own_go (fun _ => XS.aloadN X31.here hx rfl (hb hby d16_28) rfl rfl) ?_
  refine own_go (fun _ => XS.aloadN X31.here hx rfl (hb hby d16_29) rfl rfl) ?_
  show own_R _ _ _ _ T31 (mkF m 30 #[.val (.ref x), .val (.ref f), .val (.ref it), .val (.ref y2)] [(.ref y2), (.ref f)])
  obtain ⟨T32, L32, X32, Q32, st32⟩ := own_accept X31 hx hZ hown M (hw 340 rfl) (hw 341 rfl) (mvT hZ (hw 342 rfl)) (hw 346 rfl) (hw 344 rfl) (hw 345 rfl) (hw 95 rfl) (hw 343 rfl) (rmLamM l Z a0 hw [] T31.heap n0 de kd el ea ka em mr G Od31 ho y2 en ge Fen31 md1 ed1 k1 vs1 (by omega) A31 ged1 lo0 gel1) own_Qla.none F31 Eh31 Ey2_31 (W := 0) (g := (mkF m 30 #[.val (.ref x), .val (.ref f), .val (.ref it), .val (.ref y2)] [(.ref y2), (.ref f)])) rfl (by rw [hml]; rfl) rfl (Nat.le_of_eq rfl) (hb hby d16_30) rfl (by decide) (by decide) (by decide) (by decide)
  obtain ⟨ed2, k2, vs2, md2, -, N32q, K32, ged2, gel2, A32, hvl2⟩ := Q32
  have dx2 := own_nd (b := ed2) I11.1.lt (glo ▸ gel2)
  have df2 := own_nd (b := ed2) F11.lt (glo ▸ gel2)
  have dh2 := own_nd (b := ed2) Eh11.lt (glo ▸ gel2)
  have dxa2 := own_nd (b := ed2) I11.2.2.lt (glo ▸ gel2)
  have gd2 : h0.size ≤ ed2 := Nat.le_trans K11t.1 (glo ▸ gel2)
  have J32 := J31.keep K32 (ninS (Ne.symm ie) (own_ni ned1))
  have Od32 := Od31.keep K32 (allS (P := fun z => n0 ≤ z) ge (allS ged1 all0))
  have K32t := K31t.trans K32 (allS (P := fun z => z ∈ [en] ∨ h0.size ≤ z) (Or.inl (by simp)) (allS (Or.inr gd1) all0))
  have N32 := Fr.app N31 N32q
  refine own_go st32 ?_
  show own_R _ _ _ _ T32 (mkF m 35 #[.val (.ref x), .val (.ref f), .val (.ref it), .val (.ref y2)] [])
  refine own_go (fun _ => XS.goto X32.here hx rfl (pc0 := 35) (pc' := 12) rfl (hb hby d16_35) (by decide) (by decide)) ?_
  show own_R _ _ _ _ T32 (mkF m 12 #[.val (.ref x), .val (.ref f), .val (.ref it), .val (.ref y2)] [])
  refine own_go (fun _ => XS.aloadN X32.here hx rfl (hb hby d16_12) rfl rfl) ?_
  show own_R _ _ _ _ T32 (mkF m 13 #[.val (.ref x), .val (.ref f), .val (.ref it), .val (.ref y2)] [(.ref it)])
  obtain ⟨v90, T90, L90, X90, Q90, st90⟩ := own_backF X32 hx hZ hown (xi := own_y46) (hw 179 rfl) (hw 180 rfl) (mvT hZ (hw 181 rfl)) (hw 182 rfl) (hw 183 rfl) (hw 184 rfl) (hw 185 rfl) (hw 186 rfl) (by decide) (backOf (W := 0) (rmHN0 l Z a0 hw [] T32.heap n0 it x (Int32.ofNat 3) (Int32.ofNat 3) J32 rfl) hZ (hw 187 rfl) (hw 161 rfl) (by decide) (by decide)) (b := it) J32.1 (g := (mkF m 13 #[.val (.ref x), .val (.ref f), .val (.ref it), .val (.ref y2)] [(.ref it)])) rfl (by rw [hml]; rfl) (argsL := []) (rest := []) (lenOf pd___Z rfl) rfl rfl (Nat.le_of_eq rfl) (hb hby d16_13) rfl (by decide) (by decide)
  obtain ⟨rfl, N90q, e90⟩ := Q90
  have N90 := Fr.app N32 N90q
  refine own_go st90 ?_
  show own_R _ _ _ _ T90 (mkF m 18 #[.val (.ref x), .val (.ref f), .val (.ref it), .val (.ref y2)] [(.int (0 : Int32))])
  refine own_go (fun _ => XS.ifYes X90.here hx rfl (pc0 := 18) (pc' := 38) rfl (hb hby d16_18) rfl ((if0 _ _).trans (teq (rfl : (0 : Int32) = (0 : Int32))).1) (by decide) (by decide)) ?_
  show own_R _ _ _ _ T90 (mkF m 38 #[.val (.ref x), .val (.ref f), .val (.ref it), .val (.ref y2)] [])
  exact own_end X90 none (fun _ => rfl) hlk (fun fs hr => X90.returnOut hx hret (hb hby d16_38) hr) (by show own_Qfe en h0 n0 _ T90.heap _; rw [e90]; exact ⟨rfl, N90, K32t⟩) (by decide) (by decide)
def own_Qh (Z : State) (a : Addr) (nn : Int32) (h0 : Heap) (n0 : Nat) (v : Option Value) (h : Heap) (L : List Loc) : Prop := ∃ (ua : Addr) (k : ClassId), v = none ∧ Fr n0 L ∧ Exa Z h a "com/example/zellwerk/zellwerk/service/Holdings" ∧ Fld Z h a "com/example/zellwerk/zellwerk/service/Holdings" "until" "[D" (.ref ua) ∧ Arv Z h ua k .double nn [] (.double 0)
set_option maxRecDepth 65536 in
set_option maxHeartbeats 40000000 in
theorem rmHi0 (l : Launch) (Z : State) (a0 : Array Value) (hw : own_T a0 Z) (ws : List Jvm.Cond) (h0 : Heap) (n0 : Nat) (de : Addr) (kd : ClassId) (el ea : Addr) (ka : ClassId) (em mr : Addr) (G : own_G Z de kd el ea ka em mr) (Od : Old Z n0 h0) (I : own_IN Z h0 el ea ka (Int32.ofNat 0) []) (cK : ClassId) (M : own_Mk Z cK) (Si : own_Si Z cK) (ho ce : Addr) (g9 : n0 ≤ ho) (E : Exa Z h0 ho "com/example/zellwerk/zellwerk/service/Holdings") (Fended : Fld Z h0 ho "com/example/zellwerk/zellwerk/service/Holdings" "ended" "Ljava/util/List;" .null) (Fcell : Fld Z h0 ho "com/example/zellwerk/zellwerk/service/Holdings" "cell" "Lcom/example/zellwerk/zellwerk/model/Cell;" .null) (Fholder : Fld Z h0 ho "com/example/zellwerk/zellwerk/service/Holdings" "holder" "[I" .null) (Funtil : Fld Z h0 ho "com/example/zellwerk/zellwerk/service/Holdings" "until" "[D" .null) (Fsince : Fld Z h0 ho "com/example/zellwerk/zellwerk/service/Holdings" "since" "[D" .null) (Ece : Exa Z h0 ce "com/example/zellwerk/zellwerk/model/Cell") (Fa : Fld Z h0 ce "com/example/zellwerk/zellwerk/model/Cell" "areas" "Ljava/util/List;" (.ref el)) (nce : ce ≠ ho) (nx : el ≠ ho) (nxa : ea ≠ ho)   :
    own_C l Z own_y4 prog_48_method_1_code 2 none ws ({ frames := 8, cells := 6, slots := 8, locals := 3100 } : Room) #[(.ref ho), (.ref ce)] h0 (own_Qh Z ho (Int32.ofNat 0) h0 n0) := by
  refine own_bodyM (ls := #[.val (.ref ho), .val (.ref ce)]) pn_12 (fun m => by first | (simp [entryFrame, mkF, argsToLocals, Value.category]; done) | rfl) ?_
  intro p e s m below meth c T0 hnam hZ hx hby hml hown hnm hret hlk X0 e0
  replace hml : c.maxLocals = 2 := hml
  have N0 := Fr.nil n0
  refine own_go (fun _ => XS.aloadN X0.here hx rfl (hb hby d12_0) rfl rfl) ?_
  show own_R _ _ _ _ T0 (mkF m 1 #[.val (.ref ho), .val (.ref ce)] [(.ref ho)])
  obtain ⟨T1, X1, e1, st1⟩ := initO X0 hx hZ hown (hw 99 rfl) (hw 19 rfl) (hw 20 rfl) e0 (g := (mkF m 1 #[.val (.ref ho), .val (.ref ce)] [(.ref ho)])) rfl (by rw [hml]; rfl) rfl (hb hby d12_1) (by decide) (W := 0) (Nat.le_of_eq rfl) (by decide)
  refine own_go st1 ?_
  show own_R _ _ _ _ T1 (mkF m 4 #[.val (.ref ho), .val (.ref ce)] [])
  refine own_go (fun _ => XS.aloadN X1.here hx rfl (hb hby d12_4) rfl rfl) ?_
  show own_R _ _ _ _ T1 (mkF m 5 #[.val (.ref ho), .val (.ref ce)] [(.ref ho)])
  obtain ⟨T2, h2, X2, e2, E2, A2, D2, -, st2⟩ := newO X1 hx hZ hown (hw 100 rfl) (hw 1 rfl) (hw 2 rfl) e1 (g := (mkF m 5 #[.val (.ref ho), .val (.ref ce)] [(.ref ho)])) rfl (hb hby d12_5) (by decide) (by decide)
  obtain ⟨a2, g2⟩ : ∃ z, z = h0.size := ⟨_, rfl⟩
  rw [← g2] at A2 D2 st2
  refine own_go st2 ?_
  show own_R _ _ _ _ T2 (mkF m 8 #[.val (.ref ho), .val (.ref ce)] [(.ref a2), (.ref ho)])
  refine own_go (fun _ => XS.dup X2.here hx rfl (hb hby d12_8) rfl rfl) ?_
  show own_R _ _ _ _ T2 (mkF m 9 #[.val (.ref ho), .val (.ref ce)] [(.ref a2), (.ref a2), (.ref ho)])
  have g2n : n0 ≤ a2 := Nat.le_trans (Od.1 ▸ Od.2.1) (Nat.le_of_eq g2.symm)
  have nho2 := own_nd (b := a2) E.lt (Nat.le_of_eq g2.symm)
  have nce2 := own_nd (b := a2) Ece.lt (Nat.le_of_eq g2.symm)
  have nx2 := own_nd (b := a2) I.1.lt (Nat.le_of_eq g2.symm)
  have nxa2 := own_nd (b := a2) I.2.2.lt (Nat.le_of_eq g2.symm)
  have r1_E := E.ext E2
  have r2_Ece := Ece.ext E2
  have r3_Fa := Fa.ext E2
  have r4_I := I.ext E2
  have r5_Od := Od.ext E2
  have r6_Fended := Fended.ext E2
  have r7_Fcell := Fcell.ext E2
  have r8_Fholder := Fholder.ext E2
  have r9_Funtil := Funtil.ext E2
  have r10_Fsince := Fsince.ext E2
  obtain ⟨v3, T3, L3, X3, Q3, st3⟩ := own_callI X2 hx hZ hown (y := own_y18) rfl (hw 101 rfl) (hw 4 rfl) (hw 5 rfl) (hw 2 rfl) (by decide) (rmAL l Z a0 hw [] h2 n0 a2 g2n A2 (D2 (Or.inl (hw 25 rfl)) (ty := (.array (.object "java/lang/Object"))) (by decide)) (D2 (Or.inl (hw 69 rfl)) (ty := .int) (by decide)) (D2 (Or.inl (hw 22 rfl)) (ty := .int) (by decide)) de G.1 r5_Od) (W := 2) (g := (mkF m 9 #[.val (.ref ho), .val (.ref ce)] [(.ref a2), (.ref a2), (.ref ho)])) rfl (by rw [hml]; rfl) (a := a2) (argsL := []) (rest := [(.ref a2), (.ref ho)]) (lenOf pd___V rfl) rfl rfl (Nat.le_of_eq rfl) (hb hby d12_9) e2 (by decide) (by decide) (by decide) (by decide)
  obtain ⟨rfl, N3q, K3, AL3⟩ := Q3
  have N3 := Fr.app N0 N3q
  refine own_go st3 ?_
  show own_R _ _ _ _ T3 (mkF m 12 #[.val (.ref ho), .val (.ref ce)] [(.ref a2), (.ref ho)])
  have r11_E := r1_E.keep K3
  have r12_Ece := r2_Ece.keep K3
  have r13_Fa := r3_Fa.keep K3 (ninS nce2 nin0)
  have r14_I := r4_I.keep K3 (ninS nx2 nin0) (ninS nxa2 nin0)
  have r15_Od := r5_Od.keep K3 (fun z hz => by cases List.mem_singleton.mp hz; exact g2n)
  have r16_Fended := r6_Fended.keep K3 (ninS nho2 nin0)
  have r17_Fcell := r7_Fcell.keep K3 (ninS nho2 nin0)
  have r18_Fholder := r8_Fholder.keep K3 (ninS nho2 nin0)
  have r19_Funtil := r9_Funtil.keep K3 (ninS nho2 nin0)
  have r20_Fsince := r10_Fsince.keep K3 (ninS nho2 nin0)
  obtain ⟨T4, h4, X4, e4, W4, st4⟩ := putF X3 hx hZ hown (host := "") (Or.inl (hw 102 rfl)) Via.refl rfl r16_Fended r11_E (Or.inr ⟨(hw 103 rfl), rfl, hnm⟩) (hw 94 rfl) (ty := (.object "java/util/List")) (by decide) rfl rfl (g := (mkF m 12 #[.val (.ref ho), .val (.ref ce)] [(.ref a2), (.ref ho)])) rfl rfl (hb hby d12_12)
  refine own_go st4 ?_
  show own_R _ _ _ _ T4 (mkF m 15 #[.val (.ref ho), .val (.ref ce)] [])
  have N4 := Fr.snoc X4 N3 g9
  have KW4 := Keep.of_wr W4
  have r21_Fended := r16_Fended.same W4
  have r22_Fcell := r17_Fcell.other W4 (Or.inr (slot_ne (Or.inr (hw 105 rfl)) (Or.inr (hw 103 rfl)) (by decide) (t := (.object "com/example/zellwerk/zellwerk/model/Cell")) (t' := (.object "java/util/List")) (by decide) (by decide)))
  have r23_Fholder := r18_Fholder.other W4 (Or.inr (slot_ne (Or.inr (hw 124 rfl)) (Or.inr (hw 103 rfl)) (by decide) (t := (.array .int)) (t' := (.object "java/util/List")) (by decide) (by decide)))
  have r24_Funtil := r19_Funtil.other W4 (Or.inr (slot_ne (Or.inr (hw 127 rfl)) (Or.inr (hw 103 rfl)) (by decide) (t := (.array .double)) (t' := (.object "java/util/List")) (by decide) (by decide)))
  have r25_Fsince := r20_Fsince.other W4 (Or.inr (slot_ne (Or.inr (hw 129 rfl)) (Or.inr (hw 103 rfl)) (by decide) (t := (.array .double)) (t' := (.object "java/util/List")) (by decide) (by decide)))
  have r26_E := r11_E.keep KW4
  have r27_Ece := r12_Ece.keep KW4
  have r28_Fa := r13_Fa.keep KW4 (ninS nce nin0)
  have r29_I := r14_I.keep KW4 (ninS nx nin0) (ninS nxa nin0)
  have r30_Od := r15_Od.keep KW4 (fun z hz => by cases List.mem_singleton.mp hz; exact g9)
  have r31_AL := AL3.keep KW4 (ninS (Ne.symm nho2) nin0)
  refine own_go (fun _ => XS.aloadN X4.here hx rfl (hb hby d12_15) rfl rfl) ?_
  refine own_go (fun _ => XS.aloadN X4.here hx rfl (hb hby d12_16) rfl rfl) ?_
  show own_R _ _ _ _ T4 (mkF m 17 #[.val (.ref ho), .val (.ref ce)] [(.ref ce), (.ref ho)])
  obtain ⟨T5, h5, X5, e5, W5, st5⟩ := putF X4 hx hZ hown (host := "") (Or.inl (hw 104 rfl)) Via.refl e4 r22_Fcell r26_E (Or.inr ⟨(hw 105 rfl), rfl, hnm⟩) (hw 94 rfl) (ty := (.object "com/example/zellwerk/zellwerk/model/Cell")) (by decide) rfl rfl (g := (mkF m 17 #[.val (.ref ho), .val (.ref ce)] [(.ref ce), (.ref ho)])) rfl rfl (hb hby d12_17)
  refine own_go st5 ?_
  show own_R _ _ _ _ T5 (mkF m 20 #[.val (.ref ho), .val (.ref ce)] [])
  have N5 := Fr.snoc X5 N4 g9
  have KW5 := Keep.of_wr W5
  have r32_Fended := r21_Fended.other W5 (Or.inr (slot_ne (Or.inr (hw 103 rfl)) (Or.inr (hw 105 rfl)) (by decide) (t := (.object "java/util/List")) (t' := (.object "com/example/zellwerk/zellwerk/model/Cell")) (by decide) (by decide)))
  have r33_Fcell := r22_Fcell.same W5
  have r34_Fholder := r23_Fholder.other W5 (Or.inr (slot_ne (Or.inr (hw 124 rfl)) (Or.inr (hw 105 rfl)) (by decide) (t := (.array .int)) (t' := (.object "com/example/zellwerk/zellwerk/model/Cell")) (by decide) (by decide)))
  have r35_Funtil := r24_Funtil.other W5 (Or.inr (slot_ne (Or.inr (hw 127 rfl)) (Or.inr (hw 105 rfl)) (by decide) (t := (.array .double)) (t' := (.object "com/example/zellwerk/zellwerk/model/Cell")) (by decide) (by decide)))
  have r36_Fsince := r25_Fsince.other W5 (Or.inr (slot_ne (Or.inr (hw 129 rfl)) (Or.inr (hw 105 rfl)) (by decide) (t := (.array .double)) (t' := (.object "com/example/zellwerk/zellwerk/model/Cell")) (by decide) (by decide)))
  have r37_E := r26_E.keep KW5
  have r38_Ece := r27_Ece.keep KW5
  have r39_Fa := r28_Fa.keep KW5 (ninS nce nin0)
  have r40_I := r29_I.keep KW5 (ninS nx nin0) (ninS nxa nin0)
  have r41_Od := r30_Od.keep KW5 (fun z hz => by cases List.mem_singleton.mp hz; exact g9)
  have r42_AL := r31_AL.keep KW5 (ninS (Ne.symm nho2) nin0)
  refine own_go (fun _ => XS.aloadN X5.here hx rfl (hb hby d12_20) rfl rfl) ?_
  refine own_go (fun _ => XS.aloadN X5.here hx rfl (hb hby d12_21) rfl rfl) ?_
  show own_R _ _ _ _ T5 (mkF m 22 #[.val (.ref ho), .val (.ref ce)] [(.ref ce), (.ref ho)])
  obtain ⟨v6a, T6a, L6a, X6a, Q6a, st6a⟩ := own_callV X5 hx hZ hown (y := own_y3) (hw 106 rfl) (hw 107 rfl) (hw 109 rfl) (hw 108 rfl) (hw 110 rfl) (hw 28 rfl) (by decide) (rmCA l Z a0 hw [] h5 n0 ce el r39_Fa) r38_Ece (W := 1) (g := (mkF m 22 #[.val (.ref ho), .val (.ref ce)] [(.ref ce), (.ref ho)])) rfl (by rw [hml]; rfl) (b := ce) (argsL := []) (rest := [(.ref ho)]) (lenOf pd___Ljava_util_List_ rfl) rfl rfl (Nat.le_of_eq rfl) (hb hby d12_22) e5 (by decide) (by decide) (by decide) (by decide)
  obtain ⟨rfl, N6aq, e6a⟩ := Q6a
  have N6a := Fr.app N5 N6aq
  refine own_go st6a ?_
  show own_R _ _ _ _ T6a (mkF m 25 #[.val (.ref ho), .val (.ref ce)] [(.ref el), (.ref ho)])
  obtain ⟨v6b, T6b, L6b, X6b, Q6b, st6b⟩ := own_backF X6a hx hZ hown (xi := own_y54) (hw 111 rfl) (hw 112 rfl) (mvT hZ (hw 113 rfl)) (hw 114 rfl) (hw 115 rfl) (hw 116 rfl) (hw 117 rfl) (hw 78 rfl) (by decide) (backOf (W := 1) (rmSN l Z a0 hw [] h5 n0 el ea ka (Int32.ofNat 0) [] r40_I) hZ (hw 119 rfl) (hw 118 rfl) (by decide) (by decide)) (b := el) r40_I.1 (g := (mkF m 25 #[.val (.ref ho), .val (.ref ce)] [(.ref el), (.ref ho)])) rfl (by rw [hml]; rfl) (argsL := []) (rest := [(.ref ho)]) (lenOf pd___I rfl) rfl rfl (Nat.le_of_eq rfl) (hb hby d12_25) e6a (by decide) (by decide)
  obtain ⟨rfl, N6bq, e6b⟩ := Q6b
  have N6b := Fr.app N6a N6bq
  refine own_go st6b ?_
  show own_R _ _ _ _ T6b (mkF m 30 #[.val (.ref ho), .val (.ref ce)] [(.int (Int32.ofNat 0)), (.ref ho)])
  obtain ⟨T6, h6, k6, X6, e6, E6, A6, st6⟩ := newP X6b hx hZ (hw 122 rfl) e6b (g := (mkF m 30 #[.val (.ref ho), .val (.ref ce)] [(.int (Int32.ofNat 0)), (.ref ho)])) rfl (hb hby d12_30) rfl (by decide) (cap := 0) (by decide) (by decide) (by decide) (by decide)
  obtain ⟨a6, g6⟩ : ∃ z, z = h5.size := ⟨_, rfl⟩
  rw [← g6] at A6 st6
  refine own_go st6 ?_
  show own_R _ _ _ _ T6 (mkF m 32 #[.val (.ref ho), .val (.ref ce)] [(.ref a6), (.ref ho)])
  have nh6 := own_nd (b := a6) r37_E.lt (Nat.le_of_eq g6.symm)
  have gha : n0 ≤ a6 := Nat.le_trans (r41_Od.1 ▸ r41_Od.2.1) (Nat.le_of_eq g6.symm)
  have nho6 := own_nd (b := a6) r37_E.lt (Nat.le_of_eq g6.symm)
  have nce6 := own_nd (b := a6) r38_Ece.lt (Nat.le_of_eq g6.symm)
  have nx6 := own_nd (b := a6) r40_I.1.lt (Nat.le_of_eq g6.symm)
  have nen6 := own_nd (b := a6) r42_AL.1.lt (Nat.le_of_eq g6.symm)
  have nxa6 := own_nd (b := a6) r40_I.2.2.lt (Nat.le_of_eq g6.symm)
  have r43_E := r37_E.ext E6
  have r44_Ece := r38_Ece.ext E6
  have r45_Fa := r39_Fa.ext E6
  have r46_I := r40_I.ext E6
  have r47_Od := r41_Od.ext E6
  have r48_Fended := r32_Fended.ext E6
  have r49_Fcell := r33_Fcell.ext E6
  have r50_Fholder := r34_Fholder.ext E6
  have r51_Funtil := r35_Funtil.ext E6
  have r52_Fsince := r36_Fsince.ext E6
  have r53_AL := r42_AL.ext E6
  have Av6 := Arv.new A6 (by decide)
  obtain ⟨T16, h16, X16, e16, W16, st16⟩ := putF X6 hx hZ hown (host := "") (Or.inl (hw 123 rfl)) Via.refl e6 r50_Fholder r43_E (Or.inr ⟨(hw 124 rfl), rfl, hnm⟩) (hw 94 rfl) (ty := (.array .int)) (by decide) rfl rfl (g := (mkF m 32 #[.val (.ref ho), .val (.ref ce)] [(.ref a6), (.ref ho)])) rfl rfl (hb hby d12_32)
  refine own_go st16 ?_
  show own_R _ _ _ _ T16 (mkF m 35 #[.val (.ref ho), .val (.ref ce)] [])
  have N16 := Fr.snoc X16 N6b g9
  have KW16 := Keep.of_wr W16
  have r54_Fended := r48_Fended.other W16 (Or.inr (slot_ne (Or.inr (hw 103 rfl)) (Or.inr (hw 124 rfl)) (by decide) (t := (.object "java/util/List")) (t' := (.array .int)) (by decide) (by decide)))
  have r55_Fcell := r49_Fcell.other W16 (Or.inr (slot_ne (Or.inr (hw 105 rfl)) (Or.inr (hw 124 rfl)) (by decide) (t := (.object "com/example/zellwerk/zellwerk/model/Cell")) (t' := (.array .int)) (by decide) (by decide)))
  have r56_Fholder := r50_Fholder.same W16
  have r57_Funtil := r51_Funtil.other W16 (Or.inr (slot_ne (Or.inr (hw 127 rfl)) (Or.inr (hw 124 rfl)) (by decide) (t := (.array .double)) (t' := (.array .int)) (by decide) (by decide)))
  have r58_Fsince := r52_Fsince.other W16 (Or.inr (slot_ne (Or.inr (hw 129 rfl)) (Or.inr (hw 124 rfl)) (by decide) (t := (.array .double)) (t' := (.array .int)) (by decide) (by decide)))
  have r59_E := r43_E.keep KW16
  have r60_Ece := r44_Ece.keep KW16
  have r61_Fa := r45_Fa.keep KW16 (ninS nce nin0)
  have r62_I := r46_I.keep KW16 (ninS nx nin0) (ninS nxa nin0)
  have r63_Od := r47_Od.keep KW16 (fun z hz => by cases List.mem_singleton.mp hz; exact g9)
  have r64_AL := r53_AL.keep KW16 (ninS (Ne.symm nho2) nin0)
  have r65_Ah := Av6.keep KW16 (ninS (Ne.symm nh6) nin0)
  refine own_go (fun _ => XS.aloadN X16.here hx rfl (hb hby d12_35) rfl rfl) ?_
  show own_R _ _ _ _ T16 (mkF m 36 #[.val (.ref ho), .val (.ref ce)] [(.ref ho)])
  refine own_go (fun _ => XS.aloadN X16.here hx rfl (hb hby d12_36) rfl rfl) ?_
  show own_R _ _ _ _ T16 (mkF m 37 #[.val (.ref ho), .val (.ref ce)] [(.ref ce), (.ref ho)])
  obtain ⟨v7a, T7a, L7a, X7a, Q7a, st7a⟩ := own_callV X16 hx hZ hown (y := own_y3) (hw 106 rfl) (hw 107 rfl) (hw 109 rfl) (hw 108 rfl) (hw 110 rfl) (hw 28 rfl) (by decide) (rmCA l Z a0 hw [] h16 n0 ce el r61_Fa) r60_Ece (W := 1) (g := (mkF m 37 #[.val (.ref ho), .val (.ref ce)] [(.ref ce), (.ref ho)])) rfl (by rw [hml]; rfl) (b := ce) (argsL := []) (rest := [(.ref ho)]) (lenOf pd___Ljava_util_List_ rfl) rfl rfl (Nat.le_of_eq rfl) (hb hby d12_37) e16 (by decide) (by decide) (by decide) (by decide)
  obtain ⟨rfl, N7aq, e7a⟩ := Q7a
  have N7a := Fr.app N16 N7aq
  refine own_go st7a ?_
  show own_R _ _ _ _ T7a (mkF m 40 #[.val (.ref ho), .val (.ref ce)] [(.ref el), (.ref ho)])
  obtain ⟨v7b, T7b, L7b, X7b, Q7b, st7b⟩ := own_backF X7a hx hZ hown (xi := own_y54) (hw 111 rfl) (hw 112 rfl) (mvT hZ (hw 113 rfl)) (hw 114 rfl) (hw 115 rfl) (hw 116 rfl) (hw 117 rfl) (hw 78 rfl) (by decide) (backOf (W := 1) (rmSN l Z a0 hw [] h16 n0 el ea ka (Int32.ofNat 0) [] r62_I) hZ (hw 119 rfl) (hw 118 rfl) (by decide) (by decide)) (b := el) r62_I.1 (g := (mkF m 40 #[.val (.ref ho), .val (.ref ce)] [(.ref el), (.ref ho)])) rfl (by rw [hml]; rfl) (argsL := []) (rest := [(.ref ho)]) (lenOf pd___I rfl) rfl rfl (Nat.le_of_eq rfl) (hb hby d12_40) e7a (by decide) (by decide)
  obtain ⟨rfl, N7bq, e7b⟩ := Q7b
  have N7b := Fr.app N7a N7bq
  refine own_go st7b ?_
  show own_R _ _ _ _ T7b (mkF m 45 #[.val (.ref ho), .val (.ref ce)] [(.int (Int32.ofNat 0)), (.ref ho)])
  obtain ⟨T7, h7, k7, X7, e7, E7, A7, st7⟩ := newP X7b hx hZ (hw 125 rfl) e7b (g := (mkF m 45 #[.val (.ref ho), .val (.ref ce)] [(.int (Int32.ofNat 0)), (.ref ho)])) rfl (hb hby d12_45) rfl (by decide) (cap := 0) (by decide) (by decide) (by decide) (by decide)
  obtain ⟨a7, g7⟩ : ∃ z, z = h16.size := ⟨_, rfl⟩
  rw [← g7] at A7 st7
  refine own_go st7 ?_
  show own_R _ _ _ _ T7 (mkF m 47 #[.val (.ref ho), .val (.ref ce)] [(.ref a7), (.ref ho)])
  have nh7 := own_nd (b := a7) r59_E.lt (Nat.le_of_eq g7.symm)
  have n67 := own_nd (b := a7) r65_Ah.lt (Nat.le_of_eq g7.symm)
  have r66_E := r59_E.ext E7
  have r67_Ece := r60_Ece.ext E7
  have r68_Fa := r61_Fa.ext E7
  have r69_I := r62_I.ext E7
  have r70_Od := r63_Od.ext E7
  have r71_Fended := r54_Fended.ext E7
  have r72_Fcell := r55_Fcell.ext E7
  have r73_Fholder := r56_Fholder.ext E7
  have r74_Funtil := r57_Funtil.ext E7
  have r75_Fsince := r58_Fsince.ext E7
  have r76_AL := r64_AL.ext E7
  have r77_Ah := r65_Ah.ext E7
  have Av7 := Arv.new A7 (by decide)
  obtain ⟨T17, h17, X17, e17, W17, st17⟩ := putF X7 hx hZ hown (host := "") (Or.inl (hw 126 rfl)) Via.refl e7 r74_Funtil r66_E (Or.inr ⟨(hw 127 rfl), rfl, hnm⟩) (hw 94 rfl) (ty := (.array .double)) (by decide) rfl rfl (g := (mkF m 47 #[.val (.ref ho), .val (.ref ce)] [(.ref a7), (.ref ho)])) rfl rfl (hb hby d12_47)
  refine own_go st17 ?_
  show own_R _ _ _ _ T17 (mkF m 50 #[.val (.ref ho), .val (.ref ce)] [])
  have N17 := Fr.snoc X17 N7b g9
  have KW17 := Keep.of_wr W17
  have r78_Fended := r71_Fended.other W17 (Or.inr (slot_ne (Or.inr (hw 103 rfl)) (Or.inr (hw 127 rfl)) (by decide) (t := (.object "java/util/List")) (t' := (.array .double)) (by decide) (by decide)))
  have r79_Fcell := r72_Fcell.other W17 (Or.inr (slot_ne (Or.inr (hw 105 rfl)) (Or.inr (hw 127 rfl)) (by decide) (t := (.object "com/example/zellwerk/zellwerk/model/Cell")) (t' := (.array .double)) (by decide) (by decide)))
  have r80_Fholder := r73_Fholder.other W17 (Or.inr (slot_ne (Or.inr (hw 124 rfl)) (Or.inr (hw 127 rfl)) (by decide) (t := (.array .int)) (t' := (.array .double)) (by decide) (by decide)))
  have r81_Funtil := r74_Funtil.same W17
  have r82_Fsince := r75_Fsince.other W17 (Or.inr (slot_ne (Or.inr (hw 129 rfl)) (Or.inr (hw 127 rfl)) (by decide) (t := (.array .double)) (t' := (.array .double)) (by decide) (by decide)))
  have r83_E := r66_E.keep KW17
  have r84_Ece := r67_Ece.keep KW17
  have r85_Fa := r68_Fa.keep KW17 (ninS nce nin0)
  have r86_I := r69_I.keep KW17 (ninS nx nin0) (ninS nxa nin0)
  have r87_Od := r70_Od.keep KW17 (fun z hz => by cases List.mem_singleton.mp hz; exact g9)
  have r88_AL := r76_AL.keep KW17 (ninS (Ne.symm nho2) nin0)
  have r89_Ah := r77_Ah.keep KW17 (ninS (Ne.symm nh6) nin0)
  have r90_Au := Av7.keep KW17 (ninS (Ne.symm nh7) nin0)
  refine own_go (fun _ => XS.aloadN X17.here hx rfl (hb hby d12_50) rfl rfl) ?_
  show own_R _ _ _ _ T17 (mkF m 51 #[.val (.ref ho), .val (.ref ce)] [(.ref ho)])
  refine own_go (fun _ => XS.aloadN X17.here hx rfl (hb hby d12_51) rfl rfl) ?_
  show own_R _ _ _ _ T17 (mkF m 52 #[.val (.ref ho), .val (.ref ce)] [(.ref ce), (.ref ho)])
  obtain ⟨v8a, T8a, L8a, X8a, Q8a, st8a⟩ := own_callV X17 hx hZ hown (y := own_y3) (hw 106 rfl) (hw 107 rfl) (hw 109 rfl) (hw 108 rfl) (hw 110 rfl) (hw 28 rfl) (by decide) (rmCA l Z a0 hw [] h17 n0 ce el r85_Fa) r84_Ece (W := 1) (g := (mkF m 52 #[.val (.ref ho), .val (.ref ce)] [(.ref ce), (.ref ho)])) rfl (by rw [hml]; rfl) (b := ce) (argsL := []) (rest := [(.ref ho)]) (lenOf pd___Ljava_util_List_ rfl) rfl rfl (Nat.le_of_eq rfl) (hb hby d12_52) e17 (by decide) (by decide) (by decide) (by decide)
  obtain ⟨rfl, N8aq, e8a⟩ := Q8a
  have N8a := Fr.app N17 N8aq
  refine own_go st8a ?_
  show own_R _ _ _ _ T8a (mkF m 55 #[.val (.ref ho), .val (.ref ce)] [(.ref el), (.ref ho)])
  obtain ⟨v8b, T8b, L8b, X8b, Q8b, st8b⟩ := own_backF X8a hx hZ hown (xi := own_y54) (hw 111 rfl) (hw 112 rfl) (mvT hZ (hw 113 rfl)) (hw 114 rfl) (hw 115 rfl) (hw 116 rfl) (hw 117 rfl) (hw 78 rfl) (by decide) (backOf (W := 1) (rmSN l Z a0 hw [] h17 n0 el ea ka (Int32.ofNat 0) [] r86_I) hZ (hw 119 rfl) (hw 118 rfl) (by decide) (by decide)) (b := el) r86_I.1 (g := (mkF m 55 #[.val (.ref ho), .val (.ref ce)] [(.ref el), (.ref ho)])) rfl (by rw [hml]; rfl) (argsL := []) (rest := [(.ref ho)]) (lenOf pd___I rfl) rfl rfl (Nat.le_of_eq rfl) (hb hby d12_55) e8a (by decide) (by decide)
  obtain ⟨rfl, N8bq, e8b⟩ := Q8b
  have N8b := Fr.app N8a N8bq
  refine own_go st8b ?_
  show own_R _ _ _ _ T8b (mkF m 60 #[.val (.ref ho), .val (.ref ce)] [(.int (Int32.ofNat 0)), (.ref ho)])
  obtain ⟨T8, h8, k8, X8, e8, E8, A8, st8⟩ := newP X8b hx hZ (hw 125 rfl) e8b (g := (mkF m 60 #[.val (.ref ho), .val (.ref ce)] [(.int (Int32.ofNat 0)), (.ref ho)])) rfl (hb hby d12_60) rfl (by decide) (cap := 0) (by decide) (by decide) (by decide) (by decide)
  obtain ⟨a8, g8⟩ : ∃ z, z = h17.size := ⟨_, rfl⟩
  rw [← g8] at A8 st8
  refine own_go st8 ?_
  show own_R _ _ _ _ T8 (mkF m 62 #[.val (.ref ho), .val (.ref ce)] [(.ref a8), (.ref ho)])
  have nh8 := own_nd (b := a8) r83_E.lt (Nat.le_of_eq g8.symm)
  have r91_E := r83_E.ext E8
  have r92_Ece := r84_Ece.ext E8
  have r93_Fa := r85_Fa.ext E8
  have r94_I := r86_I.ext E8
  have r95_Od := r87_Od.ext E8
  have r96_Fended := r78_Fended.ext E8
  have r97_Fcell := r79_Fcell.ext E8
  have r98_Fholder := r80_Fholder.ext E8
  have r99_Funtil := r81_Funtil.ext E8
  have r100_Fsince := r82_Fsince.ext E8
  have r101_AL := r88_AL.ext E8
  have r102_Ah := r89_Ah.ext E8
  have r103_Au := r90_Au.ext E8
  have Av8 := Arv.new A8 (by decide)
  obtain ⟨T18, h18, X18, e18, W18, st18⟩ := putF X8 hx hZ hown (host := "") (Or.inl (hw 128 rfl)) Via.refl e8 r100_Fsince r91_E (Or.inr ⟨(hw 129 rfl), rfl, hnm⟩) (hw 94 rfl) (ty := (.array .double)) (by decide) rfl rfl (g := (mkF m 62 #[.val (.ref ho), .val (.ref ce)] [(.ref a8), (.ref ho)])) rfl rfl (hb hby d12_62)
  refine own_go st18 ?_
  show own_R _ _ _ _ T18 (mkF m 65 #[.val (.ref ho), .val (.ref ce)] [])
  have N18 := Fr.snoc X18 N8b g9
  have KW18 := Keep.of_wr W18
  have r104_Fended := r96_Fended.other W18 (Or.inr (slot_ne (Or.inr (hw 103 rfl)) (Or.inr (hw 129 rfl)) (by decide) (t := (.object "java/util/List")) (t' := (.array .double)) (by decide) (by decide)))
  have r105_Fcell := r97_Fcell.other W18 (Or.inr (slot_ne (Or.inr (hw 105 rfl)) (Or.inr (hw 129 rfl)) (by decide) (t := (.object "com/example/zellwerk/zellwerk/model/Cell")) (t' := (.array .double)) (by decide) (by decide)))
  have r106_Fholder := r98_Fholder.other W18 (Or.inr (slot_ne (Or.inr (hw 124 rfl)) (Or.inr (hw 129 rfl)) (by decide) (t := (.array .int)) (t' := (.array .double)) (by decide) (by decide)))
  have r107_Funtil := r99_Funtil.other W18 (Or.inr (slot_ne (Or.inr (hw 127 rfl)) (Or.inr (hw 129 rfl)) (by decide) (t := (.array .double)) (t' := (.array .double)) (by decide) (by decide)))
  have r109_E := r91_E.keep KW18
  have r110_Ece := r92_Ece.keep KW18
  have r111_Fa := r93_Fa.keep KW18 (ninS nce nin0)
  have r112_I := r94_I.keep KW18 (ninS nx nin0) (ninS nxa nin0)
  have r113_Od := r95_Od.keep KW18 (fun z hz => by cases List.mem_singleton.mp hz; exact g9)
  have r114_AL := r101_AL.keep KW18 (ninS (Ne.symm nho2) nin0)
  have r115_Ah := r102_Ah.keep KW18 (ninS (Ne.symm nh6) nin0)
  have r116_Au := r103_Au.keep KW18 (ninS (Ne.symm nh7) nin0)
  refine own_go (fun _ => XS.aloadN X18.here hx rfl (hb hby d12_65) rfl rfl) ?_
  show own_R _ _ _ _ T18 (mkF m 66 #[.val (.ref ho), .val (.ref ce)] [(.ref ho)])
  obtain ⟨T20, X20, e20, st20⟩ := getF X18 hx hZ hown (host := "") (Or.inl (hw 123 rfl)) Via.refl e18 r106_Fholder (g := (mkF m 66 #[.val (.ref ho), .val (.ref ce)] [(.ref ho)])) rfl rfl (hb hby d12_66)
  refine own_go st20 ?_
  show own_R _ _ _ _ T20 (mkF m 69 #[.val (.ref ho), .val (.ref ce)] [(.ref a6)])
  refine own_go (fun _ => XS.iconst X20.here hx rfl (hb hby d12_69)) ?_
  show own_R _ _ _ _ T20 (mkF m 70 #[.val (.ref ho), .val (.ref ce)] [(.int (-1 : Int32)), (.ref a6)])
  obtain ⟨v21, T21, L21, X21, Q21, st21⟩ := own_callS X20 hx hZ hown (y := own_y27) (hw 130 rfl) (hw 131 rfl) (hw 132 rfl) (hw 133 rfl) (by decide) (rmFi0 l Z a0 hw [] h18 n0 a6 k6 gha r115_Ah (-1)) (W := 0) (g := (mkF m 70 #[.val (.ref ho), .val (.ref ce)] [(.int (-1 : Int32)), (.ref a6)])) rfl (by rw [hml]; rfl) (argsL := [(.ref a6), (.int (-1 : Int32))]) (rest := []) (lenOf pd___II_V rfl) rfl rfl (Nat.le_of_eq rfl) (hb hby d12_70) e20 (by decide) (by decide) (by decide) (by decide)
  obtain ⟨rfl, N21q, K21⟩ := Q21
  have N21 := Fr.app N18 N21q
  refine own_go st21 ?_
  show own_R _ _ _ _ T21 (mkF m 73 #[.val (.ref ho), .val (.ref ce)] [])
  have r117_E := r109_E.keep K21
  have r118_Ece := r110_Ece.keep K21
  have r119_Fa := r111_Fa.keep K21 (ninS nce6 nin0)
  have r120_I := r112_I.keep K21 (ninS nx6 nin0) (ninS nxa6 nin0)
  have r121_Od := r113_Od.keep K21 (fun z hz => by cases List.mem_singleton.mp hz; exact gha)
  have r122_Fended := r104_Fended.keep K21 (ninS nho6 nin0)
  have r125_Funtil := r107_Funtil.keep K21 (ninS nho6 nin0)
  have r127_AL := r114_AL.keep K21 (ninS nen6 nin0)
  have r128_Au := r116_Au.keep K21 (ninS (Ne.symm n67) nin0)
  refine own_go (fun _ => XS.aloadN X21.here hx rfl (hb hby d12_73) rfl rfl) ?_
  show own_R _ _ _ _ T21 (mkF m 74 #[.val (.ref ho), .val (.ref ce)] [(.ref ce)])
  obtain ⟨v22, T22, L22, X22, Q22, st22⟩ := own_callV X21 hx hZ hown (y := own_y3) (hw 106 rfl) (hw 107 rfl) (hw 109 rfl) (hw 108 rfl) (hw 110 rfl) (hw 28 rfl) (by decide) (rmCA l Z a0 hw [] T21.heap n0 ce el r119_Fa) r118_Ece (W := 0) (g := (mkF m 74 #[.val (.ref ho), .val (.ref ce)] [(.ref ce)])) rfl (by rw [hml]; rfl) (b := ce) (argsL := []) (rest := []) (lenOf pd___Ljava_util_List_ rfl) rfl rfl (Nat.le_of_eq rfl) (hb hby d12_74) rfl (by decide) (by decide) (by decide) (by decide)
  obtain ⟨rfl, N22q, e22⟩ := Q22
  have N22 := Fr.app N21 N22q
  refine own_go st22 ?_
  show own_R _ _ _ _ T22 (mkF m 77 #[.val (.ref ho), .val (.ref ce)] [(.ref el)])
  refine own_go (fun _ => XS.aloadN X22.here hx rfl (hb hby d12_77) rfl rfl) ?_
  show own_R _ _ _ _ T22 (mkF m 78 #[.val (.ref ho), .val (.ref ce)] [(.ref ho), (.ref el)])
  obtain ⟨T23, h23, X23, e23, E23, F23, st23⟩ := own_site X22 hx hZ M Si hnam e22 (b := ho) (g := (mkF m 78 #[.val (.ref ho), .val (.ref ce)] [(.ref ho), (.ref el)])) rfl (by rw [hml]; rfl) rfl rfl (hb hby d12_78) (by show 2 * 0 + 2 + 3072 ≤ 3100; decide) (by decide) (by decide)
  obtain ⟨f, gf⟩ : ∃ z, z = T21.heap.size := ⟨_, rfl⟩
  rw [← gf] at F23 st23
  have nfe : f ≠ a2 := Ne.symm (own_nd r127_AL.1.lt (Nat.le_of_eq gf.symm))
  have nfu : a7 ≠ a2 := Ne.symm (Nat.ne_of_lt (Nat.lt_of_lt_of_le AL3.1.lt (Nat.le_trans (KW5.1 |> fun z => Nat.le_trans KW4.1 z) (Nat.le_trans (Nat.le_trans E6.1 KW16.1) (Nat.le_of_eq g7.symm)))))
  have r129_E := r117_E.ext E23
  have r132_I := r120_I.ext E23
  have r133_Od := r121_Od.ext E23
  have r134_Fended := r122_Fended.ext E23
  have r137_Funtil := r125_Funtil.ext E23
  have r139_AL := r127_AL.ext E23
  have r140_Au := r128_Au.ext E23
  refine own_go st23 ?_
  show own_R _ _ _ _ T23 (mkF m 83 #[.val (.ref ho), .val (.ref ce)] [(.ref f), (.ref el)])
  obtain ⟨v24, T24, L24, X24, Q24, st24⟩ := own_backFD X23 hx hZ hown (xi := own_y50) (J := "java/lang/Iterable") (hw 138 rfl) (hw 139 rfl) (hw 143 rfl) (own_ride hZ (hw 140 rfl)) (by decide) (hw 141 rfl) (hw 142 rfl) (hw 143 rfl) (hw 78 rfl) (by decide) (own_backB (W := 0) (rmFe0 l Z a0 hw h23 n0 de kd el ea ka em mr G r133_Od r132_I cK M f ho a2 F23 r129_E r134_Fended g2n r139_AL nx2 nfe nho2 nxa2 ) hx hZ (by decide) (own_find (hw 145 rfl)) (by decide) (by decide)) (b := el) r132_I.1 (g := (mkF m 83 #[.val (.ref ho), .val (.ref ce)] [(.ref f), (.ref el)])) rfl (by rw [hml]; rfl) (argsL := [(.ref f)]) (rest := []) (lenOf pd__Ljava_util_function_Consumer__V rfl) rfl rfl (Nat.le_of_eq rfl) (hb hby d12_83) e23 (by decide) (by decide)
  obtain ⟨rfl, N24q, K24⟩ := Q24
  have N24 := Fr.app N22 N24q
  refine own_go st24 ?_
  show own_R _ _ _ _ T24 (mkF m 88 #[.val (.ref ho), .val (.ref ce)] [])
  exact own_end X24 none (fun _ => rfl) hlk (fun fs hr => X24.returnOut hx hret (hb hby d12_88) hr) ⟨a7, k7, rfl, N24, r129_E.keep K24, r137_Funtil.keep K24 (own_ni nho2), r140_Au.keep K24 (own_ni nfu)⟩ (by decide) (by decide)
set_option maxRecDepth 65536 in
set_option maxHeartbeats 40000000 in
theorem rmHi1 (l : Launch) (Z : State) (a0 : Array Value) (hw : own_T a0 Z) (ws : List Jvm.Cond) (h0 : Heap) (n0 : Nat) (de : Addr) (kd : ClassId) (el ea : Addr) (ka : ClassId) (em mr : Addr) (G : own_G Z de kd el ea ka em mr) (Od : Old Z n0 h0) (x y0 : Addr) (I : own_I12 Z h0 x y0 em) (cK : ClassId) (M : own_Mk Z cK) (Si : own_Si Z cK) (ho ce : Addr) (g9 : n0 ≤ ho) (E : Exa Z h0 ho "com/example/zellwerk/zellwerk/service/Holdings") (Fended : Fld Z h0 ho "com/example/zellwerk/zellwerk/service/Holdings" "ended" "Ljava/util/List;" .null) (Fcell : Fld Z h0 ho "com/example/zellwerk/zellwerk/service/Holdings" "cell" "Lcom/example/zellwerk/zellwerk/model/Cell;" .null) (Fholder : Fld Z h0 ho "com/example/zellwerk/zellwerk/service/Holdings" "holder" "[I" .null) (Funtil : Fld Z h0 ho "com/example/zellwerk/zellwerk/service/Holdings" "until" "[D" .null) (Fsince : Fld Z h0 ho "com/example/zellwerk/zellwerk/service/Holdings" "since" "[D" .null) (Ece : Exa Z h0 ce "com/example/zellwerk/zellwerk/model/Cell") (Fa : Fld Z h0 ce "com/example/zellwerk/zellwerk/model/Cell" "areas" "Ljava/util/List;" (.ref x)) (nce : ce ≠ ho) (nx : x ≠ ho) (Ey0 : Exa Z h0 y0 "com/example/zellwerk/zellwerk/model/Area")  :
    own_C l Z own_y4 prog_48_method_1_code 2 none ws ({ frames := 8, cells := 8, slots := 24, locals := 3100 } : Room) #[(.ref ho), (.ref ce)] h0 (own_Qh Z ho (Int32.ofNat 1) h0 n0) := by
  refine own_bodyM (ls := #[.val (.ref ho), .val (.ref ce)]) pn_12 (fun m => by first | (simp [entryFrame, mkF, argsToLocals, Value.category]; done) | rfl) ?_
  intro p e s m below meth c T0 hnam hZ hx hby hml hown hnm hret hlk X0 e0
  replace hml : c.maxLocals = 2 := hml
  have N0 := Fr.nil n0
  refine own_go (fun _ => XS.aloadN X0.here hx rfl (hb hby d12_0) rfl rfl) ?_
  show own_R _ _ _ _ T0 (mkF m 1 #[.val (.ref ho), .val (.ref ce)] [(.ref ho)])
  obtain ⟨T1, X1, e1, st1⟩ := initO X0 hx hZ hown (hw 99 rfl) (hw 19 rfl) (hw 20 rfl) e0 (g := (mkF m 1 #[.val (.ref ho), .val (.ref ce)] [(.ref ho)])) rfl (by rw [hml]; rfl) rfl (hb hby d12_1) (by decide) (W := 0) (Nat.le_of_eq rfl) (by decide)
  refine own_go st1 ?_
  show own_R _ _ _ _ T1 (mkF m 4 #[.val (.ref ho), .val (.ref ce)] [])
  refine own_go (fun _ => XS.aloadN X1.here hx rfl (hb hby d12_4) rfl rfl) ?_
  show own_R _ _ _ _ T1 (mkF m 5 #[.val (.ref ho), .val (.ref ce)] [(.ref ho)])
  obtain ⟨T2, h2, X2, e2, E2, A2, D2, -, st2⟩ := newO X1 hx hZ hown (hw 100 rfl) (hw 1 rfl) (hw 2 rfl) e1 (g := (mkF m 5 #[.val (.ref ho), .val (.ref ce)] [(.ref ho)])) rfl (hb hby d12_5) (by decide) (by decide)
  obtain ⟨a2, g2⟩ : ∃ z, z = h0.size := ⟨_, rfl⟩
  rw [← g2] at A2 D2 st2
  refine own_go st2 ?_
  show own_R _ _ _ _ T2 (mkF m 8 #[.val (.ref ho), .val (.ref ce)] [(.ref a2), (.ref ho)])
  refine own_go (fun _ => XS.dup X2.here hx rfl (hb hby d12_8) rfl rfl) ?_
  show own_R _ _ _ _ T2 (mkF m 9 #[.val (.ref ho), .val (.ref ce)] [(.ref a2), (.ref a2), (.ref ho)])
  have g2n : n0 ≤ a2 := Nat.le_trans (Od.1 ▸ Od.2.1) (Nat.le_of_eq g2.symm)
  have nho2 := own_nd (b := a2) E.lt (Nat.le_of_eq g2.symm)
  have nce2 := own_nd (b := a2) Ece.lt (Nat.le_of_eq g2.symm)
  have nx2 := own_nd (b := a2) I.1.lt (Nat.le_of_eq g2.symm)
  have r1_E := E.ext E2
  have r2_Ece := Ece.ext E2
  have r3_Fa := Fa.ext E2
  have r4_I := I.ext E2
  have r5_Od := Od.ext E2
  have r6_Fended := Fended.ext E2
  have r7_Fcell := Fcell.ext E2
  have r8_Fholder := Fholder.ext E2
  have r9_Funtil := Funtil.ext E2
  have r10_Fsince := Fsince.ext E2
  have r11_Ey0 := Ey0.ext E2
  obtain ⟨v3, T3, L3, X3, Q3, st3⟩ := own_callI X2 hx hZ hown (y := own_y18) rfl (hw 101 rfl) (hw 4 rfl) (hw 5 rfl) (hw 2 rfl) (by decide) (rmAL l Z a0 hw [] h2 n0 a2 g2n A2 (D2 (Or.inl (hw 25 rfl)) (ty := (.array (.object "java/lang/Object"))) (by decide)) (D2 (Or.inl (hw 69 rfl)) (ty := .int) (by decide)) (D2 (Or.inl (hw 22 rfl)) (ty := .int) (by decide)) de G.1 r5_Od) (W := 2) (g := (mkF m 9 #[.val (.ref ho), .val (.ref ce)] [(.ref a2), (.ref a2), (.ref ho)])) rfl (by rw [hml]; rfl) (a := a2) (argsL := []) (rest := [(.ref a2), (.ref ho)]) (lenOf pd___V rfl) rfl rfl (Nat.le_of_eq rfl) (hb hby d12_9) e2 (by decide) (by decide) (by decide) (by decide)
  obtain ⟨rfl, N3q, K3, AL3⟩ := Q3
  have N3 := Fr.app N0 N3q
  refine own_go st3 ?_
  show own_R _ _ _ _ T3 (mkF m 12 #[.val (.ref ho), .val (.ref ce)] [(.ref a2), (.ref ho)])
  have r12_E := r1_E.keep K3
  have r13_Ece := r2_Ece.keep K3
  have r14_Fa := r3_Fa.keep K3 (ninS nce2 nin0)
  have r15_I := r4_I.keep K3 (ninS nx2 nin0)
  have r16_Od := r5_Od.keep K3 (fun z hz => by cases List.mem_singleton.mp hz; exact g2n)
  have r17_Fended := r6_Fended.keep K3 (ninS nho2 nin0)
  have r18_Fcell := r7_Fcell.keep K3 (ninS nho2 nin0)
  have r19_Fholder := r8_Fholder.keep K3 (ninS nho2 nin0)
  have r20_Funtil := r9_Funtil.keep K3 (ninS nho2 nin0)
  have r21_Fsince := r10_Fsince.keep K3 (ninS nho2 nin0)
  have r22_Ey0 := r11_Ey0.keep K3
  obtain ⟨T4, h4, X4, e4, W4, st4⟩ := putF X3 hx hZ hown (host := "") (Or.inl (hw 102 rfl)) Via.refl rfl r17_Fended r12_E (Or.inr ⟨(hw 103 rfl), rfl, hnm⟩) (hw 94 rfl) (ty := (.object "java/util/List")) (by decide) rfl rfl (g := (mkF m 12 #[.val (.ref ho), .val (.ref ce)] [(.ref a2), (.ref ho)])) rfl rfl (hb hby d12_12)
  refine own_go st4 ?_
  show own_R _ _ _ _ T4 (mkF m 15 #[.val (.ref ho), .val (.ref ce)] [])
  have N4 := Fr.snoc X4 N3 g9
  have KW4 := Keep.of_wr W4
  have r23_Fended := r17_Fended.same W4
  have r24_Fcell := r18_Fcell.other W4 (Or.inr (slot_ne (Or.inr (hw 105 rfl)) (Or.inr (hw 103 rfl)) (by decide) (t := (.object "com/example/zellwerk/zellwerk/model/Cell")) (t' := (.object "java/util/List")) (by decide) (by decide)))
  have r25_Fholder := r19_Fholder.other W4 (Or.inr (slot_ne (Or.inr (hw 124 rfl)) (Or.inr (hw 103 rfl)) (by decide) (t := (.array .int)) (t' := (.object "java/util/List")) (by decide) (by decide)))
  have r26_Funtil := r20_Funtil.other W4 (Or.inr (slot_ne (Or.inr (hw 127 rfl)) (Or.inr (hw 103 rfl)) (by decide) (t := (.array .double)) (t' := (.object "java/util/List")) (by decide) (by decide)))
  have r27_Fsince := r21_Fsince.other W4 (Or.inr (slot_ne (Or.inr (hw 129 rfl)) (Or.inr (hw 103 rfl)) (by decide) (t := (.array .double)) (t' := (.object "java/util/List")) (by decide) (by decide)))
  have r28_E := r12_E.keep KW4
  have r29_Ece := r13_Ece.keep KW4
  have r30_Fa := r14_Fa.keep KW4 (ninS nce nin0)
  have r31_I := r15_I.keep KW4 (ninS nx nin0)
  have r32_Od := r16_Od.keep KW4 (fun z hz => by cases List.mem_singleton.mp hz; exact g9)
  have r33_Ey0 := r22_Ey0.keep KW4
  have r34_AL := AL3.keep KW4 (ninS (Ne.symm nho2) nin0)
  refine own_go (fun _ => XS.aloadN X4.here hx rfl (hb hby d12_15) rfl rfl) ?_
  refine own_go (fun _ => XS.aloadN X4.here hx rfl (hb hby d12_16) rfl rfl) ?_
  show own_R _ _ _ _ T4 (mkF m 17 #[.val (.ref ho), .val (.ref ce)] [(.ref ce), (.ref ho)])
  obtain ⟨T5, h5, X5, e5, W5, st5⟩ := putF X4 hx hZ hown (host := "") (Or.inl (hw 104 rfl)) Via.refl e4 r24_Fcell r28_E (Or.inr ⟨(hw 105 rfl), rfl, hnm⟩) (hw 94 rfl) (ty := (.object "com/example/zellwerk/zellwerk/model/Cell")) (by decide) rfl rfl (g := (mkF m 17 #[.val (.ref ho), .val (.ref ce)] [(.ref ce), (.ref ho)])) rfl rfl (hb hby d12_17)
  refine own_go st5 ?_
  show own_R _ _ _ _ T5 (mkF m 20 #[.val (.ref ho), .val (.ref ce)] [])
  have N5 := Fr.snoc X5 N4 g9
  have KW5 := Keep.of_wr W5
  have r35_Fended := r23_Fended.other W5 (Or.inr (slot_ne (Or.inr (hw 103 rfl)) (Or.inr (hw 105 rfl)) (by decide) (t := (.object "java/util/List")) (t' := (.object "com/example/zellwerk/zellwerk/model/Cell")) (by decide) (by decide)))
  have r36_Fcell := r24_Fcell.same W5
  have r37_Fholder := r25_Fholder.other W5 (Or.inr (slot_ne (Or.inr (hw 124 rfl)) (Or.inr (hw 105 rfl)) (by decide) (t := (.array .int)) (t' := (.object "com/example/zellwerk/zellwerk/model/Cell")) (by decide) (by decide)))
  have r38_Funtil := r26_Funtil.other W5 (Or.inr (slot_ne (Or.inr (hw 127 rfl)) (Or.inr (hw 105 rfl)) (by decide) (t := (.array .double)) (t' := (.object "com/example/zellwerk/zellwerk/model/Cell")) (by decide) (by decide)))
  have r39_Fsince := r27_Fsince.other W5 (Or.inr (slot_ne (Or.inr (hw 129 rfl)) (Or.inr (hw 105 rfl)) (by decide) (t := (.array .double)) (t' := (.object "com/example/zellwerk/zellwerk/model/Cell")) (by decide) (by decide)))
  have r40_E := r28_E.keep KW5
  have r41_Ece := r29_Ece.keep KW5
  have r42_Fa := r30_Fa.keep KW5 (ninS nce nin0)
  have r43_I := r31_I.keep KW5 (ninS nx nin0)
  have r44_Od := r32_Od.keep KW5 (fun z hz => by cases List.mem_singleton.mp hz; exact g9)
  have r45_Ey0 := r33_Ey0.keep KW5
  have r46_AL := r34_AL.keep KW5 (ninS (Ne.symm nho2) nin0)
  refine own_go (fun _ => XS.aloadN X5.here hx rfl (hb hby d12_20) rfl rfl) ?_
  refine own_go (fun _ => XS.aloadN X5.here hx rfl (hb hby d12_21) rfl rfl) ?_
  show own_R _ _ _ _ T5 (mkF m 22 #[.val (.ref ho), .val (.ref ce)] [(.ref ce), (.ref ho)])
  obtain ⟨v6a, T6a, L6a, X6a, Q6a, st6a⟩ := own_callV X5 hx hZ hown (y := own_y3) (hw 106 rfl) (hw 107 rfl) (hw 109 rfl) (hw 108 rfl) (hw 110 rfl) (hw 28 rfl) (by decide) (rmCA l Z a0 hw [] h5 n0 ce x r42_Fa) r41_Ece (W := 1) (g := (mkF m 22 #[.val (.ref ho), .val (.ref ce)] [(.ref ce), (.ref ho)])) rfl (by rw [hml]; rfl) (b := ce) (argsL := []) (rest := [(.ref ho)]) (lenOf pd___Ljava_util_List_ rfl) rfl rfl (Nat.le_of_eq rfl) (hb hby d12_22) e5 (by decide) (by decide) (by decide) (by decide)
  obtain ⟨rfl, N6aq, e6a⟩ := Q6a
  have N6a := Fr.app N5 N6aq
  refine own_go st6a ?_
  show own_R _ _ _ _ T6a (mkF m 25 #[.val (.ref ho), .val (.ref ce)] [(.ref x), (.ref ho)])
  obtain ⟨v6b, T6b, L6b, X6b, Q6b, st6b⟩ := own_backF X6a hx hZ hown (xi := own_y54) (hw 111 rfl) (hw 112 rfl) (mvT hZ (hw 113 rfl)) (hw 365 rfl) (hw 366 rfl) (hw 367 rfl) (hw 368 rfl) (hw 369 rfl) (by decide) (backOf (W := 1) (rmS1 l Z a0 hw [] h5 n0 de kd el ea ka em mr G r44_Od x y0 em r43_I rfl) hZ (hw 370 rfl) (hw 351 rfl) (by decide) (by decide)) (b := x) r43_I.1 (g := (mkF m 25 #[.val (.ref ho), .val (.ref ce)] [(.ref x), (.ref ho)])) rfl (by rw [hml]; rfl) (argsL := []) (rest := [(.ref ho)]) (lenOf pd___I rfl) rfl rfl (Nat.le_of_eq rfl) (hb hby d12_25) e6a (by decide) (by decide)
  obtain ⟨rfl, N6bq, e6b⟩ := Q6b
  have N6b := Fr.app N6a N6bq
  refine own_go st6b ?_
  show own_R _ _ _ _ T6b (mkF m 30 #[.val (.ref ho), .val (.ref ce)] [(.int (Int32.ofNat 1)), (.ref ho)])
  obtain ⟨T6, h6, k6, X6, e6, E6, A6, st6⟩ := newP X6b hx hZ (hw 122 rfl) e6b (g := (mkF m 30 #[.val (.ref ho), .val (.ref ce)] [(.int (Int32.ofNat 1)), (.ref ho)])) rfl (hb hby d12_30) rfl (by decide) (cap := 1) (by decide) (by decide) (by decide) (by decide)
  obtain ⟨a6, g6⟩ : ∃ z, z = h5.size := ⟨_, rfl⟩
  rw [← g6] at A6 st6
  refine own_go st6 ?_
  show own_R _ _ _ _ T6 (mkF m 32 #[.val (.ref ho), .val (.ref ce)] [(.ref a6), (.ref ho)])
  have nh6 := own_nd (b := a6) r40_E.lt (Nat.le_of_eq g6.symm)
  have gha : n0 ≤ a6 := Nat.le_trans (r44_Od.1 ▸ r44_Od.2.1) (Nat.le_of_eq g6.symm)
  have nho6 := own_nd (b := a6) r40_E.lt (Nat.le_of_eq g6.symm)
  have nce6 := own_nd (b := a6) r41_Ece.lt (Nat.le_of_eq g6.symm)
  have nx6 := own_nd (b := a6) r43_I.1.lt (Nat.le_of_eq g6.symm)
  have nen6 := own_nd (b := a6) r46_AL.1.lt (Nat.le_of_eq g6.symm)
  have r47_E := r40_E.ext E6
  have r48_Ece := r41_Ece.ext E6
  have r49_Fa := r42_Fa.ext E6
  have r50_I := r43_I.ext E6
  have r51_Od := r44_Od.ext E6
  have r52_Fended := r35_Fended.ext E6
  have r53_Fcell := r36_Fcell.ext E6
  have r54_Fholder := r37_Fholder.ext E6
  have r55_Funtil := r38_Funtil.ext E6
  have r56_Fsince := r39_Fsince.ext E6
  have r57_Ey0 := r45_Ey0.ext E6
  have r58_AL := r46_AL.ext E6
  have Av6 := Arv.new A6 (by decide)
  obtain ⟨T16, h16, X16, e16, W16, st16⟩ := putF X6 hx hZ hown (host := "") (Or.inl (hw 123 rfl)) Via.refl e6 r54_Fholder r47_E (Or.inr ⟨(hw 124 rfl), rfl, hnm⟩) (hw 94 rfl) (ty := (.array .int)) (by decide) rfl rfl (g := (mkF m 32 #[.val (.ref ho), .val (.ref ce)] [(.ref a6), (.ref ho)])) rfl rfl (hb hby d12_32)
  refine own_go st16 ?_
  show own_R _ _ _ _ T16 (mkF m 35 #[.val (.ref ho), .val (.ref ce)] [])
  have N16 := Fr.snoc X16 N6b g9
  have KW16 := Keep.of_wr W16
  have r59_Fended := r52_Fended.other W16 (Or.inr (slot_ne (Or.inr (hw 103 rfl)) (Or.inr (hw 124 rfl)) (by decide) (t := (.object "java/util/List")) (t' := (.array .int)) (by decide) (by decide)))
  have r60_Fcell := r53_Fcell.other W16 (Or.inr (slot_ne (Or.inr (hw 105 rfl)) (Or.inr (hw 124 rfl)) (by decide) (t := (.object "com/example/zellwerk/zellwerk/model/Cell")) (t' := (.array .int)) (by decide) (by decide)))
  have r61_Fholder := r54_Fholder.same W16
  have r62_Funtil := r55_Funtil.other W16 (Or.inr (slot_ne (Or.inr (hw 127 rfl)) (Or.inr (hw 124 rfl)) (by decide) (t := (.array .double)) (t' := (.array .int)) (by decide) (by decide)))
  have r63_Fsince := r56_Fsince.other W16 (Or.inr (slot_ne (Or.inr (hw 129 rfl)) (Or.inr (hw 124 rfl)) (by decide) (t := (.array .double)) (t' := (.array .int)) (by decide) (by decide)))
  have r64_E := r47_E.keep KW16
  have r65_Ece := r48_Ece.keep KW16
  have r66_Fa := r49_Fa.keep KW16 (ninS nce nin0)
  have r67_I := r50_I.keep KW16 (ninS nx nin0)
  have r68_Od := r51_Od.keep KW16 (fun z hz => by cases List.mem_singleton.mp hz; exact g9)
  have r69_Ey0 := r57_Ey0.keep KW16
  have r70_AL := r58_AL.keep KW16 (ninS (Ne.symm nho2) nin0)
  have r71_Ah := Av6.keep KW16 (ninS (Ne.symm nh6) nin0)
  refine own_go (fun _ => XS.aloadN X16.here hx rfl (hb hby d12_35) rfl rfl) ?_
  show own_R _ _ _ _ T16 (mkF m 36 #[.val (.ref ho), .val (.ref ce)] [(.ref ho)])
  refine own_go (fun _ => XS.aloadN X16.here hx rfl (hb hby d12_36) rfl rfl) ?_
  show own_R _ _ _ _ T16 (mkF m 37 #[.val (.ref ho), .val (.ref ce)] [(.ref ce), (.ref ho)])
  obtain ⟨v7a, T7a, L7a, X7a, Q7a, st7a⟩ := own_callV X16 hx hZ hown (y := own_y3) (hw 106 rfl) (hw 107 rfl) (hw 109 rfl) (hw 108 rfl) (hw 110 rfl) (hw 28 rfl) (by decide) (rmCA l Z a0 hw [] h16 n0 ce x r66_Fa) r65_Ece (W := 1) (g := (mkF m 37 #[.val (.ref ho), .val (.ref ce)] [(.ref ce), (.ref ho)])) rfl (by rw [hml]; rfl) (b := ce) (argsL := []) (rest := [(.ref ho)]) (lenOf pd___Ljava_util_List_ rfl) rfl rfl (Nat.le_of_eq rfl) (hb hby d12_37) e16 (by decide) (by decide) (by decide) (by decide)
  obtain ⟨rfl, N7aq, e7a⟩ := Q7a
  have N7a := Fr.app N16 N7aq
  refine own_go st7a ?_
  show own_R _ _ _ _ T7a (mkF m 40 #[.val (.ref ho), .val (.ref ce)] [(.ref x), (.ref ho)])
  obtain ⟨v7b, T7b, L7b, X7b, Q7b, st7b⟩ := own_backF X7a hx hZ hown (xi := own_y54) (hw 111 rfl) (hw 112 rfl) (mvT hZ (hw 113 rfl)) (hw 365 rfl) (hw 366 rfl) (hw 367 rfl) (hw 368 rfl) (hw 369 rfl) (by decide) (backOf (W := 1) (rmS1 l Z a0 hw [] h16 n0 de kd el ea ka em mr G r68_Od x y0 em r67_I rfl) hZ (hw 370 rfl) (hw 351 rfl) (by decide) (by decide)) (b := x) r67_I.1 (g := (mkF m 40 #[.val (.ref ho), .val (.ref ce)] [(.ref x), (.ref ho)])) rfl (by rw [hml]; rfl) (argsL := []) (rest := [(.ref ho)]) (lenOf pd___I rfl) rfl rfl (Nat.le_of_eq rfl) (hb hby d12_40) e7a (by decide) (by decide)
  obtain ⟨rfl, N7bq, e7b⟩ := Q7b
  have N7b := Fr.app N7a N7bq
  refine own_go st7b ?_
  show own_R _ _ _ _ T7b (mkF m 45 #[.val (.ref ho), .val (.ref ce)] [(.int (Int32.ofNat 1)), (.ref ho)])
  obtain ⟨T7, h7, k7, X7, e7, E7, A7, st7⟩ := newP X7b hx hZ (hw 125 rfl) e7b (g := (mkF m 45 #[.val (.ref ho), .val (.ref ce)] [(.int (Int32.ofNat 1)), (.ref ho)])) rfl (hb hby d12_45) rfl (by decide) (cap := 1) (by decide) (by decide) (by decide) (by decide)
  obtain ⟨a7, g7⟩ : ∃ z, z = h16.size := ⟨_, rfl⟩
  rw [← g7] at A7 st7
  refine own_go st7 ?_
  show own_R _ _ _ _ T7 (mkF m 47 #[.val (.ref ho), .val (.ref ce)] [(.ref a7), (.ref ho)])
  have nh7 := own_nd (b := a7) r64_E.lt (Nat.le_of_eq g7.symm)
  have n67 := own_nd (b := a7) r71_Ah.lt (Nat.le_of_eq g7.symm)
  have r72_E := r64_E.ext E7
  have r73_Ece := r65_Ece.ext E7
  have r74_Fa := r66_Fa.ext E7
  have r75_I := r67_I.ext E7
  have r76_Od := r68_Od.ext E7
  have r77_Fended := r59_Fended.ext E7
  have r78_Fcell := r60_Fcell.ext E7
  have r79_Fholder := r61_Fholder.ext E7
  have r80_Funtil := r62_Funtil.ext E7
  have r81_Fsince := r63_Fsince.ext E7
  have r82_Ey0 := r69_Ey0.ext E7
  have r83_AL := r70_AL.ext E7
  have r84_Ah := r71_Ah.ext E7
  have Av7 := Arv.new A7 (by decide)
  obtain ⟨T17, h17, X17, e17, W17, st17⟩ := putF X7 hx hZ hown (host := "") (Or.inl (hw 126 rfl)) Via.refl e7 r80_Funtil r72_E (Or.inr ⟨(hw 127 rfl), rfl, hnm⟩) (hw 94 rfl) (ty := (.array .double)) (by decide) rfl rfl (g := (mkF m 47 #[.val (.ref ho), .val (.ref ce)] [(.ref a7), (.ref ho)])) rfl rfl (hb hby d12_47)
  refine own_go st17 ?_
  show own_R _ _ _ _ T17 (mkF m 50 #[.val (.ref ho), .val (.ref ce)] [])
  have N17 := Fr.snoc X17 N7b g9
  have KW17 := Keep.of_wr W17
  have r85_Fended := r77_Fended.other W17 (Or.inr (slot_ne (Or.inr (hw 103 rfl)) (Or.inr (hw 127 rfl)) (by decide) (t := (.object "java/util/List")) (t' := (.array .double)) (by decide) (by decide)))
  have r86_Fcell := r78_Fcell.other W17 (Or.inr (slot_ne (Or.inr (hw 105 rfl)) (Or.inr (hw 127 rfl)) (by decide) (t := (.object "com/example/zellwerk/zellwerk/model/Cell")) (t' := (.array .double)) (by decide) (by decide)))
  have r87_Fholder := r79_Fholder.other W17 (Or.inr (slot_ne (Or.inr (hw 124 rfl)) (Or.inr (hw 127 rfl)) (by decide) (t := (.array .int)) (t' := (.array .double)) (by decide) (by decide)))
  have r88_Funtil := r80_Funtil.same W17
  have r89_Fsince := r81_Fsince.other W17 (Or.inr (slot_ne (Or.inr (hw 129 rfl)) (Or.inr (hw 127 rfl)) (by decide) (t := (.array .double)) (t' := (.array .double)) (by decide) (by decide)))
  have r90_E := r72_E.keep KW17
  have r91_Ece := r73_Ece.keep KW17
  have r92_Fa := r74_Fa.keep KW17 (ninS nce nin0)
  have r93_I := r75_I.keep KW17 (ninS nx nin0)
  have r94_Od := r76_Od.keep KW17 (fun z hz => by cases List.mem_singleton.mp hz; exact g9)
  have r95_Ey0 := r82_Ey0.keep KW17
  have r96_AL := r83_AL.keep KW17 (ninS (Ne.symm nho2) nin0)
  have r97_Ah := r84_Ah.keep KW17 (ninS (Ne.symm nh6) nin0)
  have r98_Au := Av7.keep KW17 (ninS (Ne.symm nh7) nin0)
  refine own_go (fun _ => XS.aloadN X17.here hx rfl (hb hby d12_50) rfl rfl) ?_
  show own_R _ _ _ _ T17 (mkF m 51 #[.val (.ref ho), .val (.ref ce)] [(.ref ho)])
  refine own_go (fun _ => XS.aloadN X17.here hx rfl (hb hby d12_51) rfl rfl) ?_
  show own_R _ _ _ _ T17 (mkF m 52 #[.val (.ref ho), .val (.ref ce)] [(.ref ce), (.ref ho)])
  obtain ⟨v8a, T8a, L8a, X8a, Q8a, st8a⟩ := own_callV X17 hx hZ hown (y := own_y3) (hw 106 rfl) (hw 107 rfl) (hw 109 rfl) (hw 108 rfl) (hw 110 rfl) (hw 28 rfl) (by decide) (rmCA l Z a0 hw [] h17 n0 ce x r92_Fa) r91_Ece (W := 1) (g := (mkF m 52 #[.val (.ref ho), .val (.ref ce)] [(.ref ce), (.ref ho)])) rfl (by rw [hml]; rfl) (b := ce) (argsL := []) (rest := [(.ref ho)]) (lenOf pd___Ljava_util_List_ rfl) rfl rfl (Nat.le_of_eq rfl) (hb hby d12_52) e17 (by decide) (by decide) (by decide) (by decide)
  obtain ⟨rfl, N8aq, e8a⟩ := Q8a
  have N8a := Fr.app N17 N8aq
  refine own_go st8a ?_
  show own_R _ _ _ _ T8a (mkF m 55 #[.val (.ref ho), .val (.ref ce)] [(.ref x), (.ref ho)])
  obtain ⟨v8b, T8b, L8b, X8b, Q8b, st8b⟩ := own_backF X8a hx hZ hown (xi := own_y54) (hw 111 rfl) (hw 112 rfl) (mvT hZ (hw 113 rfl)) (hw 365 rfl) (hw 366 rfl) (hw 367 rfl) (hw 368 rfl) (hw 369 rfl) (by decide) (backOf (W := 1) (rmS1 l Z a0 hw [] h17 n0 de kd el ea ka em mr G r94_Od x y0 em r93_I rfl) hZ (hw 370 rfl) (hw 351 rfl) (by decide) (by decide)) (b := x) r93_I.1 (g := (mkF m 55 #[.val (.ref ho), .val (.ref ce)] [(.ref x), (.ref ho)])) rfl (by rw [hml]; rfl) (argsL := []) (rest := [(.ref ho)]) (lenOf pd___I rfl) rfl rfl (Nat.le_of_eq rfl) (hb hby d12_55) e8a (by decide) (by decide)
  obtain ⟨rfl, N8bq, e8b⟩ := Q8b
  have N8b := Fr.app N8a N8bq
  refine own_go st8b ?_
  show own_R _ _ _ _ T8b (mkF m 60 #[.val (.ref ho), .val (.ref ce)] [(.int (Int32.ofNat 1)), (.ref ho)])
  obtain ⟨T8, h8, k8, X8, e8, E8, A8, st8⟩ := newP X8b hx hZ (hw 125 rfl) e8b (g := (mkF m 60 #[.val (.ref ho), .val (.ref ce)] [(.int (Int32.ofNat 1)), (.ref ho)])) rfl (hb hby d12_60) rfl (by decide) (cap := 1) (by decide) (by decide) (by decide) (by decide)
  obtain ⟨a8, g8⟩ : ∃ z, z = h17.size := ⟨_, rfl⟩
  rw [← g8] at A8 st8
  refine own_go st8 ?_
  show own_R _ _ _ _ T8 (mkF m 62 #[.val (.ref ho), .val (.ref ce)] [(.ref a8), (.ref ho)])
  have nh8 := own_nd (b := a8) r90_E.lt (Nat.le_of_eq g8.symm)
  have r99_E := r90_E.ext E8
  have r100_Ece := r91_Ece.ext E8
  have r101_Fa := r92_Fa.ext E8
  have r102_I := r93_I.ext E8
  have r103_Od := r94_Od.ext E8
  have r104_Fended := r85_Fended.ext E8
  have r105_Fcell := r86_Fcell.ext E8
  have r106_Fholder := r87_Fholder.ext E8
  have r107_Funtil := r88_Funtil.ext E8
  have r108_Fsince := r89_Fsince.ext E8
  have r109_Ey0 := r95_Ey0.ext E8
  have r110_AL := r96_AL.ext E8
  have r111_Ah := r97_Ah.ext E8
  have r112_Au := r98_Au.ext E8
  have Av8 := Arv.new A8 (by decide)
  obtain ⟨T18, h18, X18, e18, W18, st18⟩ := putF X8 hx hZ hown (host := "") (Or.inl (hw 128 rfl)) Via.refl e8 r108_Fsince r99_E (Or.inr ⟨(hw 129 rfl), rfl, hnm⟩) (hw 94 rfl) (ty := (.array .double)) (by decide) rfl rfl (g := (mkF m 62 #[.val (.ref ho), .val (.ref ce)] [(.ref a8), (.ref ho)])) rfl rfl (hb hby d12_62)
  refine own_go st18 ?_
  show own_R _ _ _ _ T18 (mkF m 65 #[.val (.ref ho), .val (.ref ce)] [])
  have N18 := Fr.snoc X18 N8b g9
  have KW18 := Keep.of_wr W18
  have r113_Fended := r104_Fended.other W18 (Or.inr (slot_ne (Or.inr (hw 103 rfl)) (Or.inr (hw 129 rfl)) (by decide) (t := (.object "java/util/List")) (t' := (.array .double)) (by decide) (by decide)))
  have r114_Fcell := r105_Fcell.other W18 (Or.inr (slot_ne (Or.inr (hw 105 rfl)) (Or.inr (hw 129 rfl)) (by decide) (t := (.object "com/example/zellwerk/zellwerk/model/Cell")) (t' := (.array .double)) (by decide) (by decide)))
  have r115_Fholder := r106_Fholder.other W18 (Or.inr (slot_ne (Or.inr (hw 124 rfl)) (Or.inr (hw 129 rfl)) (by decide) (t := (.array .int)) (t' := (.array .double)) (by decide) (by decide)))
  have r116_Funtil := r107_Funtil.other W18 (Or.inr (slot_ne (Or.inr (hw 127 rfl)) (Or.inr (hw 129 rfl)) (by decide) (t := (.array .double)) (t' := (.array .double)) (by decide) (by decide)))
  have r118_E := r99_E.keep KW18
  have r119_Ece := r100_Ece.keep KW18
  have r120_Fa := r101_Fa.keep KW18 (ninS nce nin0)
  have r121_I := r102_I.keep KW18 (ninS nx nin0)
  have r122_Od := r103_Od.keep KW18 (fun z hz => by cases List.mem_singleton.mp hz; exact g9)
  have r123_Ey0 := r109_Ey0.keep KW18
  have r124_AL := r110_AL.keep KW18 (ninS (Ne.symm nho2) nin0)
  have r125_Ah := r111_Ah.keep KW18 (ninS (Ne.symm nh6) nin0)
  have r126_Au := r112_Au.keep KW18 (ninS (Ne.symm nh7) nin0)
  refine own_go (fun _ => XS.aloadN X18.here hx rfl (hb hby d12_65) rfl rfl) ?_
  show own_R _ _ _ _ T18 (mkF m 66 #[.val (.ref ho), .val (.ref ce)] [(.ref ho)])
  obtain ⟨T20, X20, e20, st20⟩ := getF X18 hx hZ hown (host := "") (Or.inl (hw 123 rfl)) Via.refl e18 r115_Fholder (g := (mkF m 66 #[.val (.ref ho), .val (.ref ce)] [(.ref ho)])) rfl rfl (hb hby d12_66)
  refine own_go st20 ?_
  show own_R _ _ _ _ T20 (mkF m 69 #[.val (.ref ho), .val (.ref ce)] [(.ref a6)])
  refine own_go (fun _ => XS.iconst X20.here hx rfl (hb hby d12_69)) ?_
  show own_R _ _ _ _ T20 (mkF m 70 #[.val (.ref ho), .val (.ref ce)] [(.int (-1 : Int32)), (.ref a6)])
  obtain ⟨v21, T21, L21, X21, Q21, st21⟩ := own_callS X20 hx hZ hown (y := own_y27) (hw 130 rfl) (hw 131 rfl) (hw 132 rfl) (hw 133 rfl) (by decide) (rmFi1 l Z a0 hw [] h18 n0 a6 k6 gha r125_Ah (-1)) (W := 0) (g := (mkF m 70 #[.val (.ref ho), .val (.ref ce)] [(.int (-1 : Int32)), (.ref a6)])) rfl (by rw [hml]; rfl) (argsL := [(.ref a6), (.int (-1 : Int32))]) (rest := []) (lenOf pd___II_V rfl) rfl rfl (Nat.le_of_eq rfl) (hb hby d12_70) e20 (by decide) (by decide) (by decide) (by decide)
  obtain ⟨rfl, N21q, K21⟩ := Q21
  have N21 := Fr.app N18 N21q
  refine own_go st21 ?_
  show own_R _ _ _ _ T21 (mkF m 73 #[.val (.ref ho), .val (.ref ce)] [])
  have r127_E := r118_E.keep K21
  have r128_Ece := r119_Ece.keep K21
  have r129_Fa := r120_Fa.keep K21 (ninS nce6 nin0)
  have r130_I := r121_I.keep K21 (ninS nx6 nin0)
  have r131_Od := r122_Od.keep K21 (fun z hz => by cases List.mem_singleton.mp hz; exact gha)
  have r132_Fended := r113_Fended.keep K21 (ninS nho6 nin0)
  have r135_Funtil := r116_Funtil.keep K21 (ninS nho6 nin0)
  have r137_Ey0 := r123_Ey0.keep K21
  have r138_AL := r124_AL.keep K21 (ninS nen6 nin0)
  have r139_Au := r126_Au.keep K21 (ninS (Ne.symm n67) nin0)
  refine own_go (fun _ => XS.aloadN X21.here hx rfl (hb hby d12_73) rfl rfl) ?_
  show own_R _ _ _ _ T21 (mkF m 74 #[.val (.ref ho), .val (.ref ce)] [(.ref ce)])
  obtain ⟨v22, T22, L22, X22, Q22, st22⟩ := own_callV X21 hx hZ hown (y := own_y3) (hw 106 rfl) (hw 107 rfl) (hw 109 rfl) (hw 108 rfl) (hw 110 rfl) (hw 28 rfl) (by decide) (rmCA l Z a0 hw [] T21.heap n0 ce x r129_Fa) r128_Ece (W := 0) (g := (mkF m 74 #[.val (.ref ho), .val (.ref ce)] [(.ref ce)])) rfl (by rw [hml]; rfl) (b := ce) (argsL := []) (rest := []) (lenOf pd___Ljava_util_List_ rfl) rfl rfl (Nat.le_of_eq rfl) (hb hby d12_74) rfl (by decide) (by decide) (by decide) (by decide)
  obtain ⟨rfl, N22q, e22⟩ := Q22
  have N22 := Fr.app N21 N22q
  refine own_go st22 ?_
  show own_R _ _ _ _ T22 (mkF m 77 #[.val (.ref ho), .val (.ref ce)] [(.ref x)])
  refine own_go (fun _ => XS.aloadN X22.here hx rfl (hb hby d12_77) rfl rfl) ?_
  show own_R _ _ _ _ T22 (mkF m 78 #[.val (.ref ho), .val (.ref ce)] [(.ref ho), (.ref x)])
  obtain ⟨T23, h23, X23, e23, E23, F23, st23⟩ := own_site X22 hx hZ M Si hnam e22 (b := ho) (g := (mkF m 78 #[.val (.ref ho), .val (.ref ce)] [(.ref ho), (.ref x)])) rfl (by rw [hml]; rfl) rfl rfl (hb hby d12_78) (by show 2 * 0 + 2 + 3072 ≤ 3100; decide) (by decide) (by decide)
  obtain ⟨f, gf⟩ : ∃ z, z = T21.heap.size := ⟨_, rfl⟩
  rw [← gf] at F23 st23
  have nfe : f ≠ a2 := Ne.symm (own_nd r138_AL.1.lt (Nat.le_of_eq gf.symm))
  have nfu : a7 ≠ a2 := Ne.symm (Nat.ne_of_lt (Nat.lt_of_lt_of_le AL3.1.lt (Nat.le_trans (KW5.1 |> fun z => Nat.le_trans KW4.1 z) (Nat.le_trans (Nat.le_trans E6.1 KW16.1) (Nat.le_of_eq g7.symm)))))
  have r140_E := r127_E.ext E23
  have r143_I := r130_I.ext E23
  have r144_Od := r131_Od.ext E23
  have r145_Fended := r132_Fended.ext E23
  have r148_Funtil := r135_Funtil.ext E23
  have r150_Ey0 := r137_Ey0.ext E23
  have r151_AL := r138_AL.ext E23
  have r152_Au := r139_Au.ext E23
  refine own_go st23 ?_
  show own_R _ _ _ _ T23 (mkF m 83 #[.val (.ref ho), .val (.ref ce)] [(.ref f), (.ref x)])
  obtain ⟨v24, T24, L24, X24, Q24, st24⟩ := own_backFD X23 hx hZ hown (xi := own_y50) (J := "java/lang/Iterable") (hw 138 rfl) (hw 139 rfl) (hw 143 rfl) (own_ride hZ (hw 140 rfl)) (by decide) (hw 372 rfl) (hw 142 rfl) (hw 143 rfl) (hw 369 rfl) (by decide) (own_backB (W := 0) (rmFe1 l Z a0 hw h23 n0 de kd el ea ka em mr G r144_Od x y0 r143_I cK M f ho a2 F23 r140_E r145_Fended g2n r151_AL nx2 nfe nho2 r150_Ey0) hx hZ (by decide) (own_find (hw 145 rfl)) (by decide) (by decide)) (b := x) r143_I.1 (g := (mkF m 83 #[.val (.ref ho), .val (.ref ce)] [(.ref f), (.ref x)])) rfl (by rw [hml]; rfl) (argsL := [(.ref f)]) (rest := []) (lenOf pd__Ljava_util_function_Consumer__V rfl) rfl rfl (Nat.le_of_eq rfl) (hb hby d12_83) e23 (by decide) (by decide)
  obtain ⟨rfl, N24q, K24⟩ := Q24
  have N24 := Fr.app N22 N24q
  refine own_go st24 ?_
  show own_R _ _ _ _ T24 (mkF m 88 #[.val (.ref ho), .val (.ref ce)] [])
  exact own_end X24 none (fun _ => rfl) hlk (fun fs hr => X24.returnOut hx hret (hb hby d12_88) hr) ⟨a7, k7, rfl, N24, r140_E.keep K24, r148_Funtil.keep K24 (own_ni nho2), r152_Au.keep K24 (own_ni nfu)⟩ (by decide) (by decide)
set_option maxRecDepth 65536 in
set_option maxHeartbeats 40000000 in
theorem rmHi2 (l : Launch) (Z : State) (a0 : Array Value) (hw : own_T a0 Z) (ws : List Jvm.Cond) (h0 : Heap) (n0 : Nat) (de : Addr) (kd : ClassId) (el ea : Addr) (ka : ClassId) (em mr : Addr) (G : own_G Z de kd el ea ka em mr) (Od : Old Z n0 h0) (x y0 y1 : Addr) (I : own_I12 Z h0 x y0 y1) (qe : y1 ≠ em) (cK : ClassId) (M : own_Mk Z cK) (Si : own_Si Z cK) (ho ce : Addr) (g9 : n0 ≤ ho) (E : Exa Z h0 ho "com/example/zellwerk/zellwerk/service/Holdings") (Fended : Fld Z h0 ho "com/example/zellwerk/zellwerk/service/Holdings" "ended" "Ljava/util/List;" .null) (Fcell : Fld Z h0 ho "com/example/zellwerk/zellwerk/service/Holdings" "cell" "Lcom/example/zellwerk/zellwerk/model/Cell;" .null) (Fholder : Fld Z h0 ho "com/example/zellwerk/zellwerk/service/Holdings" "holder" "[I" .null) (Funtil : Fld Z h0 ho "com/example/zellwerk/zellwerk/service/Holdings" "until" "[D" .null) (Fsince : Fld Z h0 ho "com/example/zellwerk/zellwerk/service/Holdings" "since" "[D" .null) (Ece : Exa Z h0 ce "com/example/zellwerk/zellwerk/model/Cell") (Fa : Fld Z h0 ce "com/example/zellwerk/zellwerk/model/Cell" "areas" "Ljava/util/List;" (.ref x)) (nce : ce ≠ ho) (nx : x ≠ ho) (Ey0 : Exa Z h0 y0 "com/example/zellwerk/zellwerk/model/Area") (Ey1 : Exa Z h0 y1 "com/example/zellwerk/zellwerk/model/Area")  :
    own_C l Z own_y4 prog_48_method_1_code 2 none ws ({ frames := 8, cells := 9, slots := 30, locals := 3100 } : Room) #[(.ref ho), (.ref ce)] h0 (own_Qh Z ho (Int32.ofNat 2) h0 n0) := by
  refine own_bodyM (ls := #[.val (.ref ho), .val (.ref ce)]) pn_12 (fun m => by first | (simp [entryFrame, mkF, argsToLocals, Value.category]; done) | rfl) ?_
  intro p e s m below meth c T0 hnam hZ hx hby hml hown hnm hret hlk X0 e0
  replace hml : c.maxLocals = 2 := hml
  have N0 := Fr.nil n0
  refine own_go (fun _ => XS.aloadN X0.here hx rfl (hb hby d12_0) rfl rfl) ?_
  show own_R _ _ _ _ T0 (mkF m 1 #[.val (.ref ho), .val (.ref ce)] [(.ref ho)])
  obtain ⟨T1, X1, e1, st1⟩ := initO X0 hx hZ hown (hw 99 rfl) (hw 19 rfl) (hw 20 rfl) e0 (g := (mkF m 1 #[.val (.ref ho), .val (.ref ce)] [(.ref ho)])) rfl (by rw [hml]; rfl) rfl (hb hby d12_1) (by decide) (W := 0) (Nat.le_of_eq rfl) (by decide)
  refine own_go st1 ?_
  show own_R _ _ _ _ T1 (mkF m 4 #[.val (.ref ho), .val (.ref ce)] [])
  refine own_go (fun _ => XS.aloadN X1.here hx rfl (hb hby d12_4) rfl rfl) ?_
  show own_R _ _ _ _ T1 (mkF m 5 #[.val (.ref ho), .val (.ref ce)] [(.ref ho)])
  obtain ⟨T2, h2, X2, e2, E2, A2, D2, -, st2⟩ := newO X1 hx hZ hown (hw 100 rfl) (hw 1 rfl) (hw 2 rfl) e1 (g := (mkF m 5 #[.val (.ref ho), .val (.ref ce)] [(.ref ho)])) rfl (hb hby d12_5) (by decide) (by decide)
  obtain ⟨a2, g2⟩ : ∃ z, z = h0.size := ⟨_, rfl⟩
  rw [← g2] at A2 D2 st2
  refine own_go st2 ?_
  show own_R _ _ _ _ T2 (mkF m 8 #[.val (.ref ho), .val (.ref ce)] [(.ref a2), (.ref ho)])
  refine own_go (fun _ => XS.dup X2.here hx rfl (hb hby d12_8) rfl rfl) ?_
  show own_R _ _ _ _ T2 (mkF m 9 #[.val (.ref ho), .val (.ref ce)] [(.ref a2), (.ref a2), (.ref ho)])
  have g2n : n0 ≤ a2 := Nat.le_trans (Od.1 ▸ Od.2.1) (Nat.le_of_eq g2.symm)
  have nho2 := own_nd (b := a2) E.lt (Nat.le_of_eq g2.symm)
  have nce2 := own_nd (b := a2) Ece.lt (Nat.le_of_eq g2.symm)
  have nx2 := own_nd (b := a2) I.1.lt (Nat.le_of_eq g2.symm)
  have r1_E := E.ext E2
  have r2_Ece := Ece.ext E2
  have r3_Fa := Fa.ext E2
  have r4_I := I.ext E2
  have r5_Od := Od.ext E2
  have r6_Fended := Fended.ext E2
  have r7_Fcell := Fcell.ext E2
  have r8_Fholder := Fholder.ext E2
  have r9_Funtil := Funtil.ext E2
  have r10_Fsince := Fsince.ext E2
  have r11_Ey0 := Ey0.ext E2
  have r12_Ey1 := Ey1.ext E2
  obtain ⟨v3, T3, L3, X3, Q3, st3⟩ := own_callI X2 hx hZ hown (y := own_y18) rfl (hw 101 rfl) (hw 4 rfl) (hw 5 rfl) (hw 2 rfl) (by decide) (rmAL l Z a0 hw [] h2 n0 a2 g2n A2 (D2 (Or.inl (hw 25 rfl)) (ty := (.array (.object "java/lang/Object"))) (by decide)) (D2 (Or.inl (hw 69 rfl)) (ty := .int) (by decide)) (D2 (Or.inl (hw 22 rfl)) (ty := .int) (by decide)) de G.1 r5_Od) (W := 2) (g := (mkF m 9 #[.val (.ref ho), .val (.ref ce)] [(.ref a2), (.ref a2), (.ref ho)])) rfl (by rw [hml]; rfl) (a := a2) (argsL := []) (rest := [(.ref a2), (.ref ho)]) (lenOf pd___V rfl) rfl rfl (Nat.le_of_eq rfl) (hb hby d12_9) e2 (by decide) (by decide) (by decide) (by decide)
  obtain ⟨rfl, N3q, K3, AL3⟩ := Q3
  have N3 := Fr.app N0 N3q
  refine own_go st3 ?_
  show own_R _ _ _ _ T3 (mkF m 12 #[.val (.ref ho), .val (.ref ce)] [(.ref a2), (.ref ho)])
  have r13_E := r1_E.keep K3
  have r14_Ece := r2_Ece.keep K3
  have r15_Fa := r3_Fa.keep K3 (ninS nce2 nin0)
  have r16_I := r4_I.keep K3 (ninS nx2 nin0)
  have r17_Od := r5_Od.keep K3 (fun z hz => by cases List.mem_singleton.mp hz; exact g2n)
  have r18_Fended := r6_Fended.keep K3 (ninS nho2 nin0)
  have r19_Fcell := r7_Fcell.keep K3 (ninS nho2 nin0)
  have r20_Fholder := r8_Fholder.keep K3 (ninS nho2 nin0)
  have r21_Funtil := r9_Funtil.keep K3 (ninS nho2 nin0)
  have r22_Fsince := r10_Fsince.keep K3 (ninS nho2 nin0)
  have r23_Ey0 := r11_Ey0.keep K3
  have r24_Ey1 := r12_Ey1.keep K3
  obtain ⟨T4, h4, X4, e4, W4, st4⟩ := putF X3 hx hZ hown (host := "") (Or.inl (hw 102 rfl)) Via.refl rfl r18_Fended r13_E (Or.inr ⟨(hw 103 rfl), rfl, hnm⟩) (hw 94 rfl) (ty := (.object "java/util/List")) (by decide) rfl rfl (g := (mkF m 12 #[.val (.ref ho), .val (.ref ce)] [(.ref a2), (.ref ho)])) rfl rfl (hb hby d12_12)
  refine own_go st4 ?_
  show own_R _ _ _ _ T4 (mkF m 15 #[.val (.ref ho), .val (.ref ce)] [])
  have N4 := Fr.snoc X4 N3 g9
  have KW4 := Keep.of_wr W4
  have r25_Fended := r18_Fended.same W4
  have r26_Fcell := r19_Fcell.other W4 (Or.inr (slot_ne (Or.inr (hw 105 rfl)) (Or.inr (hw 103 rfl)) (by decide) (t := (.object "com/example/zellwerk/zellwerk/model/Cell")) (t' := (.object "java/util/List")) (by decide) (by decide)))
  have r27_Fholder := r20_Fholder.other W4 (Or.inr (slot_ne (Or.inr (hw 124 rfl)) (Or.inr (hw 103 rfl)) (by decide) (t := (.array .int)) (t' := (.object "java/util/List")) (by decide) (by decide)))
  have r28_Funtil := r21_Funtil.other W4 (Or.inr (slot_ne (Or.inr (hw 127 rfl)) (Or.inr (hw 103 rfl)) (by decide) (t := (.array .double)) (t' := (.object "java/util/List")) (by decide) (by decide)))
  have r29_Fsince := r22_Fsince.other W4 (Or.inr (slot_ne (Or.inr (hw 129 rfl)) (Or.inr (hw 103 rfl)) (by decide) (t := (.array .double)) (t' := (.object "java/util/List")) (by decide) (by decide)))
  have r30_E := r13_E.keep KW4
  have r31_Ece := r14_Ece.keep KW4
  have r32_Fa := r15_Fa.keep KW4 (ninS nce nin0)
  have r33_I := r16_I.keep KW4 (ninS nx nin0)
  have r34_Od := r17_Od.keep KW4 (fun z hz => by cases List.mem_singleton.mp hz; exact g9)
  have r35_Ey0 := r23_Ey0.keep KW4
  have r36_Ey1 := r24_Ey1.keep KW4
  have r37_AL := AL3.keep KW4 (ninS (Ne.symm nho2) nin0)
  refine own_go (fun _ => XS.aloadN X4.here hx rfl (hb hby d12_15) rfl rfl) ?_
  refine own_go (fun _ => XS.aloadN X4.here hx rfl (hb hby d12_16) rfl rfl) ?_
  show own_R _ _ _ _ T4 (mkF m 17 #[.val (.ref ho), .val (.ref ce)] [(.ref ce), (.ref ho)])
  obtain ⟨T5, h5, X5, e5, W5, st5⟩ := putF X4 hx hZ hown (host := "") (Or.inl (hw 104 rfl)) Via.refl e4 r26_Fcell r30_E (Or.inr ⟨(hw 105 rfl), rfl, hnm⟩) (hw 94 rfl) (ty := (.object "com/example/zellwerk/zellwerk/model/Cell")) (by decide) rfl rfl (g := (mkF m 17 #[.val (.ref ho), .val (.ref ce)] [(.ref ce), (.ref ho)])) rfl rfl (hb hby d12_17)
  refine own_go st5 ?_
  show own_R _ _ _ _ T5 (mkF m 20 #[.val (.ref ho), .val (.ref ce)] [])
  have N5 := Fr.snoc X5 N4 g9
  have KW5 := Keep.of_wr W5
  have r38_Fended := r25_Fended.other W5 (Or.inr (slot_ne (Or.inr (hw 103 rfl)) (Or.inr (hw 105 rfl)) (by decide) (t := (.object "java/util/List")) (t' := (.object "com/example/zellwerk/zellwerk/model/Cell")) (by decide) (by decide)))
  have r39_Fcell := r26_Fcell.same W5
  have r40_Fholder := r27_Fholder.other W5 (Or.inr (slot_ne (Or.inr (hw 124 rfl)) (Or.inr (hw 105 rfl)) (by decide) (t := (.array .int)) (t' := (.object "com/example/zellwerk/zellwerk/model/Cell")) (by decide) (by decide)))
  have r41_Funtil := r28_Funtil.other W5 (Or.inr (slot_ne (Or.inr (hw 127 rfl)) (Or.inr (hw 105 rfl)) (by decide) (t := (.array .double)) (t' := (.object "com/example/zellwerk/zellwerk/model/Cell")) (by decide) (by decide)))
  have r42_Fsince := r29_Fsince.other W5 (Or.inr (slot_ne (Or.inr (hw 129 rfl)) (Or.inr (hw 105 rfl)) (by decide) (t := (.array .double)) (t' := (.object "com/example/zellwerk/zellwerk/model/Cell")) (by decide) (by decide)))
  have r43_E := r30_E.keep KW5
  have r44_Ece := r31_Ece.keep KW5
  have r45_Fa := r32_Fa.keep KW5 (ninS nce nin0)
  have r46_I := r33_I.keep KW5 (ninS nx nin0)
  have r47_Od := r34_Od.keep KW5 (fun z hz => by cases List.mem_singleton.mp hz; exact g9)
  have r48_Ey0 := r35_Ey0.keep KW5
  have r49_Ey1 := r36_Ey1.keep KW5
  have r50_AL := r37_AL.keep KW5 (ninS (Ne.symm nho2) nin0)
  refine own_go (fun _ => XS.aloadN X5.here hx rfl (hb hby d12_20) rfl rfl) ?_
  refine own_go (fun _ => XS.aloadN X5.here hx rfl (hb hby d12_21) rfl rfl) ?_
  show own_R _ _ _ _ T5 (mkF m 22 #[.val (.ref ho), .val (.ref ce)] [(.ref ce), (.ref ho)])
  obtain ⟨v6a, T6a, L6a, X6a, Q6a, st6a⟩ := own_callV X5 hx hZ hown (y := own_y3) (hw 106 rfl) (hw 107 rfl) (hw 109 rfl) (hw 108 rfl) (hw 110 rfl) (hw 28 rfl) (by decide) (rmCA l Z a0 hw [] h5 n0 ce x r45_Fa) r44_Ece (W := 1) (g := (mkF m 22 #[.val (.ref ho), .val (.ref ce)] [(.ref ce), (.ref ho)])) rfl (by rw [hml]; rfl) (b := ce) (argsL := []) (rest := [(.ref ho)]) (lenOf pd___Ljava_util_List_ rfl) rfl rfl (Nat.le_of_eq rfl) (hb hby d12_22) e5 (by decide) (by decide) (by decide) (by decide)
  obtain ⟨rfl, N6aq, e6a⟩ := Q6a
  have N6a := Fr.app N5 N6aq
  refine own_go st6a ?_
  show own_R _ _ _ _ T6a (mkF m 25 #[.val (.ref ho), .val (.ref ce)] [(.ref x), (.ref ho)])
  obtain ⟨v6b, T6b, L6b, X6b, Q6b, st6b⟩ := own_backF X6a hx hZ hown (xi := own_y54) (hw 111 rfl) (hw 112 rfl) (mvT hZ (hw 113 rfl)) (hw 365 rfl) (hw 366 rfl) (hw 367 rfl) (hw 368 rfl) (hw 369 rfl) (by decide) (backOf (W := 1) (rmS2 l Z a0 hw [] h5 n0 de kd el ea ka em mr G r47_Od x y0 y1 r46_I qe) hZ (hw 370 rfl) (hw 351 rfl) (by decide) (by decide)) (b := x) r46_I.1 (g := (mkF m 25 #[.val (.ref ho), .val (.ref ce)] [(.ref x), (.ref ho)])) rfl (by rw [hml]; rfl) (argsL := []) (rest := [(.ref ho)]) (lenOf pd___I rfl) rfl rfl (Nat.le_of_eq rfl) (hb hby d12_25) e6a (by decide) (by decide)
  obtain ⟨rfl, N6bq, e6b⟩ := Q6b
  have N6b := Fr.app N6a N6bq
  refine own_go st6b ?_
  show own_R _ _ _ _ T6b (mkF m 30 #[.val (.ref ho), .val (.ref ce)] [(.int (Int32.ofNat 2)), (.ref ho)])
  obtain ⟨T6, h6, k6, X6, e6, E6, A6, st6⟩ := newP X6b hx hZ (hw 122 rfl) e6b (g := (mkF m 30 #[.val (.ref ho), .val (.ref ce)] [(.int (Int32.ofNat 2)), (.ref ho)])) rfl (hb hby d12_30) rfl (by decide) (cap := 2) (by decide) (by decide) (by decide) (by decide)
  obtain ⟨a6, g6⟩ : ∃ z, z = h5.size := ⟨_, rfl⟩
  rw [← g6] at A6 st6
  refine own_go st6 ?_
  show own_R _ _ _ _ T6 (mkF m 32 #[.val (.ref ho), .val (.ref ce)] [(.ref a6), (.ref ho)])
  have nh6 := own_nd (b := a6) r43_E.lt (Nat.le_of_eq g6.symm)
  have gha : n0 ≤ a6 := Nat.le_trans (r47_Od.1 ▸ r47_Od.2.1) (Nat.le_of_eq g6.symm)
  have nho6 := own_nd (b := a6) r43_E.lt (Nat.le_of_eq g6.symm)
  have nce6 := own_nd (b := a6) r44_Ece.lt (Nat.le_of_eq g6.symm)
  have nx6 := own_nd (b := a6) r46_I.1.lt (Nat.le_of_eq g6.symm)
  have nen6 := own_nd (b := a6) r50_AL.1.lt (Nat.le_of_eq g6.symm)
  have r51_E := r43_E.ext E6
  have r52_Ece := r44_Ece.ext E6
  have r53_Fa := r45_Fa.ext E6
  have r54_I := r46_I.ext E6
  have r55_Od := r47_Od.ext E6
  have r56_Fended := r38_Fended.ext E6
  have r57_Fcell := r39_Fcell.ext E6
  have r58_Fholder := r40_Fholder.ext E6
  have r59_Funtil := r41_Funtil.ext E6
  have r60_Fsince := r42_Fsince.ext E6
  have r61_Ey0 := r48_Ey0.ext E6
  have r62_Ey1 := r49_Ey1.ext E6
  have r63_AL := r50_AL.ext E6
  have Av6 := Arv.new A6 (by decide)
  obtain ⟨T16, h16, X16, e16, W16, st16⟩ := putF X6 hx hZ hown (host := "") (Or.inl (hw 123 rfl)) Via.refl e6 r58_Fholder r51_E (Or.inr ⟨(hw 124 rfl), rfl, hnm⟩) (hw 94 rfl) (ty := (.array .int)) (by decide) rfl rfl (g := (mkF m 32 #[.val (.ref ho), .val (.ref ce)] [(.ref a6), (.ref ho)])) rfl rfl (hb hby d12_32)
  refine own_go st16 ?_
  show own_R _ _ _ _ T16 (mkF m 35 #[.val (.ref ho), .val (.ref ce)] [])
  have N16 := Fr.snoc X16 N6b g9
  have KW16 := Keep.of_wr W16
  have r64_Fended := r56_Fended.other W16 (Or.inr (slot_ne (Or.inr (hw 103 rfl)) (Or.inr (hw 124 rfl)) (by decide) (t := (.object "java/util/List")) (t' := (.array .int)) (by decide) (by decide)))
  have r65_Fcell := r57_Fcell.other W16 (Or.inr (slot_ne (Or.inr (hw 105 rfl)) (Or.inr (hw 124 rfl)) (by decide) (t := (.object "com/example/zellwerk/zellwerk/model/Cell")) (t' := (.array .int)) (by decide) (by decide)))
  have r66_Fholder := r58_Fholder.same W16
  have r67_Funtil := r59_Funtil.other W16 (Or.inr (slot_ne (Or.inr (hw 127 rfl)) (Or.inr (hw 124 rfl)) (by decide) (t := (.array .double)) (t' := (.array .int)) (by decide) (by decide)))
  have r68_Fsince := r60_Fsince.other W16 (Or.inr (slot_ne (Or.inr (hw 129 rfl)) (Or.inr (hw 124 rfl)) (by decide) (t := (.array .double)) (t' := (.array .int)) (by decide) (by decide)))
  have r69_E := r51_E.keep KW16
  have r70_Ece := r52_Ece.keep KW16
  have r71_Fa := r53_Fa.keep KW16 (ninS nce nin0)
  have r72_I := r54_I.keep KW16 (ninS nx nin0)
  have r73_Od := r55_Od.keep KW16 (fun z hz => by cases List.mem_singleton.mp hz; exact g9)
  have r74_Ey0 := r61_Ey0.keep KW16
  have r75_Ey1 := r62_Ey1.keep KW16
  have r76_AL := r63_AL.keep KW16 (ninS (Ne.symm nho2) nin0)
  have r77_Ah := Av6.keep KW16 (ninS (Ne.symm nh6) nin0)
  refine own_go (fun _ => XS.aloadN X16.here hx rfl (hb hby d12_35) rfl rfl) ?_
  show own_R _ _ _ _ T16 (mkF m 36 #[.val (.ref ho), .val (.ref ce)] [(.ref ho)])
  refine own_go (fun _ => XS.aloadN X16.here hx rfl (hb hby d12_36) rfl rfl) ?_
  show own_R _ _ _ _ T16 (mkF m 37 #[.val (.ref ho), .val (.ref ce)] [(.ref ce), (.ref ho)])
  obtain ⟨v7a, T7a, L7a, X7a, Q7a, st7a⟩ := own_callV X16 hx hZ hown (y := own_y3) (hw 106 rfl) (hw 107 rfl) (hw 109 rfl) (hw 108 rfl) (hw 110 rfl) (hw 28 rfl) (by decide) (rmCA l Z a0 hw [] h16 n0 ce x r71_Fa) r70_Ece (W := 1) (g := (mkF m 37 #[.val (.ref ho), .val (.ref ce)] [(.ref ce), (.ref ho)])) rfl (by rw [hml]; rfl) (b := ce) (argsL := []) (rest := [(.ref ho)]) (lenOf pd___Ljava_util_List_ rfl) rfl rfl (Nat.le_of_eq rfl) (hb hby d12_37) e16 (by decide) (by decide) (by decide) (by decide)
  obtain ⟨rfl, N7aq, e7a⟩ := Q7a
  have N7a := Fr.app N16 N7aq
  refine own_go st7a ?_
  show own_R _ _ _ _ T7a (mkF m 40 #[.val (.ref ho), .val (.ref ce)] [(.ref x), (.ref ho)])
  obtain ⟨v7b, T7b, L7b, X7b, Q7b, st7b⟩ := own_backF X7a hx hZ hown (xi := own_y54) (hw 111 rfl) (hw 112 rfl) (mvT hZ (hw 113 rfl)) (hw 365 rfl) (hw 366 rfl) (hw 367 rfl) (hw 368 rfl) (hw 369 rfl) (by decide) (backOf (W := 1) (rmS2 l Z a0 hw [] h16 n0 de kd el ea ka em mr G r73_Od x y0 y1 r72_I qe) hZ (hw 370 rfl) (hw 351 rfl) (by decide) (by decide)) (b := x) r72_I.1 (g := (mkF m 40 #[.val (.ref ho), .val (.ref ce)] [(.ref x), (.ref ho)])) rfl (by rw [hml]; rfl) (argsL := []) (rest := [(.ref ho)]) (lenOf pd___I rfl) rfl rfl (Nat.le_of_eq rfl) (hb hby d12_40) e7a (by decide) (by decide)
  obtain ⟨rfl, N7bq, e7b⟩ := Q7b
  have N7b := Fr.app N7a N7bq
  refine own_go st7b ?_
  show own_R _ _ _ _ T7b (mkF m 45 #[.val (.ref ho), .val (.ref ce)] [(.int (Int32.ofNat 2)), (.ref ho)])
  obtain ⟨T7, h7, k7, X7, e7, E7, A7, st7⟩ := newP X7b hx hZ (hw 125 rfl) e7b (g := (mkF m 45 #[.val (.ref ho), .val (.ref ce)] [(.int (Int32.ofNat 2)), (.ref ho)])) rfl (hb hby d12_45) rfl (by decide) (cap := 2) (by decide) (by decide) (by decide) (by decide)
  obtain ⟨a7, g7⟩ : ∃ z, z = h16.size := ⟨_, rfl⟩
  rw [← g7] at A7 st7
  refine own_go st7 ?_
  show own_R _ _ _ _ T7 (mkF m 47 #[.val (.ref ho), .val (.ref ce)] [(.ref a7), (.ref ho)])
  have nh7 := own_nd (b := a7) r69_E.lt (Nat.le_of_eq g7.symm)
  have n67 := own_nd (b := a7) r77_Ah.lt (Nat.le_of_eq g7.symm)
  have r78_E := r69_E.ext E7
  have r79_Ece := r70_Ece.ext E7
  have r80_Fa := r71_Fa.ext E7
  have r81_I := r72_I.ext E7
  have r82_Od := r73_Od.ext E7
  have r83_Fended := r64_Fended.ext E7
  have r84_Fcell := r65_Fcell.ext E7
  have r85_Fholder := r66_Fholder.ext E7
  have r86_Funtil := r67_Funtil.ext E7
  have r87_Fsince := r68_Fsince.ext E7
  have r88_Ey0 := r74_Ey0.ext E7
  have r89_Ey1 := r75_Ey1.ext E7
  have r90_AL := r76_AL.ext E7
  have r91_Ah := r77_Ah.ext E7
  have Av7 := Arv.new A7 (by decide)
  obtain ⟨T17, h17, X17, e17, W17, st17⟩ := putF X7 hx hZ hown (host := "") (Or.inl (hw 126 rfl)) Via.refl e7 r86_Funtil r78_E (Or.inr ⟨(hw 127 rfl), rfl, hnm⟩) (hw 94 rfl) (ty := (.array .double)) (by decide) rfl rfl (g := (mkF m 47 #[.val (.ref ho), .val (.ref ce)] [(.ref a7), (.ref ho)])) rfl rfl (hb hby d12_47)
  refine own_go st17 ?_
  show own_R _ _ _ _ T17 (mkF m 50 #[.val (.ref ho), .val (.ref ce)] [])
  have N17 := Fr.snoc X17 N7b g9
  have KW17 := Keep.of_wr W17
  have r92_Fended := r83_Fended.other W17 (Or.inr (slot_ne (Or.inr (hw 103 rfl)) (Or.inr (hw 127 rfl)) (by decide) (t := (.object "java/util/List")) (t' := (.array .double)) (by decide) (by decide)))
  have r93_Fcell := r84_Fcell.other W17 (Or.inr (slot_ne (Or.inr (hw 105 rfl)) (Or.inr (hw 127 rfl)) (by decide) (t := (.object "com/example/zellwerk/zellwerk/model/Cell")) (t' := (.array .double)) (by decide) (by decide)))
  have r94_Fholder := r85_Fholder.other W17 (Or.inr (slot_ne (Or.inr (hw 124 rfl)) (Or.inr (hw 127 rfl)) (by decide) (t := (.array .int)) (t' := (.array .double)) (by decide) (by decide)))
  have r95_Funtil := r86_Funtil.same W17
  have r96_Fsince := r87_Fsince.other W17 (Or.inr (slot_ne (Or.inr (hw 129 rfl)) (Or.inr (hw 127 rfl)) (by decide) (t := (.array .double)) (t' := (.array .double)) (by decide) (by decide)))
  have r97_E := r78_E.keep KW17
  have r98_Ece := r79_Ece.keep KW17
  have r99_Fa := r80_Fa.keep KW17 (ninS nce nin0)
  have r100_I := r81_I.keep KW17 (ninS nx nin0)
  have r101_Od := r82_Od.keep KW17 (fun z hz => by cases List.mem_singleton.mp hz; exact g9)
  have r102_Ey0 := r88_Ey0.keep KW17
  have r103_Ey1 := r89_Ey1.keep KW17
  have r104_AL := r90_AL.keep KW17 (ninS (Ne.symm nho2) nin0)
  have r105_Ah := r91_Ah.keep KW17 (ninS (Ne.symm nh6) nin0)
  have r106_Au := Av7.keep KW17 (ninS (Ne.symm nh7) nin0)
  refine own_go (fun _ => XS.aloadN X17.here hx rfl (hb hby d12_50) rfl rfl) ?_
  show own_R _ _ _ _ T17 (mkF m 51 #[.val (.ref ho), .val (.ref ce)] [(.ref ho)])
  refine own_go (fun _ => XS.aloadN X17.here hx rfl (hb hby d12_51) rfl rfl) ?_
  show own_R _ _ _ _ T17 (mkF m 52 #[.val (.ref ho), .val (.ref ce)] [(.ref ce), (.ref ho)])
  obtain ⟨v8a, T8a, L8a, X8a, Q8a, st8a⟩ := own_callV X17 hx hZ hown (y := own_y3) (hw 106 rfl) (hw 107 rfl) (hw 109 rfl) (hw 108 rfl) (hw 110 rfl) (hw 28 rfl) (by decide) (rmCA l Z a0 hw [] h17 n0 ce x r99_Fa) r98_Ece (W := 1) (g := (mkF m 52 #[.val (.ref ho), .val (.ref ce)] [(.ref ce), (.ref ho)])) rfl (by rw [hml]; rfl) (b := ce) (argsL := []) (rest := [(.ref ho)]) (lenOf pd___Ljava_util_List_ rfl) rfl rfl (Nat.le_of_eq rfl) (hb hby d12_52) e17 (by decide) (by decide) (by decide) (by decide)
  obtain ⟨rfl, N8aq, e8a⟩ := Q8a
  have N8a := Fr.app N17 N8aq
  refine own_go st8a ?_
  show own_R _ _ _ _ T8a (mkF m 55 #[.val (.ref ho), .val (.ref ce)] [(.ref x), (.ref ho)])
  obtain ⟨v8b, T8b, L8b, X8b, Q8b, st8b⟩ := own_backF X8a hx hZ hown (xi := own_y54) (hw 111 rfl) (hw 112 rfl) (mvT hZ (hw 113 rfl)) (hw 365 rfl) (hw 366 rfl) (hw 367 rfl) (hw 368 rfl) (hw 369 rfl) (by decide) (backOf (W := 1) (rmS2 l Z a0 hw [] h17 n0 de kd el ea ka em mr G r101_Od x y0 y1 r100_I qe) hZ (hw 370 rfl) (hw 351 rfl) (by decide) (by decide)) (b := x) r100_I.1 (g := (mkF m 55 #[.val (.ref ho), .val (.ref ce)] [(.ref x), (.ref ho)])) rfl (by rw [hml]; rfl) (argsL := []) (rest := [(.ref ho)]) (lenOf pd___I rfl) rfl rfl (Nat.le_of_eq rfl) (hb hby d12_55) e8a (by decide) (by decide)
  obtain ⟨rfl, N8bq, e8b⟩ := Q8b
  have N8b := Fr.app N8a N8bq
  refine own_go st8b ?_
  show own_R _ _ _ _ T8b (mkF m 60 #[.val (.ref ho), .val (.ref ce)] [(.int (Int32.ofNat 2)), (.ref ho)])
  obtain ⟨T8, h8, k8, X8, e8, E8, A8, st8⟩ := newP X8b hx hZ (hw 125 rfl) e8b (g := (mkF m 60 #[.val (.ref ho), .val (.ref ce)] [(.int (Int32.ofNat 2)), (.ref ho)])) rfl (hb hby d12_60) rfl (by decide) (cap := 2) (by decide) (by decide) (by decide) (by decide)
  obtain ⟨a8, g8⟩ : ∃ z, z = h17.size := ⟨_, rfl⟩
  rw [← g8] at A8 st8
  refine own_go st8 ?_
  show own_R _ _ _ _ T8 (mkF m 62 #[.val (.ref ho), .val (.ref ce)] [(.ref a8), (.ref ho)])
  have nh8 := own_nd (b := a8) r97_E.lt (Nat.le_of_eq g8.symm)
  have r107_E := r97_E.ext E8
  have r108_Ece := r98_Ece.ext E8
  have r109_Fa := r99_Fa.ext E8
  have r110_I := r100_I.ext E8
  have r111_Od := r101_Od.ext E8
  have r112_Fended := r92_Fended.ext E8
  have r113_Fcell := r93_Fcell.ext E8
  have r114_Fholder := r94_Fholder.ext E8
  have r115_Funtil := r95_Funtil.ext E8
  have r116_Fsince := r96_Fsince.ext E8
  have r117_Ey0 := r102_Ey0.ext E8
  have r118_Ey1 := r103_Ey1.ext E8
  have r119_AL := r104_AL.ext E8
  have r120_Ah := r105_Ah.ext E8
  have r121_Au := r106_Au.ext E8
  have Av8 := Arv.new A8 (by decide)
  obtain ⟨T18, h18, X18, e18, W18, st18⟩ := putF X8 hx hZ hown (host := "") (Or.inl (hw 128 rfl)) Via.refl e8 r116_Fsince r107_E (Or.inr ⟨(hw 129 rfl), rfl, hnm⟩) (hw 94 rfl) (ty := (.array .double)) (by decide) rfl rfl (g := (mkF m 62 #[.val (.ref ho), .val (.ref ce)] [(.ref a8), (.ref ho)])) rfl rfl (hb hby d12_62)
  refine own_go st18 ?_
  show own_R _ _ _ _ T18 (mkF m 65 #[.val (.ref ho), .val (.ref ce)] [])
  have N18 := Fr.snoc X18 N8b g9
  have KW18 := Keep.of_wr W18
  have r122_Fended := r112_Fended.other W18 (Or.inr (slot_ne (Or.inr (hw 103 rfl)) (Or.inr (hw 129 rfl)) (by decide) (t := (.object "java/util/List")) (t' := (.array .double)) (by decide) (by decide)))
  have r123_Fcell := r113_Fcell.other W18 (Or.inr (slot_ne (Or.inr (hw 105 rfl)) (Or.inr (hw 129 rfl)) (by decide) (t := (.object "com/example/zellwerk/zellwerk/model/Cell")) (t' := (.array .double)) (by decide) (by decide)))
  have r124_Fholder := r114_Fholder.other W18 (Or.inr (slot_ne (Or.inr (hw 124 rfl)) (Or.inr (hw 129 rfl)) (by decide) (t := (.array .int)) (t' := (.array .double)) (by decide) (by decide)))
  have r125_Funtil := r115_Funtil.other W18 (Or.inr (slot_ne (Or.inr (hw 127 rfl)) (Or.inr (hw 129 rfl)) (by decide) (t := (.array .double)) (t' := (.array .double)) (by decide) (by decide)))
  have r127_E := r107_E.keep KW18
  have r128_Ece := r108_Ece.keep KW18
  have r129_Fa := r109_Fa.keep KW18 (ninS nce nin0)
  have r130_I := r110_I.keep KW18 (ninS nx nin0)
  have r131_Od := r111_Od.keep KW18 (fun z hz => by cases List.mem_singleton.mp hz; exact g9)
  have r132_Ey0 := r117_Ey0.keep KW18
  have r133_Ey1 := r118_Ey1.keep KW18
  have r134_AL := r119_AL.keep KW18 (ninS (Ne.symm nho2) nin0)
  have r135_Ah := r120_Ah.keep KW18 (ninS (Ne.symm nh6) nin0)
  have r136_Au := r121_Au.keep KW18 (ninS (Ne.symm nh7) nin0)
  refine own_go (fun _ => XS.aloadN X18.here hx rfl (hb hby d12_65) rfl rfl) ?_
  show own_R _ _ _ _ T18 (mkF m 66 #[.val (.ref ho), .val (.ref ce)] [(.ref ho)])
  obtain ⟨T20, X20, e20, st20⟩ := getF X18 hx hZ hown (host := "") (Or.inl (hw 123 rfl)) Via.refl e18 r124_Fholder (g := (mkF m 66 #[.val (.ref ho), .val (.ref ce)] [(.ref ho)])) rfl rfl (hb hby d12_66)
  refine own_go st20 ?_
  show own_R _ _ _ _ T20 (mkF m 69 #[.val (.ref ho), .val (.ref ce)] [(.ref a6)])
  refine own_go (fun _ => XS.iconst X20.here hx rfl (hb hby d12_69)) ?_
  show own_R _ _ _ _ T20 (mkF m 70 #[.val (.ref ho), .val (.ref ce)] [(.int (-1 : Int32)), (.ref a6)])
  obtain ⟨v21, T21, L21, X21, Q21, st21⟩ := own_callS X20 hx hZ hown (y := own_y27) (hw 130 rfl) (hw 131 rfl) (hw 132 rfl) (hw 133 rfl) (by decide) (rmFi2 l Z a0 hw [] h18 n0 a6 k6 gha r135_Ah (-1)) (W := 0) (g := (mkF m 70 #[.val (.ref ho), .val (.ref ce)] [(.int (-1 : Int32)), (.ref a6)])) rfl (by rw [hml]; rfl) (argsL := [(.ref a6), (.int (-1 : Int32))]) (rest := []) (lenOf pd___II_V rfl) rfl rfl (Nat.le_of_eq rfl) (hb hby d12_70) e20 (by decide) (by decide) (by decide) (by decide)
  obtain ⟨rfl, N21q, K21⟩ := Q21
  have N21 := Fr.app N18 N21q
  refine own_go st21 ?_
  show own_R _ _ _ _ T21 (mkF m 73 #[.val (.ref ho), .val (.ref ce)] [])
  have r137_E := r127_E.keep K21
  have r138_Ece := r128_Ece.keep K21
  have r139_Fa := r129_Fa.keep K21 (ninS nce6 nin0)
  have r140_I := r130_I.keep K21 (ninS nx6 nin0)
  have r141_Od := r131_Od.keep K21 (fun z hz => by cases List.mem_singleton.mp hz; exact gha)
  have r142_Fended := r122_Fended.keep K21 (ninS nho6 nin0)
  have r145_Funtil := r125_Funtil.keep K21 (ninS nho6 nin0)
  have r147_Ey0 := r132_Ey0.keep K21
  have r148_Ey1 := r133_Ey1.keep K21
  have r149_AL := r134_AL.keep K21 (ninS nen6 nin0)
  have r150_Au := r136_Au.keep K21 (ninS (Ne.symm n67) nin0)
  refine own_go (fun _ => XS.aloadN X21.here hx rfl (hb hby d12_73) rfl rfl) ?_
  show own_R _ _ _ _ T21 (mkF m 74 #[.val (.ref ho), .val (.ref ce)] [(.ref ce)])
  obtain ⟨v22, T22, L22, X22, Q22, st22⟩ := own_callV X21 hx hZ hown (y := own_y3) (hw 106 rfl) (hw 107 rfl) (hw 109 rfl) (hw 108 rfl) (hw 110 rfl) (hw 28 rfl) (by decide) (rmCA l Z a0 hw [] T21.heap n0 ce x r139_Fa) r138_Ece (W := 0) (g := (mkF m 74 #[.val (.ref ho), .val (.ref ce)] [(.ref ce)])) rfl (by rw [hml]; rfl) (b := ce) (argsL := []) (rest := []) (lenOf pd___Ljava_util_List_ rfl) rfl rfl (Nat.le_of_eq rfl) (hb hby d12_74) rfl (by decide) (by decide) (by decide) (by decide)
  obtain ⟨rfl, N22q, e22⟩ := Q22
  have N22 := Fr.app N21 N22q
  refine own_go st22 ?_
  show own_R _ _ _ _ T22 (mkF m 77 #[.val (.ref ho), .val (.ref ce)] [(.ref x)])
  refine own_go (fun _ => XS.aloadN X22.here hx rfl (hb hby d12_77) rfl rfl) ?_
  show own_R _ _ _ _ T22 (mkF m 78 #[.val (.ref ho), .val (.ref ce)] [(.ref ho), (.ref x)])
  obtain ⟨T23, h23, X23, e23, E23, F23, st23⟩ := own_site X22 hx hZ M Si hnam e22 (b := ho) (g := (mkF m 78 #[.val (.ref ho), .val (.ref ce)] [(.ref ho), (.ref x)])) rfl (by rw [hml]; rfl) rfl rfl (hb hby d12_78) (by show 2 * 0 + 2 + 3072 ≤ 3100; decide) (by decide) (by decide)
  obtain ⟨f, gf⟩ : ∃ z, z = T21.heap.size := ⟨_, rfl⟩
  rw [← gf] at F23 st23
  have nfe : f ≠ a2 := Ne.symm (own_nd r149_AL.1.lt (Nat.le_of_eq gf.symm))
  have nfu : a7 ≠ a2 := Ne.symm (Nat.ne_of_lt (Nat.lt_of_lt_of_le AL3.1.lt (Nat.le_trans (KW5.1 |> fun z => Nat.le_trans KW4.1 z) (Nat.le_trans (Nat.le_trans E6.1 KW16.1) (Nat.le_of_eq g7.symm)))))
  have r151_E := r137_E.ext E23
  have r154_I := r140_I.ext E23
  have r155_Od := r141_Od.ext E23
  have r156_Fended := r142_Fended.ext E23
  have r159_Funtil := r145_Funtil.ext E23
  have r161_Ey0 := r147_Ey0.ext E23
  have r162_Ey1 := r148_Ey1.ext E23
  have r163_AL := r149_AL.ext E23
  have r164_Au := r150_Au.ext E23
  refine own_go st23 ?_
  show own_R _ _ _ _ T23 (mkF m 83 #[.val (.ref ho), .val (.ref ce)] [(.ref f), (.ref x)])
  obtain ⟨v24, T24, L24, X24, Q24, st24⟩ := own_backFD X23 hx hZ hown (xi := own_y50) (J := "java/lang/Iterable") (hw 138 rfl) (hw 139 rfl) (hw 143 rfl) (own_ride hZ (hw 140 rfl)) (by decide) (hw 372 rfl) (hw 142 rfl) (hw 143 rfl) (hw 369 rfl) (by decide) (own_backB (W := 0) (rmFe2 l Z a0 hw h23 n0 de kd el ea ka em mr G r155_Od x y0 y1 r154_I qe cK M f ho a2 F23 r151_E r156_Fended g2n r163_AL nx2 nfe nho2 r161_Ey0 r162_Ey1) hx hZ (by decide) (own_find (hw 145 rfl)) (by decide) (by decide)) (b := x) r154_I.1 (g := (mkF m 83 #[.val (.ref ho), .val (.ref ce)] [(.ref f), (.ref x)])) rfl (by rw [hml]; rfl) (argsL := [(.ref f)]) (rest := []) (lenOf pd__Ljava_util_function_Consumer__V rfl) rfl rfl (Nat.le_of_eq rfl) (hb hby d12_83) e23 (by decide) (by decide)
  obtain ⟨rfl, N24q, K24⟩ := Q24
  have N24 := Fr.app N22 N24q
  refine own_go st24 ?_
  show own_R _ _ _ _ T24 (mkF m 88 #[.val (.ref ho), .val (.ref ce)] [])
  exact own_end X24 none (fun _ => rfl) hlk (fun fs hr => X24.returnOut hx hret (hb hby d12_88) hr) ⟨a7, k7, rfl, N24, r151_E.keep K24, r159_Funtil.keep K24 (own_ni nho2), r164_Au.keep K24 (own_ni nfu)⟩ (by decide) (by decide)
set_option maxRecDepth 65536 in
set_option maxHeartbeats 40000000 in
theorem rmHi3 (l : Launch) (Z : State) (a0 : Array Value) (hw : own_T a0 Z) (ws : List Jvm.Cond) (h0 : Heap) (n0 : Nat) (de : Addr) (kd : ClassId) (el ea : Addr) (ka : ClassId) (em mr : Addr) (G : own_G Z de kd el ea ka em mr) (Od : Old Z n0 h0) (x xa : Addr) (k : ClassId) (y0 y1 y2 : Addr) (I : own_IN Z h0 x xa k (Int32.ofNat 3) [.ref y0, .ref y1, .ref y2]) (cK : ClassId) (M : own_Mk Z cK) (Si : own_Si Z cK) (ho ce : Addr) (g9 : n0 ≤ ho) (E : Exa Z h0 ho "com/example/zellwerk/zellwerk/service/Holdings") (Fended : Fld Z h0 ho "com/example/zellwerk/zellwerk/service/Holdings" "ended" "Ljava/util/List;" .null) (Fcell : Fld Z h0 ho "com/example/zellwerk/zellwerk/service/Holdings" "cell" "Lcom/example/zellwerk/zellwerk/model/Cell;" .null) (Fholder : Fld Z h0 ho "com/example/zellwerk/zellwerk/service/Holdings" "holder" "[I" .null) (Funtil : Fld Z h0 ho "com/example/zellwerk/zellwerk/service/Holdings" "until" "[D" .null) (Fsince : Fld Z h0 ho "com/example/zellwerk/zellwerk/service/Holdings" "since" "[D" .null) (Ece : Exa Z h0 ce "com/example/zellwerk/zellwerk/model/Cell") (Fa : Fld Z h0 ce "com/example/zellwerk/zellwerk/model/Cell" "areas" "Ljava/util/List;" (.ref x)) (nce : ce ≠ ho) (nx : x ≠ ho) (nxa : xa ≠ ho) (Ey0 : Exa Z h0 y0 "com/example/zellwerk/zellwerk/model/Area") (Ey1 : Exa Z h0 y1 "com/example/zellwerk/zellwerk/model/Area") (Ey2 : Exa Z h0 y2 "com/example/zellwerk/zellwerk/model/Area")  :
    own_C l Z own_y4 prog_48_method_1_code 2 none ws ({ frames := 8, cells := 10, slots := 36, locals := 3100 } : Room) #[(.ref ho), (.ref ce)] h0 (own_Qh Z ho (Int32.ofNat 3) h0 n0) := by
  refine own_bodyM (ls := #[.val (.ref ho), .val (.ref ce)]) pn_12 (fun m => by first | (simp [entryFrame, mkF, argsToLocals, Value.category]; done) | rfl) ?_
  intro p e s m below meth c T0 hnam hZ hx hby hml hown hnm hret hlk X0 e0
  replace hml : c.maxLocals = 2 := hml
  have N0 := Fr.nil n0
  refine own_go (fun _ => XS.aloadN X0.here hx rfl (hb hby d12_0) rfl rfl) ?_
  show own_R _ _ _ _ T0 (mkF m 1 #[.val (.ref ho), .val (.ref ce)] [(.ref ho)])
  obtain ⟨T1, X1, e1, st1⟩ := initO X0 hx hZ hown (hw 99 rfl) (hw 19 rfl) (hw 20 rfl) e0 (g := (mkF m 1 #[.val (.ref ho), .val (.ref ce)] [(.ref ho)])) rfl (by rw [hml]; rfl) rfl (hb hby d12_1) (by decide) (W := 0) (Nat.le_of_eq rfl) (by decide)
  refine own_go st1 ?_
  show own_R _ _ _ _ T1 (mkF m 4 #[.val (.ref ho), .val (.ref ce)] [])
  refine own_go (fun _ => XS.aloadN X1.here hx rfl (hb hby d12_4) rfl rfl) ?_
  show own_R _ _ _ _ T1 (mkF m 5 #[.val (.ref ho), .val (.ref ce)] [(.ref ho)])
  obtain ⟨T2, h2, X2, e2, E2, A2, D2, -, st2⟩ := newO X1 hx hZ hown (hw 100 rfl) (hw 1 rfl) (hw 2 rfl) e1 (g := (mkF m 5 #[.val (.ref ho), .val (.ref ce)] [(.ref ho)])) rfl (hb hby d12_5) (by decide) (by decide)
  obtain ⟨a2, g2⟩ : ∃ z, z = h0.size := ⟨_, rfl⟩
  rw [← g2] at A2 D2 st2
  refine own_go st2 ?_
  show own_R _ _ _ _ T2 (mkF m 8 #[.val (.ref ho), .val (.ref ce)] [(.ref a2), (.ref ho)])
  refine own_go (fun _ => XS.dup X2.here hx rfl (hb hby d12_8) rfl rfl) ?_
  show own_R _ _ _ _ T2 (mkF m 9 #[.val (.ref ho), .val (.ref ce)] [(.ref a2), (.ref a2), (.ref ho)])
  have g2n : n0 ≤ a2 := Nat.le_trans (Od.1 ▸ Od.2.1) (Nat.le_of_eq g2.symm)
  have nho2 := own_nd (b := a2) E.lt (Nat.le_of_eq g2.symm)
  have nce2 := own_nd (b := a2) Ece.lt (Nat.le_of_eq g2.symm)
  have nx2 := own_nd (b := a2) I.1.lt (Nat.le_of_eq g2.symm)
  have nxa2 := own_nd (b := a2) I.2.2.lt (Nat.le_of_eq g2.symm)
  have r1_E := E.ext E2
  have r2_Ece := Ece.ext E2
  have r3_Fa := Fa.ext E2
  have r4_I := I.ext E2
  have r5_Od := Od.ext E2
  have r6_Fended := Fended.ext E2
  have r7_Fcell := Fcell.ext E2
  have r8_Fholder := Fholder.ext E2
  have r9_Funtil := Funtil.ext E2
  have r10_Fsince := Fsince.ext E2
  have r11_Ey0 := Ey0.ext E2
  have r12_Ey1 := Ey1.ext E2
  have r13_Ey2 := Ey2.ext E2
  obtain ⟨v3, T3, L3, X3, Q3, st3⟩ := own_callI X2 hx hZ hown (y := own_y18) rfl (hw 101 rfl) (hw 4 rfl) (hw 5 rfl) (hw 2 rfl) (by decide) (rmAL l Z a0 hw [] h2 n0 a2 g2n A2 (D2 (Or.inl (hw 25 rfl)) (ty := (.array (.object "java/lang/Object"))) (by decide)) (D2 (Or.inl (hw 69 rfl)) (ty := .int) (by decide)) (D2 (Or.inl (hw 22 rfl)) (ty := .int) (by decide)) de G.1 r5_Od) (W := 2) (g := (mkF m 9 #[.val (.ref ho), .val (.ref ce)] [(.ref a2), (.ref a2), (.ref ho)])) rfl (by rw [hml]; rfl) (a := a2) (argsL := []) (rest := [(.ref a2), (.ref ho)]) (lenOf pd___V rfl) rfl rfl (Nat.le_of_eq rfl) (hb hby d12_9) e2 (by decide) (by decide) (by decide) (by decide)
  obtain ⟨rfl, N3q, K3, AL3⟩ := Q3
  have N3 := Fr.app N0 N3q
  refine own_go st3 ?_
  show own_R _ _ _ _ T3 (mkF m 12 #[.val (.ref ho), .val (.ref ce)] [(.ref a2), (.ref ho)])
  have r14_E := r1_E.keep K3
  have r15_Ece := r2_Ece.keep K3
  have r16_Fa := r3_Fa.keep K3 (ninS nce2 nin0)
  have r17_I := r4_I.keep K3 (ninS nx2 nin0) (ninS nxa2 nin0)
  have r18_Od := r5_Od.keep K3 (fun z hz => by cases List.mem_singleton.mp hz; exact g2n)
  have r19_Fended := r6_Fended.keep K3 (ninS nho2 nin0)
  have r20_Fcell := r7_Fcell.keep K3 (ninS nho2 nin0)
  have r21_Fholder := r8_Fholder.keep K3 (ninS nho2 nin0)
  have r22_Funtil := r9_Funtil.keep K3 (ninS nho2 nin0)
  have r23_Fsince := r10_Fsince.keep K3 (ninS nho2 nin0)
  have r24_Ey0 := r11_Ey0.keep K3
  have r25_Ey1 := r12_Ey1.keep K3
  have r26_Ey2 := r13_Ey2.keep K3
  obtain ⟨T4, h4, X4, e4, W4, st4⟩ := putF X3 hx hZ hown (host := "") (Or.inl (hw 102 rfl)) Via.refl rfl r19_Fended r14_E (Or.inr ⟨(hw 103 rfl), rfl, hnm⟩) (hw 94 rfl) (ty := (.object "java/util/List")) (by decide) rfl rfl (g := (mkF m 12 #[.val (.ref ho), .val (.ref ce)] [(.ref a2), (.ref ho)])) rfl rfl (hb hby d12_12)
  refine own_go st4 ?_
  show own_R _ _ _ _ T4 (mkF m 15 #[.val (.ref ho), .val (.ref ce)] [])
  have N4 := Fr.snoc X4 N3 g9
  have KW4 := Keep.of_wr W4
  have r27_Fended := r19_Fended.same W4
  have r28_Fcell := r20_Fcell.other W4 (Or.inr (slot_ne (Or.inr (hw 105 rfl)) (Or.inr (hw 103 rfl)) (by decide) (t := (.object "com/example/zellwerk/zellwerk/model/Cell")) (t' := (.object "java/util/List")) (by decide) (by decide)))
  have r29_Fholder := r21_Fholder.other W4 (Or.inr (slot_ne (Or.inr (hw 124 rfl)) (Or.inr (hw 103 rfl)) (by decide) (t := (.array .int)) (t' := (.object "java/util/List")) (by decide) (by decide)))
  have r30_Funtil := r22_Funtil.other W4 (Or.inr (slot_ne (Or.inr (hw 127 rfl)) (Or.inr (hw 103 rfl)) (by decide) (t := (.array .double)) (t' := (.object "java/util/List")) (by decide) (by decide)))
  have r31_Fsince := r23_Fsince.other W4 (Or.inr (slot_ne (Or.inr (hw 129 rfl)) (Or.inr (hw 103 rfl)) (by decide) (t := (.array .double)) (t' := (.object "java/util/List")) (by decide) (by decide)))
  have r32_E := r14_E.keep KW4
  have r33_Ece := r15_Ece.keep KW4
  have r34_Fa := r16_Fa.keep KW4 (ninS nce nin0)
  have r35_I := r17_I.keep KW4 (ninS nx nin0) (ninS nxa nin0)
  have r36_Od := r18_Od.keep KW4 (fun z hz => by cases List.mem_singleton.mp hz; exact g9)
  have r37_Ey0 := r24_Ey0.keep KW4
  have r38_Ey1 := r25_Ey1.keep KW4
  have r39_Ey2 := r26_Ey2.keep KW4
  have r40_AL := AL3.keep KW4 (ninS (Ne.symm nho2) nin0)
  refine own_go (fun _ => XS.aloadN X4.here hx rfl (hb hby d12_15) rfl rfl) ?_
  refine own_go (fun _ => XS.aloadN X4.here hx rfl (hb hby d12_16) rfl rfl) ?_
  show own_R _ _ _ _ T4 (mkF m 17 #[.val (.ref ho), .val (.ref ce)] [(.ref ce), (.ref ho)])
  obtain ⟨T5, h5, X5, e5, W5, st5⟩ := putF X4 hx hZ hown (host := "") (Or.inl (hw 104 rfl)) Via.refl e4 r28_Fcell r32_E (Or.inr ⟨(hw 105 rfl), rfl, hnm⟩) (hw 94 rfl) (ty := (.object "com/example/zellwerk/zellwerk/model/Cell")) (by decide) rfl rfl (g := (mkF m 17 #[.val (.ref ho), .val (.ref ce)] [(.ref ce), (.ref ho)])) rfl rfl (hb hby d12_17)
  refine own_go st5 ?_
  show own_R _ _ _ _ T5 (mkF m 20 #[.val (.ref ho), .val (.ref ce)] [])
  have N5 := Fr.snoc X5 N4 g9
  have KW5 := Keep.of_wr W5
  have r41_Fended := r27_Fended.other W5 (Or.inr (slot_ne (Or.inr (hw 103 rfl)) (Or.inr (hw 105 rfl)) (by decide) (t := (.object "java/util/List")) (t' := (.object "com/example/zellwerk/zellwerk/model/Cell")) (by decide) (by decide)))
  have r42_Fcell := r28_Fcell.same W5
  have r43_Fholder := r29_Fholder.other W5 (Or.inr (slot_ne (Or.inr (hw 124 rfl)) (Or.inr (hw 105 rfl)) (by decide) (t := (.array .int)) (t' := (.object "com/example/zellwerk/zellwerk/model/Cell")) (by decide) (by decide)))
  have r44_Funtil := r30_Funtil.other W5 (Or.inr (slot_ne (Or.inr (hw 127 rfl)) (Or.inr (hw 105 rfl)) (by decide) (t := (.array .double)) (t' := (.object "com/example/zellwerk/zellwerk/model/Cell")) (by decide) (by decide)))
  have r45_Fsince := r31_Fsince.other W5 (Or.inr (slot_ne (Or.inr (hw 129 rfl)) (Or.inr (hw 105 rfl)) (by decide) (t := (.array .double)) (t' := (.object "com/example/zellwerk/zellwerk/model/Cell")) (by decide) (by decide)))
  have r46_E := r32_E.keep KW5
  have r47_Ece := r33_Ece.keep KW5
  have r48_Fa := r34_Fa.keep KW5 (ninS nce nin0)
  have r49_I := r35_I.keep KW5 (ninS nx nin0) (ninS nxa nin0)
  have r50_Od := r36_Od.keep KW5 (fun z hz => by cases List.mem_singleton.mp hz; exact g9)
  have r51_Ey0 := r37_Ey0.keep KW5
  have r52_Ey1 := r38_Ey1.keep KW5
  have r53_Ey2 := r39_Ey2.keep KW5
  have r54_AL := r40_AL.keep KW5 (ninS (Ne.symm nho2) nin0)
  refine own_go (fun _ => XS.aloadN X5.here hx rfl (hb hby d12_20) rfl rfl) ?_
  refine own_go (fun _ => XS.aloadN X5.here hx rfl (hb hby d12_21) rfl rfl) ?_
  show own_R _ _ _ _ T5 (mkF m 22 #[.val (.ref ho), .val (.ref ce)] [(.ref ce), (.ref ho)])
  obtain ⟨v6a, T6a, L6a, X6a, Q6a, st6a⟩ := own_callV X5 hx hZ hown (y := own_y3) (hw 106 rfl) (hw 107 rfl) (hw 109 rfl) (hw 108 rfl) (hw 110 rfl) (hw 28 rfl) (by decide) (rmCA l Z a0 hw [] h5 n0 ce x r48_Fa) r47_Ece (W := 1) (g := (mkF m 22 #[.val (.ref ho), .val (.ref ce)] [(.ref ce), (.ref ho)])) rfl (by rw [hml]; rfl) (b := ce) (argsL := []) (rest := [(.ref ho)]) (lenOf pd___Ljava_util_List_ rfl) rfl rfl (Nat.le_of_eq rfl) (hb hby d12_22) e5 (by decide) (by decide) (by decide) (by decide)
  obtain ⟨rfl, N6aq, e6a⟩ := Q6a
  have N6a := Fr.app N5 N6aq
  refine own_go st6a ?_
  show own_R _ _ _ _ T6a (mkF m 25 #[.val (.ref ho), .val (.ref ce)] [(.ref x), (.ref ho)])
  obtain ⟨v6b, T6b, L6b, X6b, Q6b, st6b⟩ := own_backF X6a hx hZ hown (xi := own_y54) (hw 111 rfl) (hw 112 rfl) (mvT hZ (hw 113 rfl)) (hw 114 rfl) (hw 115 rfl) (hw 116 rfl) (hw 117 rfl) (hw 78 rfl) (by decide) (backOf (W := 1) (rmSN l Z a0 hw [] h5 n0 x xa k (Int32.ofNat 3) [.ref y0, .ref y1, .ref y2] r49_I) hZ (hw 119 rfl) (hw 118 rfl) (by decide) (by decide)) (b := x) r49_I.1 (g := (mkF m 25 #[.val (.ref ho), .val (.ref ce)] [(.ref x), (.ref ho)])) rfl (by rw [hml]; rfl) (argsL := []) (rest := [(.ref ho)]) (lenOf pd___I rfl) rfl rfl (Nat.le_of_eq rfl) (hb hby d12_25) e6a (by decide) (by decide)
  obtain ⟨rfl, N6bq, e6b⟩ := Q6b
  have N6b := Fr.app N6a N6bq
  refine own_go st6b ?_
  show own_R _ _ _ _ T6b (mkF m 30 #[.val (.ref ho), .val (.ref ce)] [(.int (Int32.ofNat 3)), (.ref ho)])
  obtain ⟨T6, h6, k6, X6, e6, E6, A6, st6⟩ := newP X6b hx hZ (hw 122 rfl) e6b (g := (mkF m 30 #[.val (.ref ho), .val (.ref ce)] [(.int (Int32.ofNat 3)), (.ref ho)])) rfl (hb hby d12_30) rfl (by decide) (cap := 3) (by decide) (by decide) (by decide) (by decide)
  obtain ⟨a6, g6⟩ : ∃ z, z = h5.size := ⟨_, rfl⟩
  rw [← g6] at A6 st6
  refine own_go st6 ?_
  show own_R _ _ _ _ T6 (mkF m 32 #[.val (.ref ho), .val (.ref ce)] [(.ref a6), (.ref ho)])
  have nh6 := own_nd (b := a6) r46_E.lt (Nat.le_of_eq g6.symm)
  have gha : n0 ≤ a6 := Nat.le_trans (r50_Od.1 ▸ r50_Od.2.1) (Nat.le_of_eq g6.symm)
  have nho6 := own_nd (b := a6) r46_E.lt (Nat.le_of_eq g6.symm)
  have nce6 := own_nd (b := a6) r47_Ece.lt (Nat.le_of_eq g6.symm)
  have nx6 := own_nd (b := a6) r49_I.1.lt (Nat.le_of_eq g6.symm)
  have nen6 := own_nd (b := a6) r54_AL.1.lt (Nat.le_of_eq g6.symm)
  have nxa6 := own_nd (b := a6) r49_I.2.2.lt (Nat.le_of_eq g6.symm)
  have r55_E := r46_E.ext E6
  have r56_Ece := r47_Ece.ext E6
  have r57_Fa := r48_Fa.ext E6
  have r58_I := r49_I.ext E6
  have r59_Od := r50_Od.ext E6
  have r60_Fended := r41_Fended.ext E6
  have r61_Fcell := r42_Fcell.ext E6
  have r62_Fholder := r43_Fholder.ext E6
  have r63_Funtil := r44_Funtil.ext E6
  have r64_Fsince := r45_Fsince.ext E6
  have r65_Ey0 := r51_Ey0.ext E6
  have r66_Ey1 := r52_Ey1.ext E6
  have r67_Ey2 := r53_Ey2.ext E6
  have r68_AL := r54_AL.ext E6
  have Av6 := Arv.new A6 (by decide)
  obtain ⟨T16, h16, X16, e16, W16, st16⟩ := putF X6 hx hZ hown (host := "") (Or.inl (hw 123 rfl)) Via.refl e6 r62_Fholder r55_E (Or.inr ⟨(hw 124 rfl), rfl, hnm⟩) (hw 94 rfl) (ty := (.array .int)) (by decide) rfl rfl (g := (mkF m 32 #[.val (.ref ho), .val (.ref ce)] [(.ref a6), (.ref ho)])) rfl rfl (hb hby d12_32)
  refine own_go st16 ?_
  show own_R _ _ _ _ T16 (mkF m 35 #[.val (.ref ho), .val (.ref ce)] [])
  have N16 := Fr.snoc X16 N6b g9
  have KW16 := Keep.of_wr W16
  have r69_Fended := r60_Fended.other W16 (Or.inr (slot_ne (Or.inr (hw 103 rfl)) (Or.inr (hw 124 rfl)) (by decide) (t := (.object "java/util/List")) (t' := (.array .int)) (by decide) (by decide)))
  have r70_Fcell := r61_Fcell.other W16 (Or.inr (slot_ne (Or.inr (hw 105 rfl)) (Or.inr (hw 124 rfl)) (by decide) (t := (.object "com/example/zellwerk/zellwerk/model/Cell")) (t' := (.array .int)) (by decide) (by decide)))
  have r71_Fholder := r62_Fholder.same W16
  have r72_Funtil := r63_Funtil.other W16 (Or.inr (slot_ne (Or.inr (hw 127 rfl)) (Or.inr (hw 124 rfl)) (by decide) (t := (.array .double)) (t' := (.array .int)) (by decide) (by decide)))
  have r73_Fsince := r64_Fsince.other W16 (Or.inr (slot_ne (Or.inr (hw 129 rfl)) (Or.inr (hw 124 rfl)) (by decide) (t := (.array .double)) (t' := (.array .int)) (by decide) (by decide)))
  have r74_E := r55_E.keep KW16
  have r75_Ece := r56_Ece.keep KW16
  have r76_Fa := r57_Fa.keep KW16 (ninS nce nin0)
  have r77_I := r58_I.keep KW16 (ninS nx nin0) (ninS nxa nin0)
  have r78_Od := r59_Od.keep KW16 (fun z hz => by cases List.mem_singleton.mp hz; exact g9)
  have r79_Ey0 := r65_Ey0.keep KW16
  have r80_Ey1 := r66_Ey1.keep KW16
  have r81_Ey2 := r67_Ey2.keep KW16
  have r82_AL := r68_AL.keep KW16 (ninS (Ne.symm nho2) nin0)
  have r83_Ah := Av6.keep KW16 (ninS (Ne.symm nh6) nin0)
  refine own_go (fun _ => XS.aloadN X16.here hx rfl (hb hby d12_35) rfl rfl) ?_
  show own_R _ _ _ _ T16 (mkF m 36 #[.val (.ref ho), .val (.ref ce)] [(.ref ho)])
  refine own_go (fun _ => XS.aloadN X16.here hx rfl (hb hby d12_36) rfl rfl) ?_
  show own_R _ _ _ _ T16 (mkF m 37 #[.val (.ref ho), .val (.ref ce)] [(.ref ce), (.ref ho)])
  obtain ⟨v7a, T7a, L7a, X7a, Q7a, st7a⟩ := own_callV X16 hx hZ hown (y := own_y3) (hw 106 rfl) (hw 107 rfl) (hw 109 rfl) (hw 108 rfl) (hw 110 rfl) (hw 28 rfl) (by decide) (rmCA l Z a0 hw [] h16 n0 ce x r76_Fa) r75_Ece (W := 1) (g := (mkF m 37 #[.val (.ref ho), .val (.ref ce)] [(.ref ce), (.ref ho)])) rfl (by rw [hml]; rfl) (b := ce) (argsL := []) (rest := [(.ref ho)]) (lenOf pd___Ljava_util_List_ rfl) rfl rfl (Nat.le_of_eq rfl) (hb hby d12_37) e16 (by decide) (by decide) (by decide) (by decide)
  obtain ⟨rfl, N7aq, e7a⟩ := Q7a
  have N7a := Fr.app N16 N7aq
  refine own_go st7a ?_
  show own_R _ _ _ _ T7a (mkF m 40 #[.val (.ref ho), .val (.ref ce)] [(.ref x), (.ref ho)])
  obtain ⟨v7b, T7b, L7b, X7b, Q7b, st7b⟩ := own_backF X7a hx hZ hown (xi := own_y54) (hw 111 rfl) (hw 112 rfl) (mvT hZ (hw 113 rfl)) (hw 114 rfl) (hw 115 rfl) (hw 116 rfl) (hw 117 rfl) (hw 78 rfl) (by decide) (backOf (W := 1) (rmSN l Z a0 hw [] h16 n0 x xa k (Int32.ofNat 3) [.ref y0, .ref y1, .ref y2] r77_I) hZ (hw 119 rfl) (hw 118 rfl) (by decide) (by decide)) (b := x) r77_I.1 (g := (mkF m 40 #[.val (.ref ho), .val (.ref ce)] [(.ref x), (.ref ho)])) rfl (by rw [hml]; rfl) (argsL := []) (rest := [(.ref ho)]) (lenOf pd___I rfl) rfl rfl (Nat.le_of_eq rfl) (hb hby d12_40) e7a (by decide) (by decide)
  obtain ⟨rfl, N7bq, e7b⟩ := Q7b
  have N7b := Fr.app N7a N7bq
  refine own_go st7b ?_
  show own_R _ _ _ _ T7b (mkF m 45 #[.val (.ref ho), .val (.ref ce)] [(.int (Int32.ofNat 3)), (.ref ho)])
  obtain ⟨T7, h7, k7, X7, e7, E7, A7, st7⟩ := newP X7b hx hZ (hw 125 rfl) e7b (g := (mkF m 45 #[.val (.ref ho), .val (.ref ce)] [(.int (Int32.ofNat 3)), (.ref ho)])) rfl (hb hby d12_45) rfl (by decide) (cap := 3) (by decide) (by decide) (by decide) (by decide)
  obtain ⟨a7, g7⟩ : ∃ z, z = h16.size := ⟨_, rfl⟩
  rw [← g7] at A7 st7
  refine own_go st7 ?_
  show own_R _ _ _ _ T7 (mkF m 47 #[.val (.ref ho), .val (.ref ce)] [(.ref a7), (.ref ho)])
  have nh7 := own_nd (b := a7) r74_E.lt (Nat.le_of_eq g7.symm)
  have n67 := own_nd (b := a7) r83_Ah.lt (Nat.le_of_eq g7.symm)
  have r84_E := r74_E.ext E7
  have r85_Ece := r75_Ece.ext E7
  have r86_Fa := r76_Fa.ext E7
  have r87_I := r77_I.ext E7
  have r88_Od := r78_Od.ext E7
  have r89_Fended := r69_Fended.ext E7
  have r90_Fcell := r70_Fcell.ext E7
  have r91_Fholder := r71_Fholder.ext E7
  have r92_Funtil := r72_Funtil.ext E7
  have r93_Fsince := r73_Fsince.ext E7
  have r94_Ey0 := r79_Ey0.ext E7
  have r95_Ey1 := r80_Ey1.ext E7
  have r96_Ey2 := r81_Ey2.ext E7
  have r97_AL := r82_AL.ext E7
  have r98_Ah := r83_Ah.ext E7
  have Av7 := Arv.new A7 (by decide)
  obtain ⟨T17, h17, X17, e17, W17, st17⟩ := putF X7 hx hZ hown (host := "") (Or.inl (hw 126 rfl)) Via.refl e7 r92_Funtil r84_E (Or.inr ⟨(hw 127 rfl), rfl, hnm⟩) (hw 94 rfl) (ty := (.array .double)) (by decide) rfl rfl (g := (mkF m 47 #[.val (.ref ho), .val (.ref ce)] [(.ref a7), (.ref ho)])) rfl rfl (hb hby d12_47)
  refine own_go st17 ?_
  show own_R _ _ _ _ T17 (mkF m 50 #[.val (.ref ho), .val (.ref ce)] [])
  have N17 := Fr.snoc X17 N7b g9
  have KW17 := Keep.of_wr W17
  have r99_Fended := r89_Fended.other W17 (Or.inr (slot_ne (Or.inr (hw 103 rfl)) (Or.inr (hw 127 rfl)) (by decide) (t := (.object "java/util/List")) (t' := (.array .double)) (by decide) (by decide)))
  have r100_Fcell := r90_Fcell.other W17 (Or.inr (slot_ne (Or.inr (hw 105 rfl)) (Or.inr (hw 127 rfl)) (by decide) (t := (.object "com/example/zellwerk/zellwerk/model/Cell")) (t' := (.array .double)) (by decide) (by decide)))
  have r101_Fholder := r91_Fholder.other W17 (Or.inr (slot_ne (Or.inr (hw 124 rfl)) (Or.inr (hw 127 rfl)) (by decide) (t := (.array .int)) (t' := (.array .double)) (by decide) (by decide)))
  have r102_Funtil := r92_Funtil.same W17
  have r103_Fsince := r93_Fsince.other W17 (Or.inr (slot_ne (Or.inr (hw 129 rfl)) (Or.inr (hw 127 rfl)) (by decide) (t := (.array .double)) (t' := (.array .double)) (by decide) (by decide)))
  have r104_E := r84_E.keep KW17
  have r105_Ece := r85_Ece.keep KW17
  have r106_Fa := r86_Fa.keep KW17 (ninS nce nin0)
  have r107_I := r87_I.keep KW17 (ninS nx nin0) (ninS nxa nin0)
  have r108_Od := r88_Od.keep KW17 (fun z hz => by cases List.mem_singleton.mp hz; exact g9)
  have r109_Ey0 := r94_Ey0.keep KW17
  have r110_Ey1 := r95_Ey1.keep KW17
  have r111_Ey2 := r96_Ey2.keep KW17
  have r112_AL := r97_AL.keep KW17 (ninS (Ne.symm nho2) nin0)
  have r113_Ah := r98_Ah.keep KW17 (ninS (Ne.symm nh6) nin0)
  have r114_Au := Av7.keep KW17 (ninS (Ne.symm nh7) nin0)
  refine own_go (fun _ => XS.aloadN X17.here hx rfl (hb hby d12_50) rfl rfl) ?_
  show own_R _ _ _ _ T17 (mkF m 51 #[.val (.ref ho), .val (.ref ce)] [(.ref ho)])
  refine own_go (fun _ => XS.aloadN X17.here hx rfl (hb hby d12_51) rfl rfl) ?_
  show own_R _ _ _ _ T17 (mkF m 52 #[.val (.ref ho), .val (.ref ce)] [(.ref ce), (.ref ho)])
  obtain ⟨v8a, T8a, L8a, X8a, Q8a, st8a⟩ := own_callV X17 hx hZ hown (y := own_y3) (hw 106 rfl) (hw 107 rfl) (hw 109 rfl) (hw 108 rfl) (hw 110 rfl) (hw 28 rfl) (by decide) (rmCA l Z a0 hw [] h17 n0 ce x r106_Fa) r105_Ece (W := 1) (g := (mkF m 52 #[.val (.ref ho), .val (.ref ce)] [(.ref ce), (.ref ho)])) rfl (by rw [hml]; rfl) (b := ce) (argsL := []) (rest := [(.ref ho)]) (lenOf pd___Ljava_util_List_ rfl) rfl rfl (Nat.le_of_eq rfl) (hb hby d12_52) e17 (by decide) (by decide) (by decide) (by decide)
  obtain ⟨rfl, N8aq, e8a⟩ := Q8a
  have N8a := Fr.app N17 N8aq
  refine own_go st8a ?_
  show own_R _ _ _ _ T8a (mkF m 55 #[.val (.ref ho), .val (.ref ce)] [(.ref x), (.ref ho)])
  obtain ⟨v8b, T8b, L8b, X8b, Q8b, st8b⟩ := own_backF X8a hx hZ hown (xi := own_y54) (hw 111 rfl) (hw 112 rfl) (mvT hZ (hw 113 rfl)) (hw 114 rfl) (hw 115 rfl) (hw 116 rfl) (hw 117 rfl) (hw 78 rfl) (by decide) (backOf (W := 1) (rmSN l Z a0 hw [] h17 n0 x xa k (Int32.ofNat 3) [.ref y0, .ref y1, .ref y2] r107_I) hZ (hw 119 rfl) (hw 118 rfl) (by decide) (by decide)) (b := x) r107_I.1 (g := (mkF m 55 #[.val (.ref ho), .val (.ref ce)] [(.ref x), (.ref ho)])) rfl (by rw [hml]; rfl) (argsL := []) (rest := [(.ref ho)]) (lenOf pd___I rfl) rfl rfl (Nat.le_of_eq rfl) (hb hby d12_55) e8a (by decide) (by decide)
  obtain ⟨rfl, N8bq, e8b⟩ := Q8b
  have N8b := Fr.app N8a N8bq
  refine own_go st8b ?_
  show own_R _ _ _ _ T8b (mkF m 60 #[.val (.ref ho), .val (.ref ce)] [(.int (Int32.ofNat 3)), (.ref ho)])
  obtain ⟨T8, h8, k8, X8, e8, E8, A8, st8⟩ := newP X8b hx hZ (hw 125 rfl) e8b (g := (mkF m 60 #[.val (.ref ho), .val (.ref ce)] [(.int (Int32.ofNat 3)), (.ref ho)])) rfl (hb hby d12_60) rfl (by decide) (cap := 3) (by decide) (by decide) (by decide) (by decide)
  obtain ⟨a8, g8⟩ : ∃ z, z = h17.size := ⟨_, rfl⟩
  rw [← g8] at A8 st8
  refine own_go st8 ?_
  show own_R _ _ _ _ T8 (mkF m 62 #[.val (.ref ho), .val (.ref ce)] [(.ref a8), (.ref ho)])
  have nh8 := own_nd (b := a8) r104_E.lt (Nat.le_of_eq g8.symm)
  have r115_E := r104_E.ext E8
  have r116_Ece := r105_Ece.ext E8
  have r117_Fa := r106_Fa.ext E8
  have r118_I := r107_I.ext E8
  have r119_Od := r108_Od.ext E8
  have r120_Fended := r99_Fended.ext E8
  have r121_Fcell := r100_Fcell.ext E8
  have r122_Fholder := r101_Fholder.ext E8
  have r123_Funtil := r102_Funtil.ext E8
  have r124_Fsince := r103_Fsince.ext E8
  have r125_Ey0 := r109_Ey0.ext E8
  have r126_Ey1 := r110_Ey1.ext E8
  have r127_Ey2 := r111_Ey2.ext E8
  have r128_AL := r112_AL.ext E8
  have r129_Ah := r113_Ah.ext E8
  have r130_Au := r114_Au.ext E8
  have Av8 := Arv.new A8 (by decide)
  obtain ⟨T18, h18, X18, e18, W18, st18⟩ := putF X8 hx hZ hown (host := "") (Or.inl (hw 128 rfl)) Via.refl e8 r124_Fsince r115_E (Or.inr ⟨(hw 129 rfl), rfl, hnm⟩) (hw 94 rfl) (ty := (.array .double)) (by decide) rfl rfl (g := (mkF m 62 #[.val (.ref ho), .val (.ref ce)] [(.ref a8), (.ref ho)])) rfl rfl (hb hby d12_62)
  refine own_go st18 ?_
  show own_R _ _ _ _ T18 (mkF m 65 #[.val (.ref ho), .val (.ref ce)] [])
  have N18 := Fr.snoc X18 N8b g9
  have KW18 := Keep.of_wr W18
  have r131_Fended := r120_Fended.other W18 (Or.inr (slot_ne (Or.inr (hw 103 rfl)) (Or.inr (hw 129 rfl)) (by decide) (t := (.object "java/util/List")) (t' := (.array .double)) (by decide) (by decide)))
  have r132_Fcell := r121_Fcell.other W18 (Or.inr (slot_ne (Or.inr (hw 105 rfl)) (Or.inr (hw 129 rfl)) (by decide) (t := (.object "com/example/zellwerk/zellwerk/model/Cell")) (t' := (.array .double)) (by decide) (by decide)))
  have r133_Fholder := r122_Fholder.other W18 (Or.inr (slot_ne (Or.inr (hw 124 rfl)) (Or.inr (hw 129 rfl)) (by decide) (t := (.array .int)) (t' := (.array .double)) (by decide) (by decide)))
  have r134_Funtil := r123_Funtil.other W18 (Or.inr (slot_ne (Or.inr (hw 127 rfl)) (Or.inr (hw 129 rfl)) (by decide) (t := (.array .double)) (t' := (.array .double)) (by decide) (by decide)))
  have r136_E := r115_E.keep KW18
  have r137_Ece := r116_Ece.keep KW18
  have r138_Fa := r117_Fa.keep KW18 (ninS nce nin0)
  have r139_I := r118_I.keep KW18 (ninS nx nin0) (ninS nxa nin0)
  have r140_Od := r119_Od.keep KW18 (fun z hz => by cases List.mem_singleton.mp hz; exact g9)
  have r141_Ey0 := r125_Ey0.keep KW18
  have r142_Ey1 := r126_Ey1.keep KW18
  have r143_Ey2 := r127_Ey2.keep KW18
  have r144_AL := r128_AL.keep KW18 (ninS (Ne.symm nho2) nin0)
  have r145_Ah := r129_Ah.keep KW18 (ninS (Ne.symm nh6) nin0)
  have r146_Au := r130_Au.keep KW18 (ninS (Ne.symm nh7) nin0)
  refine own_go (fun _ => XS.aloadN X18.here hx rfl (hb hby d12_65) rfl rfl) ?_
  show own_R _ _ _ _ T18 (mkF m 66 #[.val (.ref ho), .val (.ref ce)] [(.ref ho)])
  obtain ⟨T20, X20, e20, st20⟩ := getF X18 hx hZ hown (host := "") (Or.inl (hw 123 rfl)) Via.refl e18 r133_Fholder (g := (mkF m 66 #[.val (.ref ho), .val (.ref ce)] [(.ref ho)])) rfl rfl (hb hby d12_66)
  refine own_go st20 ?_
  show own_R _ _ _ _ T20 (mkF m 69 #[.val (.ref ho), .val (.ref ce)] [(.ref a6)])
  refine own_go (fun _ => XS.iconst X20.here hx rfl (hb hby d12_69)) ?_
  show own_R _ _ _ _ T20 (mkF m 70 #[.val (.ref ho), .val (.ref ce)] [(.int (-1 : Int32)), (.ref a6)])
  obtain ⟨v21, T21, L21, X21, Q21, st21⟩ := own_callS X20 hx hZ hown (y := own_y27) (hw 130 rfl) (hw 131 rfl) (hw 132 rfl) (hw 133 rfl) (by decide) (rmFi3 l Z a0 hw [] h18 n0 a6 k6 gha r145_Ah (-1)) (W := 0) (g := (mkF m 70 #[.val (.ref ho), .val (.ref ce)] [(.int (-1 : Int32)), (.ref a6)])) rfl (by rw [hml]; rfl) (argsL := [(.ref a6), (.int (-1 : Int32))]) (rest := []) (lenOf pd___II_V rfl) rfl rfl (Nat.le_of_eq rfl) (hb hby d12_70) e20 (by decide) (by decide) (by decide) (by decide)
  obtain ⟨rfl, N21q, K21⟩ := Q21
  have N21 := Fr.app N18 N21q
  refine own_go st21 ?_
  show own_R _ _ _ _ T21 (mkF m 73 #[.val (.ref ho), .val (.ref ce)] [])
  have r147_E := r136_E.keep K21
  have r148_Ece := r137_Ece.keep K21
  have r149_Fa := r138_Fa.keep K21 (ninS nce6 nin0)
  have r150_I := r139_I.keep K21 (ninS nx6 nin0) (ninS nxa6 nin0)
  have r151_Od := r140_Od.keep K21 (fun z hz => by cases List.mem_singleton.mp hz; exact gha)
  have r152_Fended := r131_Fended.keep K21 (ninS nho6 nin0)
  have r155_Funtil := r134_Funtil.keep K21 (ninS nho6 nin0)
  have r157_Ey0 := r141_Ey0.keep K21
  have r158_Ey1 := r142_Ey1.keep K21
  have r159_Ey2 := r143_Ey2.keep K21
  have r160_AL := r144_AL.keep K21 (ninS nen6 nin0)
  have r161_Au := r146_Au.keep K21 (ninS (Ne.symm n67) nin0)
  refine own_go (fun _ => XS.aloadN X21.here hx rfl (hb hby d12_73) rfl rfl) ?_
  show own_R _ _ _ _ T21 (mkF m 74 #[.val (.ref ho), .val (.ref ce)] [(.ref ce)])
  obtain ⟨v22, T22, L22, X22, Q22, st22⟩ := own_callV X21 hx hZ hown (y := own_y3) (hw 106 rfl) (hw 107 rfl) (hw 109 rfl) (hw 108 rfl) (hw 110 rfl) (hw 28 rfl) (by decide) (rmCA l Z a0 hw [] T21.heap n0 ce x r149_Fa) r148_Ece (W := 0) (g := (mkF m 74 #[.val (.ref ho), .val (.ref ce)] [(.ref ce)])) rfl (by rw [hml]; rfl) (b := ce) (argsL := []) (rest := []) (lenOf pd___Ljava_util_List_ rfl) rfl rfl (Nat.le_of_eq rfl) (hb hby d12_74) rfl (by decide) (by decide) (by decide) (by decide)
  obtain ⟨rfl, N22q, e22⟩ := Q22
  have N22 := Fr.app N21 N22q
  refine own_go st22 ?_
  show own_R _ _ _ _ T22 (mkF m 77 #[.val (.ref ho), .val (.ref ce)] [(.ref x)])
  refine own_go (fun _ => XS.aloadN X22.here hx rfl (hb hby d12_77) rfl rfl) ?_
  show own_R _ _ _ _ T22 (mkF m 78 #[.val (.ref ho), .val (.ref ce)] [(.ref ho), (.ref x)])
  obtain ⟨T23, h23, X23, e23, E23, F23, st23⟩ := own_site X22 hx hZ M Si hnam e22 (b := ho) (g := (mkF m 78 #[.val (.ref ho), .val (.ref ce)] [(.ref ho), (.ref x)])) rfl (by rw [hml]; rfl) rfl rfl (hb hby d12_78) (by show 2 * 0 + 2 + 3072 ≤ 3100; decide) (by decide) (by decide)
  obtain ⟨f, gf⟩ : ∃ z, z = T21.heap.size := ⟨_, rfl⟩
  rw [← gf] at F23 st23
  have nfe : f ≠ a2 := Ne.symm (own_nd r160_AL.1.lt (Nat.le_of_eq gf.symm))
  have nfu : a7 ≠ a2 := Ne.symm (Nat.ne_of_lt (Nat.lt_of_lt_of_le AL3.1.lt (Nat.le_trans (KW5.1 |> fun z => Nat.le_trans KW4.1 z) (Nat.le_trans (Nat.le_trans E6.1 KW16.1) (Nat.le_of_eq g7.symm)))))
  have r162_E := r147_E.ext E23
  have r165_I := r150_I.ext E23
  have r166_Od := r151_Od.ext E23
  have r167_Fended := r152_Fended.ext E23
  have r170_Funtil := r155_Funtil.ext E23
  have r172_Ey0 := r157_Ey0.ext E23
  have r173_Ey1 := r158_Ey1.ext E23
  have r174_Ey2 := r159_Ey2.ext E23
  have r175_AL := r160_AL.ext E23
  have r176_Au := r161_Au.ext E23
  refine own_go st23 ?_
  show own_R _ _ _ _ T23 (mkF m 83 #[.val (.ref ho), .val (.ref ce)] [(.ref f), (.ref x)])
  obtain ⟨v24, T24, L24, X24, Q24, st24⟩ := own_backFD X23 hx hZ hown (xi := own_y50) (J := "java/lang/Iterable") (hw 138 rfl) (hw 139 rfl) (hw 143 rfl) (own_ride hZ (hw 140 rfl)) (by decide) (hw 141 rfl) (hw 142 rfl) (hw 143 rfl) (hw 78 rfl) (by decide) (own_backB (W := 0) (rmFe3 l Z a0 hw h23 n0 de kd el ea ka em mr G r166_Od x xa k y0 y1 y2 r165_I cK M f ho a2 F23 r162_E r167_Fended g2n r175_AL nx2 nfe nho2 nxa2 r172_Ey0 r173_Ey1 r174_Ey2) hx hZ (by decide) (own_find (hw 145 rfl)) (by decide) (by decide)) (b := x) r165_I.1 (g := (mkF m 83 #[.val (.ref ho), .val (.ref ce)] [(.ref f), (.ref x)])) rfl (by rw [hml]; rfl) (argsL := [(.ref f)]) (rest := []) (lenOf pd__Ljava_util_function_Consumer__V rfl) rfl rfl (Nat.le_of_eq rfl) (hb hby d12_83) e23 (by decide) (by decide)
  obtain ⟨rfl, N24q, K24⟩ := Q24
  have N24 := Fr.app N22 N24q
  refine own_go st24 ?_
  show own_R _ _ _ _ T24 (mkF m 88 #[.val (.ref ho), .val (.ref ce)] [])
  exact own_end X24 none (fun _ => rfl) hlk (fun fs hr => X24.returnOut hx hret (hb hby d12_88) hr) ⟨a7, k7, rfl, N24, r162_E.keep K24, r170_Funtil.keep K24 (own_ni nho2), r176_Au.keep K24 (own_ni nfu)⟩ (by decide) (by decide)
theorem pn_0 : plainFor x = true := by first | exact plainFor_of_name (by first | (simp [plainName, overriddenIn]; done) | decide +kernel) | decide +kernel

def own_Q0 (n0 : Nat) (v : Option Value) (h : Heap) (L : List Loc) : Prop := v = some (.int (1 : Int32)) ∧ Fr n0 L
theorem own_n3 (a : Int32) : (a &&& (3 : Int32)) = 0 ∨ (a &&& (3 : Int32)) = 1 ∨ (a &&& (3 : Int32)) = 2 ∨ (a &&& (3 : Int32)) = 3 := by
  obtain ⟨h1, h2⟩ := c_and a 3 (by decide)
  have e3 : (3 : Int32).toInt = 3 := rfl
  have e2 : (2 : Int32).toInt = 2 := rfl
  have e1 : (1 : Int32).toInt = 1 := rfl
  have e0 : (0 : Int32).toInt = 0 := rfl
  rw [e3] at h2
  have h : (a &&& (3 : Int32)).toInt = 0 ∨ (a &&& (3 : Int32)).toInt = 1 ∨ (a &&& (3 : Int32)).toInt = 2 ∨ (a &&& (3 : Int32)).toInt = 3 := by omega
  rcases h with h | h | h | h
  · exact Or.inl (Int32.toInt_inj.mp (h.trans e0.symm))
  · exact Or.inr (Or.inl (Int32.toInt_inj.mp (h.trans e1.symm)))
  · exact Or.inr (Or.inr (Or.inl (Int32.toInt_inj.mp (h.trans e2.symm))))
  · exact Or.inr (Or.inr (Or.inr (Int32.toInt_inj.mp (h.trans e3.symm))))
theorem own_sumNN (a b : Int32) : Jvm.Free.Fl.NoNaN64 (FP.dadd (FP.i2d a) (FP.i2d b)) := by
  have q1 := rng32 a
  have q2 := rng32 b
  exact (own_dh_add (own_dh_i2d a) (own_dh_i2d b) (by omega)).nn
set_option maxRecDepth 65536 in
set_option maxHeartbeats 80000000 in
theorem rm0_0 (l : Launch) (Z : State) (a0 : Array Value) (hw : own_T a0 Z) (ws : List Jvm.Cond) (h0 : Heap) (n0 : Nat) (de : Addr) (kd : ClassId) (el ea : Addr) (ka : ClassId) (em mr : Addr) (G : own_G Z de kd el ea ka em mr) (Od : Old Z n0 h0) (zc : Int32) (OS : Sta Z Z.heap "java/lang/String" "COMPACT_STRINGS" "Z" (.int zc)) (hzc : ¬ zc = 0) (ct lo sp zz : Int32) (hn : (ct &&& (3 : Int32)) = (0 : Int32))  :
    own_CW l Z x code maxLocals ret ws room_1 #[(.int ct), (.int lo), (.int sp), (.int zz)] h0 (own_Q0 n0) := by
  refine own_bodyW (ls := #[.val (.int ct), .val (.int lo), .val (.int sp), .val (.int zz), .unset, .unset, .unset, .unset, .unset, .unset, .unset, .unset, .unset]) pn_0 (fun m => by first | (simp [entryFrame, mkF, argsToLocals, Value.category, maxLocals]; done) | rfl) ?_
  intro p e s m below meth c T0 hZ hx hby hml hown hnm hret hlk X0 e0
  replace hml : c.maxLocals = 13 := hml
  have N0 := Fr.nil n0
  obtain ⟨cK, M, Si⟩ := own_lam (hw 134 rfl) (hw 137 rfl) (hw 342 rfl) (hw 344 rfl) (hw 194 rfl)
  refine own_go (fun _ => XS.iloadN X0.here hx rfl (hb hby at_0) rfl ) ?_
  refine own_go (fun _ => XS.iconst X0.here hx rfl (hb hby at_1)) ?_
  refine own_go (fun _ => XS.iand X0.here hx rfl (hb hby at_2) rfl) ?_
  show own_R _ _ _ _ T0 (mkF m 3 #[.val (.int ct), .val (.int lo), .val (.int sp), .val (.int zz), .unset, .unset, .unset, .unset, .unset, .unset, .unset, .unset, .unset] [(.int (ct &&& (3 : Int32)))])
  rw [hn]
  show own_R _ _ _ _ T0 (mkF m 3 #[.val (.int ct), .val (.int lo), .val (.int sp), .val (.int zz), .unset, .unset, .unset, .unset, .unset, .unset, .unset, .unset, .unset] [(.int (0 : Int32))])
  refine own_go (fun _ => XS.istore X0.here hx rfl (hb hby at_3) rfl (l' := #[.val (.int ct), .val (.int lo), .val (.int sp), .val (.int zz), .val (.int (0 : Int32)), .unset, .unset, .unset, .unset, .unset, .unset, .unset, .unset]) rfl) ?_
  show own_R _ _ _ _ T0 (mkF m 5 #[.val (.int ct), .val (.int lo), .val (.int sp), .val (.int zz), .val (.int (0 : Int32)), .unset, .unset, .unset, .unset, .unset, .unset, .unset, .unset] [])
  refine own_go (fun _ => XS.iloadN X0.here hx rfl (hb hby at_5) rfl ) ?_
  refine own_go (fun _ => XS.sipush X0.here hx rfl (hb hby at_6)) ?_
  refine own_go (fun _ => XS.iand X0.here hx rfl (hb hby at_9) rfl) ?_
  refine own_go (fun _ => XS.i2dS X0.here hx rfl (hb hby at_10) rfl rfl) ?_
  refine own_go (fun _ => XS.dstore X0.here hx rfl (hb hby at_11) rfl (l' := #[.val (.int ct), .val (.int lo), .val (.int sp), .val (.int zz), .val (.int (0 : Int32)), .val (.double (FP.i2d (lo &&& (255 : Int32)))), .second, .unset, .unset, .unset, .unset, .unset, .unset]) rfl) ?_
  refine own_go (fun _ => XS.dload X0.here hx rfl (hb hby at_13) rfl ) ?_
  refine own_go (fun _ => XS.iloadN X0.here hx rfl (hb hby at_15) rfl ) ?_
  refine own_go (fun _ => XS.sipush X0.here hx rfl (hb hby at_16)) ?_
  refine own_go (fun _ => XS.iand X0.here hx rfl (hb hby at_19) rfl) ?_
  show own_R _ _ _ _ T0 (mkF m 20 #[.val (.int ct), .val (.int lo), .val (.int sp), .val (.int zz), .val (.int (0 : Int32)), .val (.double (FP.i2d (lo &&& (255 : Int32)))), .second, .unset, .unset, .unset, .unset, .unset, .unset] [(.int (sp &&& (255 : Int32))), (.double (FP.i2d (lo &&& (255 : Int32))))])
  refine own_go (fun _ => XS.i2dS X0.here hx rfl (hb hby at_20) rfl rfl) ?_
  refine own_go (fun _ => XS.daddS X0.here hx rfl (hb hby at_21) rfl (own_sumNN _ _) rfl) ?_
  refine own_go (fun _ => XS.dstore X0.here hx rfl (hb hby at_22) rfl (l' := #[.val (.int ct), .val (.int lo), .val (.int sp), .val (.int zz), .val (.int (0 : Int32)), .val (.double (FP.i2d (lo &&& (255 : Int32)))), .second, .val (.double (FP.dadd (FP.i2d (lo &&& (255 : Int32))) (FP.i2d (sp &&& (255 : Int32))))), .second, .unset, .unset, .unset, .unset]) rfl) ?_
  show own_R _ _ _ _ T0 (mkF m 24 #[.val (.int ct), .val (.int lo), .val (.int sp), .val (.int zz), .val (.int (0 : Int32)), .val (.double (FP.i2d (lo &&& (255 : Int32)))), .second, .val (.double (FP.dadd (FP.i2d (lo &&& (255 : Int32))) (FP.i2d (sp &&& (255 : Int32))))), .second, .unset, .unset, .unset, .unset] [])
  generalize hmx : (FP.dadd (FP.i2d (lo &&& (255 : Int32))) (FP.i2d (sp &&& (255 : Int32)))) = mx
  show own_R _ _ _ _ T0 (mkF m 24 #[.val (.int ct), .val (.int lo), .val (.int sp), .val (.int zz), .val (.int (0 : Int32)), .val (.double (FP.i2d (lo &&& (255 : Int32)))), .second, .val (.double mx), .second, .unset, .unset, .unset, .unset] [])
  generalize hmi : (FP.i2d (lo &&& (255 : Int32))) = mi
  show own_R _ _ _ _ T0 (mkF m 24 #[.val (.int ct), .val (.int lo), .val (.int sp), .val (.int zz), .val (.int (0 : Int32)), .val (.double mi), .second, .val (.double mx), .second, .unset, .unset, .unset, .unset] [])
  obtain ⟨T1, h1, X1, e1, E1, A1, D1, -, st1⟩ := newO X0 hx hZ hown (hw 0 rfl) (hw 1 rfl) (hw 2 rfl) e0 (g := (mkF m 24 #[.val (.int ct), .val (.int lo), .val (.int sp), .val (.int zz), .val (.int (0 : Int32)), .val (.double mi), .second, .val (.double mx), .second, .unset, .unset, .unset, .unset] [])) rfl (hb hby at_24) (by decide) (by decide)
  obtain ⟨a1, g1⟩ : ∃ z, z = h0.size := ⟨_, rfl⟩
  rw [← g1] at A1 D1 st1
  refine own_go st1 ?_
  show own_R _ _ _ _ T1 (mkF m 27 #[.val (.int ct), .val (.int lo), .val (.int sp), .val (.int zz), .val (.int (0 : Int32)), .val (.double mi), .second, .val (.double mx), .second, .unset, .unset, .unset, .unset] [(.ref a1)])
  have g1n : n0 ≤ a1 := Nat.le_trans (Od.1 ▸ Od.2.1) (Nat.le_of_eq g1.symm)
  have r1_Od := Od.ext E1
  refine own_go (fun _ => XS.dup X1.here hx rfl (hb hby at_27) rfl rfl) ?_
  show own_R _ _ _ _ T1 (mkF m 28 #[.val (.int ct), .val (.int lo), .val (.int sp), .val (.int zz), .val (.int (0 : Int32)), .val (.double mi), .second, .val (.double mx), .second, .unset, .unset, .unset, .unset] [(.ref a1), (.ref a1)])
  obtain ⟨v10, T10, L10, X10, Q10, st10⟩ := own_callI X1 hx hZ hown (y := own_y18) rfl (hw 3 rfl) (hw 4 rfl) (hw 5 rfl) (hw 2 rfl) (by decide) (rmAL l Z a0 hw [] h1 n0 a1 g1n A1 (D1 (Or.inl (hw 25 rfl)) (ty := (.array (.object "java/lang/Object"))) (by decide)) (D1 (Or.inl (hw 69 rfl)) (ty := .int) (by decide)) (D1 (Or.inl (hw 22 rfl)) (ty := .int) (by decide)) de G.1 r1_Od) (W := 1) (g := (mkF m 28 #[.val (.int ct), .val (.int lo), .val (.int sp), .val (.int zz), .val (.int (0 : Int32)), .val (.double mi), .second, .val (.double mx), .second, .unset, .unset, .unset, .unset] [(.ref a1), (.ref a1)])) rfl (by rw [hml]; rfl) (a := a1) (argsL := []) (rest := [(.ref a1)]) (lenOf pd___V rfl) rfl rfl (Nat.le_of_eq rfl) (hb hby at_28) e1 (by decide) (by decide) (by decide) (by decide)
  obtain ⟨rfl, N10q, K10, AL1⟩ := Q10
  have N10 := Fr.app N0 N10q
  refine own_go st10 ?_
  show own_R _ _ _ _ T10 (mkF m 31 #[.val (.int ct), .val (.int lo), .val (.int sp), .val (.int zz), .val (.int (0 : Int32)), .val (.double mi), .second, .val (.double mx), .second, .unset, .unset, .unset, .unset] [(.ref a1)])
  have r2_Od := r1_Od.keep K10 (fun z hz => by cases List.mem_singleton.mp hz; exact g1n)
  refine own_go (fun _ => XS.astore X10.here hx rfl (hb hby at_31) rfl rfl (l' := #[.val (.int ct), .val (.int lo), .val (.int sp), .val (.int zz), .val (.int (0 : Int32)), .val (.double mi), .second, .val (.double mx), .second, .val (.ref a1), .unset, .unset, .unset]) rfl) ?_
  refine own_go (fun _ => XS.iload X10.here hx rfl (hb hby at_33) rfl ) ?_
  refine own_go (fun _ => XS.iconst X10.here hx rfl (hb hby at_35)) ?_
  show own_R _ _ _ _ T10 (mkF m 36 #[.val (.int ct), .val (.int lo), .val (.int sp), .val (.int zz), .val (.int (0 : Int32)), .val (.double mi), .second, .val (.double mx), .second, .val (.ref a1), .unset, .unset, .unset] [(.int (1 : Int32)), (.int (0 : Int32))])
  refine own_go (fun _ => XS.icmpYes X10.here hx rfl (pc0 := 36) (pc' := 68) rfl (hb hby at_36) rfl (tlt (by decide : (0 : Int32) < (1 : Int32))).1 (by decide) (by decide)) ?_
  show own_R _ _ _ _ T10 (mkF m 68 #[.val (.int ct), .val (.int lo), .val (.int sp), .val (.int zz), .val (.int (0 : Int32)), .val (.double mi), .second, .val (.double mx), .second, .val (.ref a1), .unset, .unset, .unset] [])
  refine own_go (fun _ => XS.iload X10.here hx rfl (hb hby at_68) rfl ) ?_
  refine own_go (fun _ => XS.iconst X10.here hx rfl (hb hby at_70)) ?_
  show own_R _ _ _ _ T10 (mkF m 71 #[.val (.int ct), .val (.int lo), .val (.int sp), .val (.int zz), .val (.int (0 : Int32)), .val (.double mi), .second, .val (.double mx), .second, .val (.ref a1), .unset, .unset, .unset] [(.int (2 : Int32)), (.int (0 : Int32))])
  refine own_go (fun _ => XS.icmpYes X10.here hx rfl (pc0 := 71) (pc' := 103) rfl (hb hby at_71) rfl (tlt (by decide : (0 : Int32) < (2 : Int32))).1 (by decide) (by decide)) ?_
  show own_R _ _ _ _ T10 (mkF m 103 #[.val (.int ct), .val (.int lo), .val (.int sp), .val (.int zz), .val (.int (0 : Int32)), .val (.double mi), .second, .val (.double mx), .second, .val (.ref a1), .unset, .unset, .unset] [])
  refine own_go (fun _ => XS.iload X10.here hx rfl (hb hby at_103) rfl ) ?_
  refine own_go (fun _ => XS.iconst X10.here hx rfl (hb hby at_105)) ?_
  show own_R _ _ _ _ T10 (mkF m 106 #[.val (.int ct), .val (.int lo), .val (.int sp), .val (.int zz), .val (.int (0 : Int32)), .val (.double mi), .second, .val (.double mx), .second, .val (.ref a1), .unset, .unset, .unset] [(.int (3 : Int32)), (.int (0 : Int32))])
  refine own_go (fun _ => XS.icmpYes X10.here hx rfl (pc0 := 106) (pc' := 138) rfl (hb hby at_106) rfl (tlt (by decide : (0 : Int32) < (3 : Int32))).1 (by decide) (by decide)) ?_
  show own_R _ _ _ _ T10 (mkF m 138 #[.val (.int ct), .val (.int lo), .val (.int sp), .val (.int zz), .val (.int (0 : Int32)), .val (.double mi), .second, .val (.double mx), .second, .val (.ref a1), .unset, .unset, .unset] [])
  obtain ⟨T8, h8, X8, e8, E8, A8, D8, -, st8⟩ := newO X10 hx hZ hown (hw 26 rfl) (hw 27 rfl) (hw 28 rfl) rfl (g := (mkF m 138 #[.val (.int ct), .val (.int lo), .val (.int sp), .val (.int zz), .val (.int (0 : Int32)), .val (.double mi), .second, .val (.double mx), .second, .val (.ref a1), .unset, .unset, .unset] [])) rfl (hb hby at_138) (by decide) (by decide)
  obtain ⟨a8, g8⟩ : ∃ z, z = T10.heap.size := ⟨_, rfl⟩
  rw [← g8] at A8 D8 st8
  refine own_go st8 ?_
  show own_R _ _ _ _ T8 (mkF m 141 #[.val (.int ct), .val (.int lo), .val (.int sp), .val (.int zz), .val (.int (0 : Int32)), .val (.double mi), .second, .val (.double mx), .second, .val (.ref a1), .unset, .unset, .unset] [(.ref a8)])
  have g8n : n0 ≤ a8 := Nat.le_trans (r2_Od.1 ▸ r2_Od.2.1) (Nat.le_of_eq g8.symm)
  have r3_Od := r2_Od.ext E8
  have r4_AL1 := AL1.ext E8
  have CsafeZ := D8 (Or.inr (hw 80 rfl)) (ty := .double) (by decide)
  have Crobots := D8 (Or.inr (hw 82 rfl)) (ty := (.object "java/util/List")) (by decide)
  have Cfeeders := D8 (Or.inr (hw 84 rfl)) (ty := (.object "java/util/List")) (by decide)
  have Careas := D8 (Or.inr (hw 86 rfl)) (ty := (.object "java/util/List")) (by decide)
  have CcoupleS := D8 (Or.inr (hw 88 rfl)) (ty := .double) (by decide)
  have Cgrippers := D8 (Or.inr (hw 90 rfl)) (ty := (.object "java/util/List")) (by decide)
  have Cports := D8 (Or.inr (hw 92 rfl)) (ty := (.object "java/util/List")) (by decide)
  refine own_go (fun _ => XS.dup X8.here hx rfl (hb hby at_141) rfl rfl) ?_
  refine own_go (fun _ => XS.iloadN X8.here hx rfl (hb hby at_142) rfl ) ?_
  refine own_go (fun _ => XS.sipush X8.here hx rfl (hb hby at_143)) ?_
  refine own_go (fun _ => XS.iand X8.here hx rfl (hb hby at_146) rfl) ?_
  refine own_go (fun _ => XS.i2dS X8.here hx rfl (hb hby at_147) rfl rfl) ?_
  show own_R _ _ _ _ T8 (mkF m 148 #[.val (.int ct), .val (.int lo), .val (.int sp), .val (.int zz), .val (.int (0 : Int32)), .val (.double mi), .second, .val (.double mx), .second, .val (.ref a1), .unset, .unset, .unset] [(.double (FP.i2d (zz &&& (1023 : Int32)))), (.ref a8), (.ref a8)])
  obtain ⟨T10, h10, X10, e10, E10, A10, D10, -, st10⟩ := newO X8 hx hZ hown (hw 0 rfl) (hw 1 rfl) (hw 2 rfl) e8 (g := (mkF m 148 #[.val (.int ct), .val (.int lo), .val (.int sp), .val (.int zz), .val (.int (0 : Int32)), .val (.double mi), .second, .val (.double mx), .second, .val (.ref a1), .unset, .unset, .unset] [(.double (FP.i2d (zz &&& (1023 : Int32)))), (.ref a8), (.ref a8)])) rfl (hb hby at_148) (by decide) (by decide)
  obtain ⟨a10, g10⟩ : ∃ z, z = h8.size := ⟨_, rfl⟩
  rw [← g10] at A10 D10 st10
  refine own_go st10 ?_
  show own_R _ _ _ _ T10 (mkF m 151 #[.val (.int ct), .val (.int lo), .val (.int sp), .val (.int zz), .val (.int (0 : Int32)), .val (.double mi), .second, .val (.double mx), .second, .val (.ref a1), .unset, .unset, .unset] [(.ref a10), (.double (FP.i2d (zz &&& (1023 : Int32)))), (.ref a8), (.ref a8)])
  have g10n : n0 ≤ a10 := Nat.le_trans (r3_Od.1 ▸ r3_Od.2.1) (Nat.le_of_eq g10.symm)
  have na1_10 := own_nd (b := a10) r4_AL1.1.lt (Nat.le_of_eq g10.symm)
  have na8_10 := own_nd (b := a10) A8.lt (Nat.le_of_eq g10.symm)
  have r5_Od := r3_Od.ext E10
  have r6_AL1 := r4_AL1.ext E10
  have r7_CsafeZ := CsafeZ.ext E10
  have r8_Crobots := Crobots.ext E10
  have r9_Cfeeders := Cfeeders.ext E10
  have r10_Careas := Careas.ext E10
  have r11_CcoupleS := CcoupleS.ext E10
  have r12_Cgrippers := Cgrippers.ext E10
  have r13_Cports := Cports.ext E10
  have r14_Ec := A8.ext E10
  refine own_go (fun _ => XS.dup X10.here hx rfl (hb hby at_151) rfl rfl) ?_
  show own_R _ _ _ _ T10 (mkF m 152 #[.val (.int ct), .val (.int lo), .val (.int sp), .val (.int zz), .val (.int (0 : Int32)), .val (.double mi), .second, .val (.double mx), .second, .val (.ref a1), .unset, .unset, .unset] [(.ref a10), (.ref a10), (.double (FP.i2d (zz &&& (1023 : Int32)))), (.ref a8), (.ref a8)])
  obtain ⟨v100, T100, L100, X100, Q100, st100⟩ := own_callI X10 hx hZ hown (y := own_y18) rfl (hw 3 rfl) (hw 4 rfl) (hw 5 rfl) (hw 2 rfl) (by decide) (rmAL l Z a0 hw [] h10 n0 a10 g10n A10 (D10 (Or.inl (hw 25 rfl)) (ty := (.array (.object "java/lang/Object"))) (by decide)) (D10 (Or.inl (hw 69 rfl)) (ty := .int) (by decide)) (D10 (Or.inl (hw 22 rfl)) (ty := .int) (by decide)) de G.1 r5_Od) (W := 5) (g := (mkF m 152 #[.val (.int ct), .val (.int lo), .val (.int sp), .val (.int zz), .val (.int (0 : Int32)), .val (.double mi), .second, .val (.double mx), .second, .val (.ref a1), .unset, .unset, .unset] [(.ref a10), (.ref a10), (.double (FP.i2d (zz &&& (1023 : Int32)))), (.ref a8), (.ref a8)])) rfl (by rw [hml]; rfl) (a := a10) (argsL := []) (rest := [(.ref a10), (.double (FP.i2d (zz &&& (1023 : Int32)))), (.ref a8), (.ref a8)]) (lenOf pd___V rfl) rfl rfl (Nat.le_of_eq rfl) (hb hby at_152) e10 (by decide) (by decide) (by decide) (by decide)
  obtain ⟨rfl, N100q, K100, AL10⟩ := Q100
  have N100 := Fr.app N10 N100q
  refine own_go st100 ?_
  show own_R _ _ _ _ T100 (mkF m 155 #[.val (.int ct), .val (.int lo), .val (.int sp), .val (.int zz), .val (.int (0 : Int32)), .val (.double mi), .second, .val (.double mx), .second, .val (.ref a1), .unset, .unset, .unset] [(.ref a10), (.double (FP.i2d (zz &&& (1023 : Int32)))), (.ref a8), (.ref a8)])
  have r15_Od := r5_Od.keep K100 (fun z hz => by cases List.mem_singleton.mp hz; exact g10n)
  have r16_AL1 := r6_AL1.keep K100 (ninS na1_10 nin0)
  have r17_CsafeZ := r7_CsafeZ.keep K100 (ninS na8_10 nin0)
  have r18_Crobots := r8_Crobots.keep K100 (ninS na8_10 nin0)
  have r19_Cfeeders := r9_Cfeeders.keep K100 (ninS na8_10 nin0)
  have r20_Careas := r10_Careas.keep K100 (ninS na8_10 nin0)
  have r21_CcoupleS := r11_CcoupleS.keep K100 (ninS na8_10 nin0)
  have r22_Cgrippers := r12_Cgrippers.keep K100 (ninS na8_10 nin0)
  have r23_Cports := r13_Cports.keep K100 (ninS na8_10 nin0)
  have r24_Ec := r14_Ec.keep K100
  obtain ⟨T11, h11, X11, e11, E11, A11, D11, -, st11⟩ := newO X100 hx hZ hown (hw 0 rfl) (hw 1 rfl) (hw 2 rfl) rfl (g := (mkF m 155 #[.val (.int ct), .val (.int lo), .val (.int sp), .val (.int zz), .val (.int (0 : Int32)), .val (.double mi), .second, .val (.double mx), .second, .val (.ref a1), .unset, .unset, .unset] [(.ref a10), (.double (FP.i2d (zz &&& (1023 : Int32)))), (.ref a8), (.ref a8)])) rfl (hb hby at_155) (by decide) (by decide)
  obtain ⟨a11, g11⟩ : ∃ z, z = T100.heap.size := ⟨_, rfl⟩
  rw [← g11] at A11 D11 st11
  refine own_go st11 ?_
  show own_R _ _ _ _ T11 (mkF m 158 #[.val (.int ct), .val (.int lo), .val (.int sp), .val (.int zz), .val (.int (0 : Int32)), .val (.double mi), .second, .val (.double mx), .second, .val (.ref a1), .unset, .unset, .unset] [(.ref a11), (.ref a10), (.double (FP.i2d (zz &&& (1023 : Int32)))), (.ref a8), (.ref a8)])
  have g11n : n0 ≤ a11 := Nat.le_trans (r15_Od.1 ▸ r15_Od.2.1) (Nat.le_of_eq g11.symm)
  have na1_11 := own_nd (b := a11) r16_AL1.1.lt (Nat.le_of_eq g11.symm)
  have na8_11 := own_nd (b := a11) r24_Ec.lt (Nat.le_of_eq g11.symm)
  have na10_11 := own_nd (b := a11) AL10.1.lt (Nat.le_of_eq g11.symm)
  have r25_Od := r15_Od.ext E11
  have r26_AL1 := r16_AL1.ext E11
  have r27_CsafeZ := r17_CsafeZ.ext E11
  have r28_Crobots := r18_Crobots.ext E11
  have r29_Cfeeders := r19_Cfeeders.ext E11
  have r30_Careas := r20_Careas.ext E11
  have r31_CcoupleS := r21_CcoupleS.ext E11
  have r32_Cgrippers := r22_Cgrippers.ext E11
  have r33_Cports := r23_Cports.ext E11
  have r34_Ec := r24_Ec.ext E11
  have r35_AL10 := AL10.ext E11
  refine own_go (fun _ => XS.dup X11.here hx rfl (hb hby at_158) rfl rfl) ?_
  show own_R _ _ _ _ T11 (mkF m 159 #[.val (.int ct), .val (.int lo), .val (.int sp), .val (.int zz), .val (.int (0 : Int32)), .val (.double mi), .second, .val (.double mx), .second, .val (.ref a1), .unset, .unset, .unset] [(.ref a11), (.ref a11), (.ref a10), (.double (FP.i2d (zz &&& (1023 : Int32)))), (.ref a8), (.ref a8)])
  obtain ⟨v110, T110, L110, X110, Q110, st110⟩ := own_callI X11 hx hZ hown (y := own_y18) rfl (hw 3 rfl) (hw 4 rfl) (hw 5 rfl) (hw 2 rfl) (by decide) (rmAL l Z a0 hw [] h11 n0 a11 g11n A11 (D11 (Or.inl (hw 25 rfl)) (ty := (.array (.object "java/lang/Object"))) (by decide)) (D11 (Or.inl (hw 69 rfl)) (ty := .int) (by decide)) (D11 (Or.inl (hw 22 rfl)) (ty := .int) (by decide)) de G.1 r25_Od) (W := 6) (g := (mkF m 159 #[.val (.int ct), .val (.int lo), .val (.int sp), .val (.int zz), .val (.int (0 : Int32)), .val (.double mi), .second, .val (.double mx), .second, .val (.ref a1), .unset, .unset, .unset] [(.ref a11), (.ref a11), (.ref a10), (.double (FP.i2d (zz &&& (1023 : Int32)))), (.ref a8), (.ref a8)])) rfl (by rw [hml]; rfl) (a := a11) (argsL := []) (rest := [(.ref a11), (.ref a10), (.double (FP.i2d (zz &&& (1023 : Int32)))), (.ref a8), (.ref a8)]) (lenOf pd___V rfl) rfl rfl (Nat.le_of_eq rfl) (hb hby at_159) e11 (by decide) (by decide) (by decide) (by decide)
  obtain ⟨rfl, N110q, K110, AL11⟩ := Q110
  have N110 := Fr.app N100 N110q
  refine own_go st110 ?_
  show own_R _ _ _ _ T110 (mkF m 162 #[.val (.int ct), .val (.int lo), .val (.int sp), .val (.int zz), .val (.int (0 : Int32)), .val (.double mi), .second, .val (.double mx), .second, .val (.ref a1), .unset, .unset, .unset] [(.ref a11), (.ref a10), (.double (FP.i2d (zz &&& (1023 : Int32)))), (.ref a8), (.ref a8)])
  have r36_Od := r25_Od.keep K110 (fun z hz => by cases List.mem_singleton.mp hz; exact g11n)
  have r37_AL1 := r26_AL1.keep K110 (ninS na1_11 nin0)
  have r38_CsafeZ := r27_CsafeZ.keep K110 (ninS na8_11 nin0)
  have r39_Crobots := r28_Crobots.keep K110 (ninS na8_11 nin0)
  have r40_Cfeeders := r29_Cfeeders.keep K110 (ninS na8_11 nin0)
  have r41_Careas := r30_Careas.keep K110 (ninS na8_11 nin0)
  have r42_CcoupleS := r31_CcoupleS.keep K110 (ninS na8_11 nin0)
  have r43_Cgrippers := r32_Cgrippers.keep K110 (ninS na8_11 nin0)
  have r44_Cports := r33_Cports.keep K110 (ninS na8_11 nin0)
  have r45_Ec := r34_Ec.keep K110
  have r46_AL10 := r35_AL10.keep K110 (ninS na10_11 nin0)
  refine own_go (fun _ => XS.aload X110.here hx rfl (hb hby at_162) rfl rfl) ?_
  show own_R _ _ _ _ T110 (mkF m 164 #[.val (.int ct), .val (.int lo), .val (.int sp), .val (.int zz), .val (.int (0 : Int32)), .val (.double mi), .second, .val (.double mx), .second, .val (.ref a1), .unset, .unset, .unset] [(.ref a1), (.ref a11), (.ref a10), (.double (FP.i2d (zz &&& (1023 : Int32)))), (.ref a8), (.ref a8)])
  have lta := r45_Ec.lt
  obtain ⟨v12, T12, L12, X12, Q12, st12⟩ := own_callI X110 hx hZ hown (y := own_y1) rfl (hw 29 rfl) (hw 30 rfl) (hw 31 rfl) (hw 28 rfl) (by decide) (rmCe l Z a0 hw [] T110.heap n0 de kd el ea ka em mr G r36_Od a8 a10 a11 a1 _ g8n r45_Ec r38_CsafeZ r39_Crobots r40_Cfeeders r41_Careas r42_CcoupleS r43_Cgrippers r44_Cports r46_AL10.1 r46_AL10.2.2.1 AL11.1 AL11.2.2.1 (own_Qr (some (.ref el)) T110.heap n0) (rmCOE l Z a0 hw [] T110.heap n0 de kd el ea ka em mr G r36_Od a1 r37_AL1.1 r37_AL1.2.2.1) (fun _ _ _ q => ⟨el, q.1, q.2.1, by rw [q.2.2]; exact Keep.refl _ _⟩)) (W := 1) (g := (mkF m 164 #[.val (.int ct), .val (.int lo), .val (.int sp), .val (.int zz), .val (.int (0 : Int32)), .val (.double mi), .second, .val (.double mx), .second, .val (.ref a1), .unset, .unset, .unset] [(.ref a1), (.ref a11), (.ref a10), (.double (FP.i2d (zz &&& (1023 : Int32)))), (.ref a8), (.ref a8)])) rfl (by rw [hml]; rfl) (a := a8) (argsL := [(.double (FP.i2d (zz &&& (1023 : Int32)))), (.ref a10), (.ref a11), (.ref a1)]) (rest := [(.ref a8)]) (lenOf pd__DLjava_util_List_Ljava_util_List_Ljava_util_List__V rfl) rfl rfl (Nat.le_of_eq rfl) (hb hby at_164) rfl (by decide) (by decide) (by decide) (by decide)
  obtain ⟨x, h1c, L1c, rfl, N12q, K12, Ec12, Fa12, Qc, Kc⟩ := Q12
  have N12 := Fr.app N110 N12q
  refine own_go st12 ?_
  show own_R _ _ _ _ T12 (mkF m 167 #[.val (.int ct), .val (.int lo), .val (.int sp), .val (.int zz), .val (.int (0 : Int32)), .val (.double mi), .second, .val (.double mx), .second, .val (.ref a1), .unset, .unset, .unset] [(.ref a8)])
  obtain ⟨qx, -, -⟩ := Qc
  cases qx
  have r47_Od := r36_Od.keep K12 (fun z hz => by cases List.mem_singleton.mp hz; exact g8n)
  have I12 : own_IN Z T12.heap el ea ka (Int32.ofNat 0) [] := ⟨G.2.2.2.1.ext r47_Od.2, G.2.2.2.2.2.1.ext r47_Od.2, G.2.2.2.2.2.2.1.ext r47_Od.2⟩
  refine own_go (fun _ => XS.astore X12.here hx rfl (hb hby at_167) rfl rfl (l' := #[.val (.int ct), .val (.int lo), .val (.int sp), .val (.int zz), .val (.int (0 : Int32)), .val (.double mi), .second, .val (.double mx), .second, .val (.ref a1), .val (.ref a8), .unset, .unset]) rfl) ?_
  show own_R _ _ _ _ T12 (mkF m 169 #[.val (.int ct), .val (.int lo), .val (.int sp), .val (.int zz), .val (.int (0 : Int32)), .val (.double mi), .second, .val (.double mx), .second, .val (.ref a1), .val (.ref a8), .unset, .unset] [])
  obtain ⟨T13, h13, X13, e13, E13, A13, D13, -, st13⟩ := newO X12 hx hZ hown (hw 93 rfl) (hw 94 rfl) (hw 95 rfl) rfl (g := (mkF m 169 #[.val (.int ct), .val (.int lo), .val (.int sp), .val (.int zz), .val (.int (0 : Int32)), .val (.double mi), .second, .val (.double mx), .second, .val (.ref a1), .val (.ref a8), .unset, .unset] [])) rfl (hb hby at_169) (by decide) (by decide)
  obtain ⟨a13, g13⟩ : ∃ z, z = T12.heap.size := ⟨_, rfl⟩
  rw [← g13] at A13 D13 st13
  refine own_go st13 ?_
  show own_R _ _ _ _ T13 (mkF m 172 #[.val (.int ct), .val (.int lo), .val (.int sp), .val (.int zz), .val (.int (0 : Int32)), .val (.double mi), .second, .val (.double mx), .second, .val (.ref a1), .val (.ref a8), .unset, .unset] [(.ref a13)])
  have g13n : n0 ≤ a13 := Nat.le_trans (r47_Od.1 ▸ r47_Od.2.1) (Nat.le_of_eq g13.symm)
  have nce := own_nd (b := a13) Ec12.lt (Nat.le_of_eq g13.symm)
  have nxh := own_nd (b := a13) I12.1.lt (Nat.le_of_eq g13.symm)
  have nxah := own_nd (b := a13) I12.2.2.lt (Nat.le_of_eq g13.symm)
  have r48_Od := r47_Od.ext E13
  have r49_I := I12.ext E13
  have r50_Ec := Ec12.ext E13
  have r51_Fa := Fa12.ext E13
  refine own_go (fun _ => XS.dup X13.here hx rfl (hb hby at_172) rfl rfl) ?_
  refine own_go (fun _ => XS.aload X13.here hx rfl (hb hby at_173) rfl rfl) ?_
  show own_R _ _ _ _ T13 (mkF m 175 #[.val (.int ct), .val (.int lo), .val (.int sp), .val (.int zz), .val (.int (0 : Int32)), .val (.double mi), .second, .val (.double mx), .second, .val (.ref a1), .val (.ref a8), .unset, .unset] [(.ref a8), (.ref a13), (.ref a13)])
  obtain ⟨v14, T14, L14, X14, Q14, st14⟩ := own_callI X13 hx hZ hown (y := own_y4) rfl (hw 96 rfl) (hw 97 rfl) (hw 98 rfl) (hw 95 rfl) (by decide) (rmHi0 l Z a0 hw [] h13 n0 de kd el ea ka em mr G r48_Od r49_I cK M Si a13 a8 g13n A13 (D13 (Or.inr (hw 103 rfl)) (ty := (.object "java/util/List")) (by decide)) (D13 (Or.inr (hw 105 rfl)) (ty := (.object "com/example/zellwerk/zellwerk/model/Cell")) (by decide)) (D13 (Or.inr (hw 124 rfl)) (ty := (.array .int)) (by decide)) (D13 (Or.inr (hw 127 rfl)) (ty := (.array .double)) (by decide)) (D13 (Or.inr (hw 129 rfl)) (ty := (.array .double)) (by decide)) r50_Ec r51_Fa nce nxh nxah ) (W := 1) (g := (mkF m 175 #[.val (.int ct), .val (.int lo), .val (.int sp), .val (.int zz), .val (.int (0 : Int32)), .val (.double mi), .second, .val (.double mx), .second, .val (.ref a1), .val (.ref a8), .unset, .unset] [(.ref a8), (.ref a13), (.ref a13)])) rfl (by rw [hml]; rfl) (a := a13) (argsL := [(.ref a8)]) (rest := [(.ref a13)]) (lenOf pd__Lcom_example_zellwerk_zellwerk_model_Cell__V rfl) rfl rfl (Nat.le_of_eq rfl) (hb hby at_175) e13 (by decide) (by decide) (by decide) (by decide)
  obtain ⟨ua, ku, rfl, N14q, E14, F14, A14⟩ := Q14
  have N14 := Fr.app N12 N14q
  refine own_go st14 ?_
  show own_R _ _ _ _ T14 (mkF m 178 #[.val (.int ct), .val (.int lo), .val (.int sp), .val (.int zz), .val (.int (0 : Int32)), .val (.double mi), .second, .val (.double mx), .second, .val (.ref a1), .val (.ref a8), .unset, .unset] [(.ref a13)])
  refine own_go (fun _ => XS.astore X14.here hx rfl (hb hby at_178) rfl rfl (l' := #[.val (.int ct), .val (.int lo), .val (.int sp), .val (.int zz), .val (.int (0 : Int32)), .val (.double mi), .second, .val (.double mx), .second, .val (.ref a1), .val (.ref a8), .val (.ref a13), .unset]) rfl) ?_
  refine own_go (fun _ => XS.iload X14.here hx rfl (hb hby at_180) rfl ) ?_
  show own_R _ _ _ _ T14 (mkF m 182 #[.val (.int ct), .val (.int lo), .val (.int sp), .val (.int zz), .val (.int (0 : Int32)), .val (.double mi), .second, .val (.double mx), .second, .val (.ref a1), .val (.ref a8), .val (.ref a13), .unset] [(.int (0 : Int32))])
  refine own_go (fun _ => XS.ifYes X14.here hx rfl (pc0 := 182) (pc' := 189) rfl (hb hby at_182) rfl ((if0 _ _).trans (flt (by decide : ¬ ((0 : Int32) < (0 : Int32)))).2.2.2) (by decide) (by decide)) ?_
  show own_R _ _ _ _ T14 (mkF m 189 #[.val (.int ct), .val (.int lo), .val (.int sp), .val (.int zz), .val (.int (0 : Int32)), .val (.double mi), .second, .val (.double mx), .second, .val (.ref a1), .val (.ref a8), .val (.ref a13), .unset] [])
  refine own_go (fun _ => XS.iconst X14.here hx rfl (hb hby at_189)) ?_
  refine own_go (fun _ => XS.istore X14.here hx rfl (hb hby at_190) rfl (l' := #[.val (.int ct), .val (.int lo), .val (.int sp), .val (.int zz), .val (.int (0 : Int32)), .val (.double mi), .second, .val (.double mx), .second, .val (.ref a1), .val (.ref a8), .val (.ref a13), .val (.int (0 : Int32))]) rfl) ?_
  refine own_go (fun _ => XS.aload X14.here hx rfl (hb hby at_192) rfl rfl) ?_
  show own_R _ _ _ _ T14 (mkF m 194 #[.val (.int ct), .val (.int lo), .val (.int sp), .val (.int zz), .val (.int (0 : Int32)), .val (.double mi), .second, .val (.double mx), .second, .val (.ref a1), .val (.ref a8), .val (.ref a13), .val (.int (0 : Int32))] [(.ref a13)])
  obtain ⟨v15, T15, L15, X15, Q15, st15⟩ := own_callV X14 hx hZ hown (y := own_y5) (hw 188 rfl) (hw 189 rfl) (hw 191 rfl) (hw 190 rfl) (hw 192 rfl) (hw 95 rfl) (by decide) (rmAny0 l Z a0 hw [] T14.heap n0 a13 ua ku F14 A14) E14 (W := 0) (g := (mkF m 194 #[.val (.int ct), .val (.int lo), .val (.int sp), .val (.int zz), .val (.int (0 : Int32)), .val (.double mi), .second, .val (.double mx), .second, .val (.ref a1), .val (.ref a8), .val (.ref a13), .val (.int (0 : Int32))] [(.ref a13)])) rfl (by rw [hml]; rfl) (b := a13) (argsL := []) (rest := []) (lenOf pd___Z rfl) rfl rfl (Nat.le_of_eq rfl) (hb hby at_194) rfl (by decide) (by decide) (by decide) (by decide)
  obtain ⟨rfl, N15q, e15⟩ := Q15
  have N15 := Fr.app N14 N15q
  refine own_go st15 ?_
  show own_R _ _ _ _ T15 (mkF m 197 #[.val (.int ct), .val (.int lo), .val (.int sp), .val (.int zz), .val (.int (0 : Int32)), .val (.double mi), .second, .val (.double mx), .second, .val (.ref a1), .val (.ref a8), .val (.ref a13), .val (.int (0 : Int32))] [(.int (0 : Int32))])
  refine own_go (fun _ => XS.iload X15.here hx rfl (hb hby at_197) rfl ) ?_
  show own_R _ _ _ _ T15 (mkF m 199 #[.val (.int ct), .val (.int lo), .val (.int sp), .val (.int zz), .val (.int (0 : Int32)), .val (.double mi), .second, .val (.double mx), .second, .val (.ref a1), .val (.ref a8), .val (.ref a13), .val (.int (0 : Int32))] [(.int (0 : Int32)), (.int (0 : Int32))])
  refine own_go (fun _ => XS.icmpNo X15.here hx rfl (hb hby at_199) rfl (teq (rfl : (0 : Int32) = (0 : Int32))).2) ?_
  show own_R _ _ _ _ T15 (mkF m 202 #[.val (.int ct), .val (.int lo), .val (.int sp), .val (.int zz), .val (.int (0 : Int32)), .val (.double mi), .second, .val (.double mx), .second, .val (.ref a1), .val (.ref a8), .val (.ref a13), .val (.int (0 : Int32))] [])
  refine own_go (fun _ => XS.iconst X15.here hx rfl (hb hby at_202)) ?_
  refine own_go (fun _ => XS.goto X15.here hx rfl (pc0 := 203) (pc' := 207) rfl (hb hby at_203) (by decide) (by decide)) ?_
  show own_R _ _ _ _ T15 (mkF m 207 #[.val (.int ct), .val (.int lo), .val (.int sp), .val (.int zz), .val (.int (0 : Int32)), .val (.double mi), .second, .val (.double mx), .second, .val (.ref a1), .val (.ref a8), .val (.ref a13), .val (.int (0 : Int32))] [(.int (1 : Int32))])
  exact own_endN X15 (some (.int (nar .boolean (1 : Int32)))) (fun h => by rw [hret] at h; cases h) hlk (fun fs hr => retN X15 hx (t := .boolean) hret (by simp) (hb hby at_207) hr) ⟨rfl, N15⟩ (by decide) (by decide)
set_option maxRecDepth 65536 in
set_option maxHeartbeats 80000000 in
theorem rm0_1 (l : Launch) (Z : State) (a0 : Array Value) (hw : own_T a0 Z) (ws : List Jvm.Cond) (h0 : Heap) (n0 : Nat) (de : Addr) (kd : ClassId) (el ea : Addr) (ka : ClassId) (em mr : Addr) (G : own_G Z de kd el ea ka em mr) (Od : Old Z n0 h0) (zc : Int32) (OS : Sta Z Z.heap "java/lang/String" "COMPACT_STRINGS" "Z" (.int zc)) (hzc : ¬ zc = 0) (ct lo sp zz : Int32) (hn : (ct &&& (3 : Int32)) = (1 : Int32))  :
    own_CW l Z x code maxLocals ret ws room_1 #[(.int ct), (.int lo), (.int sp), (.int zz)] h0 (own_Q0 n0) := by
  refine own_bodyW (ls := #[.val (.int ct), .val (.int lo), .val (.int sp), .val (.int zz), .unset, .unset, .unset, .unset, .unset, .unset, .unset, .unset, .unset]) pn_0 (fun m => by first | (simp [entryFrame, mkF, argsToLocals, Value.category, maxLocals]; done) | rfl) ?_
  intro p e s m below meth c T0 hZ hx hby hml hown hnm hret hlk X0 e0
  replace hml : c.maxLocals = 13 := hml
  have N0 := Fr.nil n0
  obtain ⟨cK, M, Si⟩ := own_lam (hw 134 rfl) (hw 137 rfl) (hw 342 rfl) (hw 344 rfl) (hw 194 rfl)
  refine own_go (fun _ => XS.iloadN X0.here hx rfl (hb hby at_0) rfl ) ?_
  refine own_go (fun _ => XS.iconst X0.here hx rfl (hb hby at_1)) ?_
  refine own_go (fun _ => XS.iand X0.here hx rfl (hb hby at_2) rfl) ?_
  show own_R _ _ _ _ T0 (mkF m 3 #[.val (.int ct), .val (.int lo), .val (.int sp), .val (.int zz), .unset, .unset, .unset, .unset, .unset, .unset, .unset, .unset, .unset] [(.int (ct &&& (3 : Int32)))])
  rw [hn]
  show own_R _ _ _ _ T0 (mkF m 3 #[.val (.int ct), .val (.int lo), .val (.int sp), .val (.int zz), .unset, .unset, .unset, .unset, .unset, .unset, .unset, .unset, .unset] [(.int (1 : Int32))])
  refine own_go (fun _ => XS.istore X0.here hx rfl (hb hby at_3) rfl (l' := #[.val (.int ct), .val (.int lo), .val (.int sp), .val (.int zz), .val (.int (1 : Int32)), .unset, .unset, .unset, .unset, .unset, .unset, .unset, .unset]) rfl) ?_
  show own_R _ _ _ _ T0 (mkF m 5 #[.val (.int ct), .val (.int lo), .val (.int sp), .val (.int zz), .val (.int (1 : Int32)), .unset, .unset, .unset, .unset, .unset, .unset, .unset, .unset] [])
  refine own_go (fun _ => XS.iloadN X0.here hx rfl (hb hby at_5) rfl ) ?_
  refine own_go (fun _ => XS.sipush X0.here hx rfl (hb hby at_6)) ?_
  refine own_go (fun _ => XS.iand X0.here hx rfl (hb hby at_9) rfl) ?_
  refine own_go (fun _ => XS.i2dS X0.here hx rfl (hb hby at_10) rfl rfl) ?_
  refine own_go (fun _ => XS.dstore X0.here hx rfl (hb hby at_11) rfl (l' := #[.val (.int ct), .val (.int lo), .val (.int sp), .val (.int zz), .val (.int (1 : Int32)), .val (.double (FP.i2d (lo &&& (255 : Int32)))), .second, .unset, .unset, .unset, .unset, .unset, .unset]) rfl) ?_
  refine own_go (fun _ => XS.dload X0.here hx rfl (hb hby at_13) rfl ) ?_
  refine own_go (fun _ => XS.iloadN X0.here hx rfl (hb hby at_15) rfl ) ?_
  refine own_go (fun _ => XS.sipush X0.here hx rfl (hb hby at_16)) ?_
  refine own_go (fun _ => XS.iand X0.here hx rfl (hb hby at_19) rfl) ?_
  show own_R _ _ _ _ T0 (mkF m 20 #[.val (.int ct), .val (.int lo), .val (.int sp), .val (.int zz), .val (.int (1 : Int32)), .val (.double (FP.i2d (lo &&& (255 : Int32)))), .second, .unset, .unset, .unset, .unset, .unset, .unset] [(.int (sp &&& (255 : Int32))), (.double (FP.i2d (lo &&& (255 : Int32))))])
  refine own_go (fun _ => XS.i2dS X0.here hx rfl (hb hby at_20) rfl rfl) ?_
  refine own_go (fun _ => XS.daddS X0.here hx rfl (hb hby at_21) rfl (own_sumNN _ _) rfl) ?_
  refine own_go (fun _ => XS.dstore X0.here hx rfl (hb hby at_22) rfl (l' := #[.val (.int ct), .val (.int lo), .val (.int sp), .val (.int zz), .val (.int (1 : Int32)), .val (.double (FP.i2d (lo &&& (255 : Int32)))), .second, .val (.double (FP.dadd (FP.i2d (lo &&& (255 : Int32))) (FP.i2d (sp &&& (255 : Int32))))), .second, .unset, .unset, .unset, .unset]) rfl) ?_
  show own_R _ _ _ _ T0 (mkF m 24 #[.val (.int ct), .val (.int lo), .val (.int sp), .val (.int zz), .val (.int (1 : Int32)), .val (.double (FP.i2d (lo &&& (255 : Int32)))), .second, .val (.double (FP.dadd (FP.i2d (lo &&& (255 : Int32))) (FP.i2d (sp &&& (255 : Int32))))), .second, .unset, .unset, .unset, .unset] [])
  generalize hmx : (FP.dadd (FP.i2d (lo &&& (255 : Int32))) (FP.i2d (sp &&& (255 : Int32)))) = mx
  show own_R _ _ _ _ T0 (mkF m 24 #[.val (.int ct), .val (.int lo), .val (.int sp), .val (.int zz), .val (.int (1 : Int32)), .val (.double (FP.i2d (lo &&& (255 : Int32)))), .second, .val (.double mx), .second, .unset, .unset, .unset, .unset] [])
  generalize hmi : (FP.i2d (lo &&& (255 : Int32))) = mi
  show own_R _ _ _ _ T0 (mkF m 24 #[.val (.int ct), .val (.int lo), .val (.int sp), .val (.int zz), .val (.int (1 : Int32)), .val (.double mi), .second, .val (.double mx), .second, .unset, .unset, .unset, .unset] [])
  obtain ⟨T1, h1, X1, e1, E1, A1, D1, -, st1⟩ := newO X0 hx hZ hown (hw 0 rfl) (hw 1 rfl) (hw 2 rfl) e0 (g := (mkF m 24 #[.val (.int ct), .val (.int lo), .val (.int sp), .val (.int zz), .val (.int (1 : Int32)), .val (.double mi), .second, .val (.double mx), .second, .unset, .unset, .unset, .unset] [])) rfl (hb hby at_24) (by decide) (by decide)
  obtain ⟨a1, g1⟩ : ∃ z, z = h0.size := ⟨_, rfl⟩
  rw [← g1] at A1 D1 st1
  refine own_go st1 ?_
  show own_R _ _ _ _ T1 (mkF m 27 #[.val (.int ct), .val (.int lo), .val (.int sp), .val (.int zz), .val (.int (1 : Int32)), .val (.double mi), .second, .val (.double mx), .second, .unset, .unset, .unset, .unset] [(.ref a1)])
  have g1n : n0 ≤ a1 := Nat.le_trans (Od.1 ▸ Od.2.1) (Nat.le_of_eq g1.symm)
  have r1_Od := Od.ext E1
  refine own_go (fun _ => XS.dup X1.here hx rfl (hb hby at_27) rfl rfl) ?_
  show own_R _ _ _ _ T1 (mkF m 28 #[.val (.int ct), .val (.int lo), .val (.int sp), .val (.int zz), .val (.int (1 : Int32)), .val (.double mi), .second, .val (.double mx), .second, .unset, .unset, .unset, .unset] [(.ref a1), (.ref a1)])
  obtain ⟨v10, T10, L10, X10, Q10, st10⟩ := own_callI X1 hx hZ hown (y := own_y18) rfl (hw 3 rfl) (hw 4 rfl) (hw 5 rfl) (hw 2 rfl) (by decide) (rmAL l Z a0 hw [] h1 n0 a1 g1n A1 (D1 (Or.inl (hw 25 rfl)) (ty := (.array (.object "java/lang/Object"))) (by decide)) (D1 (Or.inl (hw 69 rfl)) (ty := .int) (by decide)) (D1 (Or.inl (hw 22 rfl)) (ty := .int) (by decide)) de G.1 r1_Od) (W := 1) (g := (mkF m 28 #[.val (.int ct), .val (.int lo), .val (.int sp), .val (.int zz), .val (.int (1 : Int32)), .val (.double mi), .second, .val (.double mx), .second, .unset, .unset, .unset, .unset] [(.ref a1), (.ref a1)])) rfl (by rw [hml]; rfl) (a := a1) (argsL := []) (rest := [(.ref a1)]) (lenOf pd___V rfl) rfl rfl (Nat.le_of_eq rfl) (hb hby at_28) e1 (by decide) (by decide) (by decide) (by decide)
  obtain ⟨rfl, N10q, K10, AL1⟩ := Q10
  have N10 := Fr.app N0 N10q
  refine own_go st10 ?_
  show own_R _ _ _ _ T10 (mkF m 31 #[.val (.int ct), .val (.int lo), .val (.int sp), .val (.int zz), .val (.int (1 : Int32)), .val (.double mi), .second, .val (.double mx), .second, .unset, .unset, .unset, .unset] [(.ref a1)])
  have r2_Od := r1_Od.keep K10 (fun z hz => by cases List.mem_singleton.mp hz; exact g1n)
  refine own_go (fun _ => XS.astore X10.here hx rfl (hb hby at_31) rfl rfl (l' := #[.val (.int ct), .val (.int lo), .val (.int sp), .val (.int zz), .val (.int (1 : Int32)), .val (.double mi), .second, .val (.double mx), .second, .val (.ref a1), .unset, .unset, .unset]) rfl) ?_
  refine own_go (fun _ => XS.iload X10.here hx rfl (hb hby at_33) rfl ) ?_
  refine own_go (fun _ => XS.iconst X10.here hx rfl (hb hby at_35)) ?_
  show own_R _ _ _ _ T10 (mkF m 36 #[.val (.int ct), .val (.int lo), .val (.int sp), .val (.int zz), .val (.int (1 : Int32)), .val (.double mi), .second, .val (.double mx), .second, .val (.ref a1), .unset, .unset, .unset] [(.int (1 : Int32)), (.int (1 : Int32))])
  refine own_go (fun _ => XS.icmpNo X10.here hx rfl (hb hby at_36) rfl (flt (by decide : ¬ ((1 : Int32) < (1 : Int32)))).1) ?_
  show own_R _ _ _ _ T10 (mkF m 39 #[.val (.int ct), .val (.int lo), .val (.int sp), .val (.int zz), .val (.int (1 : Int32)), .val (.double mi), .second, .val (.double mx), .second, .val (.ref a1), .unset, .unset, .unset] [])
  refine own_go (fun _ => XS.aload X10.here hx rfl (hb hby at_39) rfl rfl) ?_
  show own_R _ _ _ _ T10 (mkF m 41 #[.val (.int ct), .val (.int lo), .val (.int sp), .val (.int zz), .val (.int (1 : Int32)), .val (.double mi), .second, .val (.double mx), .second, .val (.ref a1), .unset, .unset, .unset] [(.ref a1)])
  obtain ⟨T4, h4, X4, e4, E4, A4, D4, -, st4⟩ := newO X10 hx hZ hown (hw 193 rfl) (hw 194 rfl) (hw 195 rfl) rfl (g := (mkF m 41 #[.val (.int ct), .val (.int lo), .val (.int sp), .val (.int zz), .val (.int (1 : Int32)), .val (.double mi), .second, .val (.double mx), .second, .val (.ref a1), .unset, .unset, .unset] [(.ref a1)])) rfl (hb hby at_41) (by decide) (by decide)
  obtain ⟨a4, g4⟩ : ∃ z, z = T10.heap.size := ⟨_, rfl⟩
  rw [← g4] at A4 D4 st4
  refine own_go st4 ?_
  show own_R _ _ _ _ T4 (mkF m 44 #[.val (.int ct), .val (.int lo), .val (.int sp), .val (.int zz), .val (.int (1 : Int32)), .val (.double mi), .second, .val (.double mx), .second, .val (.ref a1), .unset, .unset, .unset] [(.ref a4), (.ref a1)])
  have g4n : n0 ≤ a4 := Nat.le_trans (r2_Od.1 ▸ r2_Od.2.1) (Nat.le_of_eq g4.symm)
  have n1_4 := own_nd (b := a4) AL1.1.lt (Nat.le_of_eq g4.symm)
  have r3_Od := r2_Od.ext E4
  have r4_AL1 := AL1.ext E4
  refine own_go (fun _ => XS.dup X4.here hx rfl (hb hby at_44) rfl rfl) ?_
  refine own_go (fun _ => XS.bipush X4.here hx rfl (hb hby at_45)) ?_
  show own_R _ _ _ _ T4 (mkF m 47 #[.val (.int ct), .val (.int lo), .val (.int sp), .val (.int zz), .val (.int (1 : Int32)), .val (.double mi), .second, .val (.double mx), .second, .val (.ref a1), .unset, .unset, .unset] [(.int (97 : Int32)), (.ref a4), (.ref a4), (.ref a1)])
  obtain ⟨v24, T24, L24, X24, Q24, st24⟩ := own_callS X4 hx hZ hown (y := own_y13) (hw 196 rfl) (hw 197 rfl) (hw 198 rfl) (hw 199 rfl) (by decide) (rmVO l Z a0 hw [] h4 n0 zc OS hzc r3_Od 97 (by decide) (r3_Od.1 ▸ r3_Od.2.1)) (W := 3) (g := (mkF m 47 #[.val (.int ct), .val (.int lo), .val (.int sp), .val (.int zz), .val (.int (1 : Int32)), .val (.double mi), .second, .val (.double mx), .second, .val (.ref a1), .unset, .unset, .unset] [(.int (97 : Int32)), (.ref a4), (.ref a4), (.ref a1)])) rfl (by rw [hml]; rfl) (argsL := [(.int (97 : Int32))]) (rest := [(.ref a4), (.ref a4), (.ref a1)]) (lenOf pd__C_Ljava_lang_String_ rfl) rfl rfl (Nat.le_of_eq rfl) (hb hby at_47) e4 (by decide) (by decide) (by decide) (by decide)
  obtain ⟨s4, rfl, N24q, K24, gs4⟩ := Q24
  have N24 := Fr.app N10 N24q
  refine own_go st24 ?_
  show own_R _ _ _ _ T24 (mkF m 50 #[.val (.int ct), .val (.int lo), .val (.int sp), .val (.int zz), .val (.int (1 : Int32)), .val (.double mi), .second, .val (.double mx), .second, .val (.ref a1), .unset, .unset, .unset] [(.ref s4), (.ref a4), (.ref a4), (.ref a1)])
  have r5_Od := r3_Od.keep K24 all0
  have r6_AL1 := r4_AL1.keep K24 nin0
  refine own_go (fun _ => XS.dload X24.here hx rfl (hb hby at_50) rfl ) ?_
  refine own_go (fun _ => XS.dload X24.here hx rfl (hb hby at_52) rfl ) ?_
  refine own_go (fun _ => XS.dload X24.here hx rfl (hb hby at_54) rfl ) ?_
  refine own_go (fun _ => XS.dload X24.here hx rfl (hb hby at_56) rfl ) ?_
  refine own_go (fun _ => XS.aconstNull X24.here hx rfl (hb hby at_58)) ?_
  show own_R _ _ _ _ T24 (mkF m 59 #[.val (.int ct), .val (.int lo), .val (.int sp), .val (.int zz), .val (.int (1 : Int32)), .val (.double mi), .second, .val (.double mx), .second, .val (.ref a1), .unset, .unset, .unset] [.null, (.double mx), (.double mi), (.double mx), (.double mi), (.ref s4), (.ref a4), (.ref a4), (.ref a1)])
  obtain ⟨v34, T34, L34, X34, Q34, st34⟩ := own_callI X24 hx hZ hown (y := own_y0) rfl (hw 220 rfl) (hw 221 rfl) (hw 222 rfl) (hw 195 rfl) (by decide) (rmAr l Z a0 hw [] T24.heap n0 a4 s4 mi mx mi mx g4n (A4.keep K24) ((D4 (Or.inr (hw 225 rfl)) (ty := (.object "java/lang/String")) (by decide)).keep K24 nin0) ((D4 (Or.inr (hw 227 rfl)) (ty := .double) (by decide)).keep K24 nin0) ((D4 (Or.inr (hw 229 rfl)) (ty := .double) (by decide)).keep K24 nin0) ((D4 (Or.inr (hw 231 rfl)) (ty := .double) (by decide)).keep K24 nin0) ((D4 (Or.inr (hw 233 rfl)) (ty := .double) (by decide)).keep K24 nin0) ((D4 (Or.inr (hw 235 rfl)) (ty := (.object "java/util/Optional")) (by decide)).keep K24 nin0)) (W := 2) (g := (mkF m 59 #[.val (.int ct), .val (.int lo), .val (.int sp), .val (.int zz), .val (.int (1 : Int32)), .val (.double mi), .second, .val (.double mx), .second, .val (.ref a1), .unset, .unset, .unset] [.null, (.double mx), (.double mi), (.double mx), (.double mi), (.ref s4), (.ref a4), (.ref a4), (.ref a1)])) rfl (by rw [hml]; rfl) (a := a4) (argsL := [(.ref s4), (.double mi), (.double mx), (.double mi), (.double mx), .null]) (rest := [(.ref a4), (.ref a1)]) (lenOf pd__Ljava_lang_String_DDDDLjava_util_Optional__V rfl) rfl rfl (Nat.le_of_eq rfl) (hb hby at_59) rfl (by decide) (by decide) (by decide) (by decide)
  obtain ⟨rfl, N34q, K34, Ey0⟩ := Q34
  have N34 := Fr.app N24 N34q
  refine own_go st34 ?_
  show own_R _ _ _ _ T34 (mkF m 62 #[.val (.int ct), .val (.int lo), .val (.int sp), .val (.int zz), .val (.int (1 : Int32)), .val (.double mi), .second, .val (.double mx), .second, .val (.ref a1), .unset, .unset, .unset] [(.ref a4), (.ref a1)])
  have r7_Od := r5_Od.keep K34 (fun z hz => by cases List.mem_singleton.mp hz; exact g4n)
  have r8_AL1 := r6_AL1.keep K34 (ninS n1_4 nin0)
  obtain ⟨v44, T44, L44, X44, Q44, st44⟩ := own_backF X34 hx hZ hown (xi := own_y48) (hw 236 rfl) (hw 237 rfl) (mvT hZ (hw 238 rfl)) (hw 239 rfl) (hw 240 rfl) (hw 241 rfl) (hw 242 rfl) (hw 243 rfl) (by decide) (backOf (W := 0) (rmA1F l Z a0 hw [] T34.heap n0 a1 g1n (r7_Od.1 ▸ r7_Od.2.1) 0 de kd r8_AL1 G.1 (G.2.1.ext r7_Od.2) r7_Od a4 "com/example/zellwerk/zellwerk/model/Area" Ey0 (hw 268 rfl)) hZ (hw 244 rfl) (hw 2 rfl) (by decide) (by decide)) (b := a1) r8_AL1.1 (g := (mkF m 62 #[.val (.int ct), .val (.int lo), .val (.int sp), .val (.int zz), .val (.int (1 : Int32)), .val (.double mi), .second, .val (.double mx), .second, .val (.ref a1), .unset, .unset, .unset] [(.ref a4), (.ref a1)])) rfl (by rw [hml]; rfl) (argsL := [(.ref a4)]) (rest := []) (lenOf pd__Ljava_lang_Object__Z rfl) rfl rfl (Nat.le_of_eq rfl) (hb hby at_62) rfl (by decide) (by decide)
  obtain ⟨ed0, k00, rfl, N44q, K44, ged0, gel0, L40⟩ := Q44
  have N44 := Fr.app N34 N44q
  refine own_go st44 ?_
  show own_R _ _ _ _ T44 (mkF m 67 #[.val (.int ct), .val (.int lo), .val (.int sp), .val (.int zz), .val (.int (1 : Int32)), .val (.double mi), .second, .val (.double mx), .second, .val (.ref a1), .unset, .unset, .unset] [(.int (1 : Int32))])
  have r9_Od := r7_Od.keep K44 (fun z hz => by cases List.mem_singleton.mp hz; exact g1n)
  have r10_Ey0 := Ey0.keep K44
  refine own_go (fun _ => XS.pop X44.here hx rfl (hb hby at_67) rfl rfl) ?_
  refine own_go (fun _ => XS.iload X44.here hx rfl (hb hby at_68) rfl ) ?_
  refine own_go (fun _ => XS.iconst X44.here hx rfl (hb hby at_70)) ?_
  show own_R _ _ _ _ T44 (mkF m 71 #[.val (.int ct), .val (.int lo), .val (.int sp), .val (.int zz), .val (.int (1 : Int32)), .val (.double mi), .second, .val (.double mx), .second, .val (.ref a1), .unset, .unset, .unset] [(.int (2 : Int32)), (.int (1 : Int32))])
  refine own_go (fun _ => XS.icmpYes X44.here hx rfl (pc0 := 71) (pc' := 103) rfl (hb hby at_71) rfl (tlt (by decide : (1 : Int32) < (2 : Int32))).1 (by decide) (by decide)) ?_
  show own_R _ _ _ _ T44 (mkF m 103 #[.val (.int ct), .val (.int lo), .val (.int sp), .val (.int zz), .val (.int (1 : Int32)), .val (.double mi), .second, .val (.double mx), .second, .val (.ref a1), .unset, .unset, .unset] [])
  refine own_go (fun _ => XS.iload X44.here hx rfl (hb hby at_103) rfl ) ?_
  refine own_go (fun _ => XS.iconst X44.here hx rfl (hb hby at_105)) ?_
  show own_R _ _ _ _ T44 (mkF m 106 #[.val (.int ct), .val (.int lo), .val (.int sp), .val (.int zz), .val (.int (1 : Int32)), .val (.double mi), .second, .val (.double mx), .second, .val (.ref a1), .unset, .unset, .unset] [(.int (3 : Int32)), (.int (1 : Int32))])
  refine own_go (fun _ => XS.icmpYes X44.here hx rfl (pc0 := 106) (pc' := 138) rfl (hb hby at_106) rfl (tlt (by decide : (1 : Int32) < (3 : Int32))).1 (by decide) (by decide)) ?_
  show own_R _ _ _ _ T44 (mkF m 138 #[.val (.int ct), .val (.int lo), .val (.int sp), .val (.int zz), .val (.int (1 : Int32)), .val (.double mi), .second, .val (.double mx), .second, .val (.ref a1), .unset, .unset, .unset] [])
  obtain ⟨T8, h8, X8, e8, E8, A8, D8, -, st8⟩ := newO X44 hx hZ hown (hw 26 rfl) (hw 27 rfl) (hw 28 rfl) rfl (g := (mkF m 138 #[.val (.int ct), .val (.int lo), .val (.int sp), .val (.int zz), .val (.int (1 : Int32)), .val (.double mi), .second, .val (.double mx), .second, .val (.ref a1), .unset, .unset, .unset] [])) rfl (hb hby at_138) (by decide) (by decide)
  obtain ⟨a8, g8⟩ : ∃ z, z = T44.heap.size := ⟨_, rfl⟩
  rw [← g8] at A8 D8 st8
  refine own_go st8 ?_
  show own_R _ _ _ _ T8 (mkF m 141 #[.val (.int ct), .val (.int lo), .val (.int sp), .val (.int zz), .val (.int (1 : Int32)), .val (.double mi), .second, .val (.double mx), .second, .val (.ref a1), .unset, .unset, .unset] [(.ref a8)])
  have g8n : n0 ≤ a8 := Nat.le_trans (r9_Od.1 ▸ r9_Od.2.1) (Nat.le_of_eq g8.symm)
  have r11_Od := r9_Od.ext E8
  have r12_Ey0 := r10_Ey0.ext E8
  have r13_L := L40.ext E8
  have CsafeZ := D8 (Or.inr (hw 80 rfl)) (ty := .double) (by decide)
  have Crobots := D8 (Or.inr (hw 82 rfl)) (ty := (.object "java/util/List")) (by decide)
  have Cfeeders := D8 (Or.inr (hw 84 rfl)) (ty := (.object "java/util/List")) (by decide)
  have Careas := D8 (Or.inr (hw 86 rfl)) (ty := (.object "java/util/List")) (by decide)
  have CcoupleS := D8 (Or.inr (hw 88 rfl)) (ty := .double) (by decide)
  have Cgrippers := D8 (Or.inr (hw 90 rfl)) (ty := (.object "java/util/List")) (by decide)
  have Cports := D8 (Or.inr (hw 92 rfl)) (ty := (.object "java/util/List")) (by decide)
  refine own_go (fun _ => XS.dup X8.here hx rfl (hb hby at_141) rfl rfl) ?_
  refine own_go (fun _ => XS.iloadN X8.here hx rfl (hb hby at_142) rfl ) ?_
  refine own_go (fun _ => XS.sipush X8.here hx rfl (hb hby at_143)) ?_
  refine own_go (fun _ => XS.iand X8.here hx rfl (hb hby at_146) rfl) ?_
  refine own_go (fun _ => XS.i2dS X8.here hx rfl (hb hby at_147) rfl rfl) ?_
  show own_R _ _ _ _ T8 (mkF m 148 #[.val (.int ct), .val (.int lo), .val (.int sp), .val (.int zz), .val (.int (1 : Int32)), .val (.double mi), .second, .val (.double mx), .second, .val (.ref a1), .unset, .unset, .unset] [(.double (FP.i2d (zz &&& (1023 : Int32)))), (.ref a8), (.ref a8)])
  obtain ⟨T10, h10, X10, e10, E10, A10, D10, -, st10⟩ := newO X8 hx hZ hown (hw 0 rfl) (hw 1 rfl) (hw 2 rfl) e8 (g := (mkF m 148 #[.val (.int ct), .val (.int lo), .val (.int sp), .val (.int zz), .val (.int (1 : Int32)), .val (.double mi), .second, .val (.double mx), .second, .val (.ref a1), .unset, .unset, .unset] [(.double (FP.i2d (zz &&& (1023 : Int32)))), (.ref a8), (.ref a8)])) rfl (hb hby at_148) (by decide) (by decide)
  obtain ⟨a10, g10⟩ : ∃ z, z = h8.size := ⟨_, rfl⟩
  rw [← g10] at A10 D10 st10
  refine own_go st10 ?_
  show own_R _ _ _ _ T10 (mkF m 151 #[.val (.int ct), .val (.int lo), .val (.int sp), .val (.int zz), .val (.int (1 : Int32)), .val (.double mi), .second, .val (.double mx), .second, .val (.ref a1), .unset, .unset, .unset] [(.ref a10), (.double (FP.i2d (zz &&& (1023 : Int32)))), (.ref a8), (.ref a8)])
  have g10n : n0 ≤ a10 := Nat.le_trans (r11_Od.1 ▸ r11_Od.2.1) (Nat.le_of_eq g10.symm)
  have na4_10 := own_nd (b := a10) r12_Ey0.lt (Nat.le_of_eq g10.symm)
  have na1_10 := own_nd (b := a10) r13_L.1.1.lt (Nat.le_of_eq g10.symm)
  have ned0_10 := own_nd (b := a10) r13_L.2.1.lt (Nat.le_of_eq g10.symm)
  have na8_10 := own_nd (b := a10) A8.lt (Nat.le_of_eq g10.symm)
  have r14_Od := r11_Od.ext E10
  have r15_Ey0 := r12_Ey0.ext E10
  have r16_L := r13_L.ext E10
  have r17_CsafeZ := CsafeZ.ext E10
  have r18_Crobots := Crobots.ext E10
  have r19_Cfeeders := Cfeeders.ext E10
  have r20_Careas := Careas.ext E10
  have r21_CcoupleS := CcoupleS.ext E10
  have r22_Cgrippers := Cgrippers.ext E10
  have r23_Cports := Cports.ext E10
  have r24_Ec := A8.ext E10
  refine own_go (fun _ => XS.dup X10.here hx rfl (hb hby at_151) rfl rfl) ?_
  show own_R _ _ _ _ T10 (mkF m 152 #[.val (.int ct), .val (.int lo), .val (.int sp), .val (.int zz), .val (.int (1 : Int32)), .val (.double mi), .second, .val (.double mx), .second, .val (.ref a1), .unset, .unset, .unset] [(.ref a10), (.ref a10), (.double (FP.i2d (zz &&& (1023 : Int32)))), (.ref a8), (.ref a8)])
  obtain ⟨v100, T100, L100, X100, Q100, st100⟩ := own_callI X10 hx hZ hown (y := own_y18) rfl (hw 3 rfl) (hw 4 rfl) (hw 5 rfl) (hw 2 rfl) (by decide) (rmAL l Z a0 hw [] h10 n0 a10 g10n A10 (D10 (Or.inl (hw 25 rfl)) (ty := (.array (.object "java/lang/Object"))) (by decide)) (D10 (Or.inl (hw 69 rfl)) (ty := .int) (by decide)) (D10 (Or.inl (hw 22 rfl)) (ty := .int) (by decide)) de G.1 r14_Od) (W := 5) (g := (mkF m 152 #[.val (.int ct), .val (.int lo), .val (.int sp), .val (.int zz), .val (.int (1 : Int32)), .val (.double mi), .second, .val (.double mx), .second, .val (.ref a1), .unset, .unset, .unset] [(.ref a10), (.ref a10), (.double (FP.i2d (zz &&& (1023 : Int32)))), (.ref a8), (.ref a8)])) rfl (by rw [hml]; rfl) (a := a10) (argsL := []) (rest := [(.ref a10), (.double (FP.i2d (zz &&& (1023 : Int32)))), (.ref a8), (.ref a8)]) (lenOf pd___V rfl) rfl rfl (Nat.le_of_eq rfl) (hb hby at_152) e10 (by decide) (by decide) (by decide) (by decide)
  obtain ⟨rfl, N100q, K100, AL10⟩ := Q100
  have N100 := Fr.app N44 N100q
  refine own_go st100 ?_
  show own_R _ _ _ _ T100 (mkF m 155 #[.val (.int ct), .val (.int lo), .val (.int sp), .val (.int zz), .val (.int (1 : Int32)), .val (.double mi), .second, .val (.double mx), .second, .val (.ref a1), .unset, .unset, .unset] [(.ref a10), (.double (FP.i2d (zz &&& (1023 : Int32)))), (.ref a8), (.ref a8)])
  have r25_Od := r14_Od.keep K100 (fun z hz => by cases List.mem_singleton.mp hz; exact g10n)
  have r26_Ey0 := r15_Ey0.keep K100
  have r27_L := r16_L.keep K100 (ninS na1_10 nin0) (ninS ned0_10 nin0)
  have r28_CsafeZ := r17_CsafeZ.keep K100 (ninS na8_10 nin0)
  have r29_Crobots := r18_Crobots.keep K100 (ninS na8_10 nin0)
  have r30_Cfeeders := r19_Cfeeders.keep K100 (ninS na8_10 nin0)
  have r31_Careas := r20_Careas.keep K100 (ninS na8_10 nin0)
  have r32_CcoupleS := r21_CcoupleS.keep K100 (ninS na8_10 nin0)
  have r33_Cgrippers := r22_Cgrippers.keep K100 (ninS na8_10 nin0)
  have r34_Cports := r23_Cports.keep K100 (ninS na8_10 nin0)
  have r35_Ec := r24_Ec.keep K100
  obtain ⟨T11, h11, X11, e11, E11, A11, D11, -, st11⟩ := newO X100 hx hZ hown (hw 0 rfl) (hw 1 rfl) (hw 2 rfl) rfl (g := (mkF m 155 #[.val (.int ct), .val (.int lo), .val (.int sp), .val (.int zz), .val (.int (1 : Int32)), .val (.double mi), .second, .val (.double mx), .second, .val (.ref a1), .unset, .unset, .unset] [(.ref a10), (.double (FP.i2d (zz &&& (1023 : Int32)))), (.ref a8), (.ref a8)])) rfl (hb hby at_155) (by decide) (by decide)
  obtain ⟨a11, g11⟩ : ∃ z, z = T100.heap.size := ⟨_, rfl⟩
  rw [← g11] at A11 D11 st11
  refine own_go st11 ?_
  show own_R _ _ _ _ T11 (mkF m 158 #[.val (.int ct), .val (.int lo), .val (.int sp), .val (.int zz), .val (.int (1 : Int32)), .val (.double mi), .second, .val (.double mx), .second, .val (.ref a1), .unset, .unset, .unset] [(.ref a11), (.ref a10), (.double (FP.i2d (zz &&& (1023 : Int32)))), (.ref a8), (.ref a8)])
  have g11n : n0 ≤ a11 := Nat.le_trans (r25_Od.1 ▸ r25_Od.2.1) (Nat.le_of_eq g11.symm)
  have na4_11 := own_nd (b := a11) r26_Ey0.lt (Nat.le_of_eq g11.symm)
  have na1_11 := own_nd (b := a11) r27_L.1.1.lt (Nat.le_of_eq g11.symm)
  have ned0_11 := own_nd (b := a11) r27_L.2.1.lt (Nat.le_of_eq g11.symm)
  have na8_11 := own_nd (b := a11) r35_Ec.lt (Nat.le_of_eq g11.symm)
  have na10_11 := own_nd (b := a11) AL10.1.lt (Nat.le_of_eq g11.symm)
  have r36_Od := r25_Od.ext E11
  have r37_Ey0 := r26_Ey0.ext E11
  have r38_L := r27_L.ext E11
  have r39_CsafeZ := r28_CsafeZ.ext E11
  have r40_Crobots := r29_Crobots.ext E11
  have r41_Cfeeders := r30_Cfeeders.ext E11
  have r42_Careas := r31_Careas.ext E11
  have r43_CcoupleS := r32_CcoupleS.ext E11
  have r44_Cgrippers := r33_Cgrippers.ext E11
  have r45_Cports := r34_Cports.ext E11
  have r46_Ec := r35_Ec.ext E11
  have r47_AL10 := AL10.ext E11
  refine own_go (fun _ => XS.dup X11.here hx rfl (hb hby at_158) rfl rfl) ?_
  show own_R _ _ _ _ T11 (mkF m 159 #[.val (.int ct), .val (.int lo), .val (.int sp), .val (.int zz), .val (.int (1 : Int32)), .val (.double mi), .second, .val (.double mx), .second, .val (.ref a1), .unset, .unset, .unset] [(.ref a11), (.ref a11), (.ref a10), (.double (FP.i2d (zz &&& (1023 : Int32)))), (.ref a8), (.ref a8)])
  obtain ⟨v110, T110, L110, X110, Q110, st110⟩ := own_callI X11 hx hZ hown (y := own_y18) rfl (hw 3 rfl) (hw 4 rfl) (hw 5 rfl) (hw 2 rfl) (by decide) (rmAL l Z a0 hw [] h11 n0 a11 g11n A11 (D11 (Or.inl (hw 25 rfl)) (ty := (.array (.object "java/lang/Object"))) (by decide)) (D11 (Or.inl (hw 69 rfl)) (ty := .int) (by decide)) (D11 (Or.inl (hw 22 rfl)) (ty := .int) (by decide)) de G.1 r36_Od) (W := 6) (g := (mkF m 159 #[.val (.int ct), .val (.int lo), .val (.int sp), .val (.int zz), .val (.int (1 : Int32)), .val (.double mi), .second, .val (.double mx), .second, .val (.ref a1), .unset, .unset, .unset] [(.ref a11), (.ref a11), (.ref a10), (.double (FP.i2d (zz &&& (1023 : Int32)))), (.ref a8), (.ref a8)])) rfl (by rw [hml]; rfl) (a := a11) (argsL := []) (rest := [(.ref a11), (.ref a10), (.double (FP.i2d (zz &&& (1023 : Int32)))), (.ref a8), (.ref a8)]) (lenOf pd___V rfl) rfl rfl (Nat.le_of_eq rfl) (hb hby at_159) e11 (by decide) (by decide) (by decide) (by decide)
  obtain ⟨rfl, N110q, K110, AL11⟩ := Q110
  have N110 := Fr.app N100 N110q
  refine own_go st110 ?_
  show own_R _ _ _ _ T110 (mkF m 162 #[.val (.int ct), .val (.int lo), .val (.int sp), .val (.int zz), .val (.int (1 : Int32)), .val (.double mi), .second, .val (.double mx), .second, .val (.ref a1), .unset, .unset, .unset] [(.ref a11), (.ref a10), (.double (FP.i2d (zz &&& (1023 : Int32)))), (.ref a8), (.ref a8)])
  have r48_Od := r36_Od.keep K110 (fun z hz => by cases List.mem_singleton.mp hz; exact g11n)
  have r49_Ey0 := r37_Ey0.keep K110
  have r50_L := r38_L.keep K110 (ninS na1_11 nin0) (ninS ned0_11 nin0)
  have r51_CsafeZ := r39_CsafeZ.keep K110 (ninS na8_11 nin0)
  have r52_Crobots := r40_Crobots.keep K110 (ninS na8_11 nin0)
  have r53_Cfeeders := r41_Cfeeders.keep K110 (ninS na8_11 nin0)
  have r54_Careas := r42_Careas.keep K110 (ninS na8_11 nin0)
  have r55_CcoupleS := r43_CcoupleS.keep K110 (ninS na8_11 nin0)
  have r56_Cgrippers := r44_Cgrippers.keep K110 (ninS na8_11 nin0)
  have r57_Cports := r45_Cports.keep K110 (ninS na8_11 nin0)
  have r58_Ec := r46_Ec.keep K110
  have r59_AL10 := r47_AL10.keep K110 (ninS na10_11 nin0)
  refine own_go (fun _ => XS.aload X110.here hx rfl (hb hby at_162) rfl rfl) ?_
  show own_R _ _ _ _ T110 (mkF m 164 #[.val (.int ct), .val (.int lo), .val (.int sp), .val (.int zz), .val (.int (1 : Int32)), .val (.double mi), .second, .val (.double mx), .second, .val (.ref a1), .unset, .unset, .unset] [(.ref a1), (.ref a11), (.ref a10), (.double (FP.i2d (zz &&& (1023 : Int32)))), (.ref a8), (.ref a8)])
  have lta := r58_Ec.lt
  obtain ⟨v12, T12, L12, X12, Q12, st12⟩ := own_callI X110 hx hZ hown (y := own_y1) rfl (hw 29 rfl) (hw 30 rfl) (hw 31 rfl) (hw 28 rfl) (by decide) (rmCe l Z a0 hw [] T110.heap n0 de kd el ea ka em mr G r48_Od a8 a10 a11 a1 _ g8n r58_Ec r51_CsafeZ r52_Crobots r53_Cfeeders r54_Careas r55_CcoupleS r56_Cgrippers r57_Cports r59_AL10.1 r59_AL10.2.2.1 AL11.1 AL11.2.2.1 (own_Qi Z a4 em T110.heap n0) (rmCO1 l Z a0 hw [] T110.heap n0 de kd el ea ka em mr G r48_Od a4 r49_Ey0 a1 ed0 k00 _ r50_L) (fun _ _ _ ⟨x, q1, q2, q3, _⟩ => ⟨x, q1, q2, q3⟩)) (W := 1) (g := (mkF m 164 #[.val (.int ct), .val (.int lo), .val (.int sp), .val (.int zz), .val (.int (1 : Int32)), .val (.double mi), .second, .val (.double mx), .second, .val (.ref a1), .unset, .unset, .unset] [(.ref a1), (.ref a11), (.ref a10), (.double (FP.i2d (zz &&& (1023 : Int32)))), (.ref a8), (.ref a8)])) rfl (by rw [hml]; rfl) (a := a8) (argsL := [(.double (FP.i2d (zz &&& (1023 : Int32)))), (.ref a10), (.ref a11), (.ref a1)]) (rest := [(.ref a8)]) (lenOf pd__DLjava_util_List_Ljava_util_List_Ljava_util_List__V rfl) rfl rfl (Nat.le_of_eq rfl) (hb hby at_164) rfl (by decide) (by decide) (by decide) (by decide)
  obtain ⟨x, h1c, L1c, rfl, N12q, K12, Ec12, Fa12, Qc, Kc⟩ := Q12
  have N12 := Fr.app N110 N12q
  refine own_go st12 ?_
  show own_R _ _ _ _ T12 (mkF m 167 #[.val (.int ct), .val (.int lo), .val (.int sp), .val (.int zz), .val (.int (1 : Int32)), .val (.double mi), .second, .val (.double mx), .second, .val (.ref a1), .unset, .unset, .unset] [(.ref a8)])
  obtain ⟨x2, qx, -, -, gx12, I0⟩ := Qc
  cases qx
  have I12 := own_I12.keep I0 Kc (own_ni (Ne.symm (own_nd lta gx12)))
  have r60_Od := r48_Od.keep K12 (fun z hz => by cases List.mem_singleton.mp hz; exact g8n)
  have r61_Ey0 := r49_Ey0.keep K12
  refine own_go (fun _ => XS.astore X12.here hx rfl (hb hby at_167) rfl rfl (l' := #[.val (.int ct), .val (.int lo), .val (.int sp), .val (.int zz), .val (.int (1 : Int32)), .val (.double mi), .second, .val (.double mx), .second, .val (.ref a1), .val (.ref a8), .unset, .unset]) rfl) ?_
  show own_R _ _ _ _ T12 (mkF m 169 #[.val (.int ct), .val (.int lo), .val (.int sp), .val (.int zz), .val (.int (1 : Int32)), .val (.double mi), .second, .val (.double mx), .second, .val (.ref a1), .val (.ref a8), .unset, .unset] [])
  obtain ⟨T13, h13, X13, e13, E13, A13, D13, -, st13⟩ := newO X12 hx hZ hown (hw 93 rfl) (hw 94 rfl) (hw 95 rfl) rfl (g := (mkF m 169 #[.val (.int ct), .val (.int lo), .val (.int sp), .val (.int zz), .val (.int (1 : Int32)), .val (.double mi), .second, .val (.double mx), .second, .val (.ref a1), .val (.ref a8), .unset, .unset] [])) rfl (hb hby at_169) (by decide) (by decide)
  obtain ⟨a13, g13⟩ : ∃ z, z = T12.heap.size := ⟨_, rfl⟩
  rw [← g13] at A13 D13 st13
  refine own_go st13 ?_
  show own_R _ _ _ _ T13 (mkF m 172 #[.val (.int ct), .val (.int lo), .val (.int sp), .val (.int zz), .val (.int (1 : Int32)), .val (.double mi), .second, .val (.double mx), .second, .val (.ref a1), .val (.ref a8), .unset, .unset] [(.ref a13)])
  have g13n : n0 ≤ a13 := Nat.le_trans (r60_Od.1 ▸ r60_Od.2.1) (Nat.le_of_eq g13.symm)
  have nce := own_nd (b := a13) Ec12.lt (Nat.le_of_eq g13.symm)
  have nxh := own_nd (b := a13) I12.1.lt (Nat.le_of_eq g13.symm)
  have r62_Od := r60_Od.ext E13
  have r63_Ey0 := r61_Ey0.ext E13
  have r64_I := I12.ext E13
  have r65_Ec := Ec12.ext E13
  have r66_Fa := Fa12.ext E13
  refine own_go (fun _ => XS.dup X13.here hx rfl (hb hby at_172) rfl rfl) ?_
  refine own_go (fun _ => XS.aload X13.here hx rfl (hb hby at_173) rfl rfl) ?_
  show own_R _ _ _ _ T13 (mkF m 175 #[.val (.int ct), .val (.int lo), .val (.int sp), .val (.int zz), .val (.int (1 : Int32)), .val (.double mi), .second, .val (.double mx), .second, .val (.ref a1), .val (.ref a8), .unset, .unset] [(.ref a8), (.ref a13), (.ref a13)])
  obtain ⟨v14, T14, L14, X14, Q14, st14⟩ := own_callI X13 hx hZ hown (y := own_y4) rfl (hw 96 rfl) (hw 97 rfl) (hw 98 rfl) (hw 95 rfl) (by decide) (rmHi1 l Z a0 hw [] h13 n0 de kd el ea ka em mr G r62_Od x a4 r64_I cK M Si a13 a8 g13n A13 (D13 (Or.inr (hw 103 rfl)) (ty := (.object "java/util/List")) (by decide)) (D13 (Or.inr (hw 105 rfl)) (ty := (.object "com/example/zellwerk/zellwerk/model/Cell")) (by decide)) (D13 (Or.inr (hw 124 rfl)) (ty := (.array .int)) (by decide)) (D13 (Or.inr (hw 127 rfl)) (ty := (.array .double)) (by decide)) (D13 (Or.inr (hw 129 rfl)) (ty := (.array .double)) (by decide)) r65_Ec r66_Fa nce nxh r63_Ey0) (W := 1) (g := (mkF m 175 #[.val (.int ct), .val (.int lo), .val (.int sp), .val (.int zz), .val (.int (1 : Int32)), .val (.double mi), .second, .val (.double mx), .second, .val (.ref a1), .val (.ref a8), .unset, .unset] [(.ref a8), (.ref a13), (.ref a13)])) rfl (by rw [hml]; rfl) (a := a13) (argsL := [(.ref a8)]) (rest := [(.ref a13)]) (lenOf pd__Lcom_example_zellwerk_zellwerk_model_Cell__V rfl) rfl rfl (Nat.le_of_eq rfl) (hb hby at_175) e13 (by decide) (by decide) (by decide) (by decide)
  obtain ⟨ua, ku, rfl, N14q, E14, F14, A14⟩ := Q14
  have N14 := Fr.app N12 N14q
  refine own_go st14 ?_
  show own_R _ _ _ _ T14 (mkF m 178 #[.val (.int ct), .val (.int lo), .val (.int sp), .val (.int zz), .val (.int (1 : Int32)), .val (.double mi), .second, .val (.double mx), .second, .val (.ref a1), .val (.ref a8), .unset, .unset] [(.ref a13)])
  refine own_go (fun _ => XS.astore X14.here hx rfl (hb hby at_178) rfl rfl (l' := #[.val (.int ct), .val (.int lo), .val (.int sp), .val (.int zz), .val (.int (1 : Int32)), .val (.double mi), .second, .val (.double mx), .second, .val (.ref a1), .val (.ref a8), .val (.ref a13), .unset]) rfl) ?_
  refine own_go (fun _ => XS.iload X14.here hx rfl (hb hby at_180) rfl ) ?_
  show own_R _ _ _ _ T14 (mkF m 182 #[.val (.int ct), .val (.int lo), .val (.int sp), .val (.int zz), .val (.int (1 : Int32)), .val (.double mi), .second, .val (.double mx), .second, .val (.ref a1), .val (.ref a8), .val (.ref a13), .unset] [(.int (1 : Int32))])
  refine own_go (fun _ => XS.ifNo X14.here hx rfl (hb hby at_182) rfl ((if0 _ _).trans (tlt (by decide : (0 : Int32) < (1 : Int32))).2.2.2)) ?_
  show own_R _ _ _ _ T14 (mkF m 185 #[.val (.int ct), .val (.int lo), .val (.int sp), .val (.int zz), .val (.int (1 : Int32)), .val (.double mi), .second, .val (.double mx), .second, .val (.ref a1), .val (.ref a8), .val (.ref a13), .unset] [])
  refine own_go (fun _ => XS.iconst X14.here hx rfl (hb hby at_185)) ?_
  refine own_go (fun _ => XS.goto X14.here hx rfl (pc0 := 186) (pc' := 190) rfl (hb hby at_186) (by decide) (by decide)) ?_
  refine own_go (fun _ => XS.istore X14.here hx rfl (hb hby at_190) rfl (l' := #[.val (.int ct), .val (.int lo), .val (.int sp), .val (.int zz), .val (.int (1 : Int32)), .val (.double mi), .second, .val (.double mx), .second, .val (.ref a1), .val (.ref a8), .val (.ref a13), .val (.int (1 : Int32))]) rfl) ?_
  refine own_go (fun _ => XS.aload X14.here hx rfl (hb hby at_192) rfl rfl) ?_
  show own_R _ _ _ _ T14 (mkF m 194 #[.val (.int ct), .val (.int lo), .val (.int sp), .val (.int zz), .val (.int (1 : Int32)), .val (.double mi), .second, .val (.double mx), .second, .val (.ref a1), .val (.ref a8), .val (.ref a13), .val (.int (1 : Int32))] [(.ref a13)])
  obtain ⟨v15, T15, L15, X15, Q15, st15⟩ := own_callV X14 hx hZ hown (y := own_y5) (hw 188 rfl) (hw 189 rfl) (hw 191 rfl) (hw 190 rfl) (hw 192 rfl) (hw 95 rfl) (by decide) (rmAny1 l Z a0 hw [] T14.heap n0 a13 ua ku (Int32.ofNat 1) (by decide) F14 A14) E14 (W := 0) (g := (mkF m 194 #[.val (.int ct), .val (.int lo), .val (.int sp), .val (.int zz), .val (.int (1 : Int32)), .val (.double mi), .second, .val (.double mx), .second, .val (.ref a1), .val (.ref a8), .val (.ref a13), .val (.int (1 : Int32))] [(.ref a13)])) rfl (by rw [hml]; rfl) (b := a13) (argsL := []) (rest := []) (lenOf pd___Z rfl) rfl rfl (Nat.le_of_eq rfl) (hb hby at_194) rfl (by decide) (by decide) (by decide) (by decide)
  obtain ⟨rfl, N15q, e15⟩ := Q15
  have N15 := Fr.app N14 N15q
  refine own_go st15 ?_
  show own_R _ _ _ _ T15 (mkF m 197 #[.val (.int ct), .val (.int lo), .val (.int sp), .val (.int zz), .val (.int (1 : Int32)), .val (.double mi), .second, .val (.double mx), .second, .val (.ref a1), .val (.ref a8), .val (.ref a13), .val (.int (1 : Int32))] [(.int (1 : Int32))])
  refine own_go (fun _ => XS.iload X15.here hx rfl (hb hby at_197) rfl ) ?_
  show own_R _ _ _ _ T15 (mkF m 199 #[.val (.int ct), .val (.int lo), .val (.int sp), .val (.int zz), .val (.int (1 : Int32)), .val (.double mi), .second, .val (.double mx), .second, .val (.ref a1), .val (.ref a8), .val (.ref a13), .val (.int (1 : Int32))] [(.int (1 : Int32)), (.int (1 : Int32))])
  refine own_go (fun _ => XS.icmpNo X15.here hx rfl (hb hby at_199) rfl (teq (rfl : (1 : Int32) = (1 : Int32))).2) ?_
  show own_R _ _ _ _ T15 (mkF m 202 #[.val (.int ct), .val (.int lo), .val (.int sp), .val (.int zz), .val (.int (1 : Int32)), .val (.double mi), .second, .val (.double mx), .second, .val (.ref a1), .val (.ref a8), .val (.ref a13), .val (.int (1 : Int32))] [])
  refine own_go (fun _ => XS.iconst X15.here hx rfl (hb hby at_202)) ?_
  refine own_go (fun _ => XS.goto X15.here hx rfl (pc0 := 203) (pc' := 207) rfl (hb hby at_203) (by decide) (by decide)) ?_
  show own_R _ _ _ _ T15 (mkF m 207 #[.val (.int ct), .val (.int lo), .val (.int sp), .val (.int zz), .val (.int (1 : Int32)), .val (.double mi), .second, .val (.double mx), .second, .val (.ref a1), .val (.ref a8), .val (.ref a13), .val (.int (1 : Int32))] [(.int (1 : Int32))])
  exact own_endN X15 (some (.int (nar .boolean (1 : Int32)))) (fun h => by rw [hret] at h; cases h) hlk (fun fs hr => retN X15 hx (t := .boolean) hret (by simp) (hb hby at_207) hr) ⟨rfl, N15⟩ (by decide) (by decide)
set_option maxRecDepth 65536 in
set_option maxHeartbeats 80000000 in
theorem rm0_2 (l : Launch) (Z : State) (a0 : Array Value) (hw : own_T a0 Z) (ws : List Jvm.Cond) (h0 : Heap) (n0 : Nat) (de : Addr) (kd : ClassId) (el ea : Addr) (ka : ClassId) (em mr : Addr) (G : own_G Z de kd el ea ka em mr) (Od : Old Z n0 h0) (zc : Int32) (OS : Sta Z Z.heap "java/lang/String" "COMPACT_STRINGS" "Z" (.int zc)) (hzc : ¬ zc = 0) (ct lo sp zz : Int32) (hn : (ct &&& (3 : Int32)) = (2 : Int32))  :
    own_CW l Z x code maxLocals ret ws room_1 #[(.int ct), (.int lo), (.int sp), (.int zz)] h0 (own_Q0 n0) := by
  refine own_bodyW (ls := #[.val (.int ct), .val (.int lo), .val (.int sp), .val (.int zz), .unset, .unset, .unset, .unset, .unset, .unset, .unset, .unset, .unset]) pn_0 (fun m => by first | (simp [entryFrame, mkF, argsToLocals, Value.category, maxLocals]; done) | rfl) ?_
  intro p e s m below meth c T0 hZ hx hby hml hown hnm hret hlk X0 e0
  replace hml : c.maxLocals = 13 := hml
  have N0 := Fr.nil n0
  obtain ⟨cK, M, Si⟩ := own_lam (hw 134 rfl) (hw 137 rfl) (hw 342 rfl) (hw 344 rfl) (hw 194 rfl)
  refine own_go (fun _ => XS.iloadN X0.here hx rfl (hb hby at_0) rfl ) ?_
  refine own_go (fun _ => XS.iconst X0.here hx rfl (hb hby at_1)) ?_
  refine own_go (fun _ => XS.iand X0.here hx rfl (hb hby at_2) rfl) ?_
  show own_R _ _ _ _ T0 (mkF m 3 #[.val (.int ct), .val (.int lo), .val (.int sp), .val (.int zz), .unset, .unset, .unset, .unset, .unset, .unset, .unset, .unset, .unset] [(.int (ct &&& (3 : Int32)))])
  rw [hn]
  show own_R _ _ _ _ T0 (mkF m 3 #[.val (.int ct), .val (.int lo), .val (.int sp), .val (.int zz), .unset, .unset, .unset, .unset, .unset, .unset, .unset, .unset, .unset] [(.int (2 : Int32))])
  refine own_go (fun _ => XS.istore X0.here hx rfl (hb hby at_3) rfl (l' := #[.val (.int ct), .val (.int lo), .val (.int sp), .val (.int zz), .val (.int (2 : Int32)), .unset, .unset, .unset, .unset, .unset, .unset, .unset, .unset]) rfl) ?_
  show own_R _ _ _ _ T0 (mkF m 5 #[.val (.int ct), .val (.int lo), .val (.int sp), .val (.int zz), .val (.int (2 : Int32)), .unset, .unset, .unset, .unset, .unset, .unset, .unset, .unset] [])
  refine own_go (fun _ => XS.iloadN X0.here hx rfl (hb hby at_5) rfl ) ?_
  refine own_go (fun _ => XS.sipush X0.here hx rfl (hb hby at_6)) ?_
  refine own_go (fun _ => XS.iand X0.here hx rfl (hb hby at_9) rfl) ?_
  refine own_go (fun _ => XS.i2dS X0.here hx rfl (hb hby at_10) rfl rfl) ?_
  refine own_go (fun _ => XS.dstore X0.here hx rfl (hb hby at_11) rfl (l' := #[.val (.int ct), .val (.int lo), .val (.int sp), .val (.int zz), .val (.int (2 : Int32)), .val (.double (FP.i2d (lo &&& (255 : Int32)))), .second, .unset, .unset, .unset, .unset, .unset, .unset]) rfl) ?_
  refine own_go (fun _ => XS.dload X0.here hx rfl (hb hby at_13) rfl ) ?_
  refine own_go (fun _ => XS.iloadN X0.here hx rfl (hb hby at_15) rfl ) ?_
  refine own_go (fun _ => XS.sipush X0.here hx rfl (hb hby at_16)) ?_
  refine own_go (fun _ => XS.iand X0.here hx rfl (hb hby at_19) rfl) ?_
  show own_R _ _ _ _ T0 (mkF m 20 #[.val (.int ct), .val (.int lo), .val (.int sp), .val (.int zz), .val (.int (2 : Int32)), .val (.double (FP.i2d (lo &&& (255 : Int32)))), .second, .unset, .unset, .unset, .unset, .unset, .unset] [(.int (sp &&& (255 : Int32))), (.double (FP.i2d (lo &&& (255 : Int32))))])
  refine own_go (fun _ => XS.i2dS X0.here hx rfl (hb hby at_20) rfl rfl) ?_
  refine own_go (fun _ => XS.daddS X0.here hx rfl (hb hby at_21) rfl (own_sumNN _ _) rfl) ?_
  refine own_go (fun _ => XS.dstore X0.here hx rfl (hb hby at_22) rfl (l' := #[.val (.int ct), .val (.int lo), .val (.int sp), .val (.int zz), .val (.int (2 : Int32)), .val (.double (FP.i2d (lo &&& (255 : Int32)))), .second, .val (.double (FP.dadd (FP.i2d (lo &&& (255 : Int32))) (FP.i2d (sp &&& (255 : Int32))))), .second, .unset, .unset, .unset, .unset]) rfl) ?_
  show own_R _ _ _ _ T0 (mkF m 24 #[.val (.int ct), .val (.int lo), .val (.int sp), .val (.int zz), .val (.int (2 : Int32)), .val (.double (FP.i2d (lo &&& (255 : Int32)))), .second, .val (.double (FP.dadd (FP.i2d (lo &&& (255 : Int32))) (FP.i2d (sp &&& (255 : Int32))))), .second, .unset, .unset, .unset, .unset] [])
  generalize hmx : (FP.dadd (FP.i2d (lo &&& (255 : Int32))) (FP.i2d (sp &&& (255 : Int32)))) = mx
  show own_R _ _ _ _ T0 (mkF m 24 #[.val (.int ct), .val (.int lo), .val (.int sp), .val (.int zz), .val (.int (2 : Int32)), .val (.double (FP.i2d (lo &&& (255 : Int32)))), .second, .val (.double mx), .second, .unset, .unset, .unset, .unset] [])
  generalize hmi : (FP.i2d (lo &&& (255 : Int32))) = mi
  show own_R _ _ _ _ T0 (mkF m 24 #[.val (.int ct), .val (.int lo), .val (.int sp), .val (.int zz), .val (.int (2 : Int32)), .val (.double mi), .second, .val (.double mx), .second, .unset, .unset, .unset, .unset] [])
  obtain ⟨T1, h1, X1, e1, E1, A1, D1, -, st1⟩ := newO X0 hx hZ hown (hw 0 rfl) (hw 1 rfl) (hw 2 rfl) e0 (g := (mkF m 24 #[.val (.int ct), .val (.int lo), .val (.int sp), .val (.int zz), .val (.int (2 : Int32)), .val (.double mi), .second, .val (.double mx), .second, .unset, .unset, .unset, .unset] [])) rfl (hb hby at_24) (by decide) (by decide)
  obtain ⟨a1, g1⟩ : ∃ z, z = h0.size := ⟨_, rfl⟩
  rw [← g1] at A1 D1 st1
  refine own_go st1 ?_
  show own_R _ _ _ _ T1 (mkF m 27 #[.val (.int ct), .val (.int lo), .val (.int sp), .val (.int zz), .val (.int (2 : Int32)), .val (.double mi), .second, .val (.double mx), .second, .unset, .unset, .unset, .unset] [(.ref a1)])
  have g1n : n0 ≤ a1 := Nat.le_trans (Od.1 ▸ Od.2.1) (Nat.le_of_eq g1.symm)
  have r1_Od := Od.ext E1
  refine own_go (fun _ => XS.dup X1.here hx rfl (hb hby at_27) rfl rfl) ?_
  show own_R _ _ _ _ T1 (mkF m 28 #[.val (.int ct), .val (.int lo), .val (.int sp), .val (.int zz), .val (.int (2 : Int32)), .val (.double mi), .second, .val (.double mx), .second, .unset, .unset, .unset, .unset] [(.ref a1), (.ref a1)])
  obtain ⟨v10, T10, L10, X10, Q10, st10⟩ := own_callI X1 hx hZ hown (y := own_y18) rfl (hw 3 rfl) (hw 4 rfl) (hw 5 rfl) (hw 2 rfl) (by decide) (rmAL l Z a0 hw [] h1 n0 a1 g1n A1 (D1 (Or.inl (hw 25 rfl)) (ty := (.array (.object "java/lang/Object"))) (by decide)) (D1 (Or.inl (hw 69 rfl)) (ty := .int) (by decide)) (D1 (Or.inl (hw 22 rfl)) (ty := .int) (by decide)) de G.1 r1_Od) (W := 1) (g := (mkF m 28 #[.val (.int ct), .val (.int lo), .val (.int sp), .val (.int zz), .val (.int (2 : Int32)), .val (.double mi), .second, .val (.double mx), .second, .unset, .unset, .unset, .unset] [(.ref a1), (.ref a1)])) rfl (by rw [hml]; rfl) (a := a1) (argsL := []) (rest := [(.ref a1)]) (lenOf pd___V rfl) rfl rfl (Nat.le_of_eq rfl) (hb hby at_28) e1 (by decide) (by decide) (by decide) (by decide)
  obtain ⟨rfl, N10q, K10, AL1⟩ := Q10
  have N10 := Fr.app N0 N10q
  refine own_go st10 ?_
  show own_R _ _ _ _ T10 (mkF m 31 #[.val (.int ct), .val (.int lo), .val (.int sp), .val (.int zz), .val (.int (2 : Int32)), .val (.double mi), .second, .val (.double mx), .second, .unset, .unset, .unset, .unset] [(.ref a1)])
  have r2_Od := r1_Od.keep K10 (fun z hz => by cases List.mem_singleton.mp hz; exact g1n)
  refine own_go (fun _ => XS.astore X10.here hx rfl (hb hby at_31) rfl rfl (l' := #[.val (.int ct), .val (.int lo), .val (.int sp), .val (.int zz), .val (.int (2 : Int32)), .val (.double mi), .second, .val (.double mx), .second, .val (.ref a1), .unset, .unset, .unset]) rfl) ?_
  refine own_go (fun _ => XS.iload X10.here hx rfl (hb hby at_33) rfl ) ?_
  refine own_go (fun _ => XS.iconst X10.here hx rfl (hb hby at_35)) ?_
  show own_R _ _ _ _ T10 (mkF m 36 #[.val (.int ct), .val (.int lo), .val (.int sp), .val (.int zz), .val (.int (2 : Int32)), .val (.double mi), .second, .val (.double mx), .second, .val (.ref a1), .unset, .unset, .unset] [(.int (1 : Int32)), (.int (2 : Int32))])
  refine own_go (fun _ => XS.icmpNo X10.here hx rfl (hb hby at_36) rfl (flt (by decide : ¬ ((2 : Int32) < (1 : Int32)))).1) ?_
  show own_R _ _ _ _ T10 (mkF m 39 #[.val (.int ct), .val (.int lo), .val (.int sp), .val (.int zz), .val (.int (2 : Int32)), .val (.double mi), .second, .val (.double mx), .second, .val (.ref a1), .unset, .unset, .unset] [])
  refine own_go (fun _ => XS.aload X10.here hx rfl (hb hby at_39) rfl rfl) ?_
  show own_R _ _ _ _ T10 (mkF m 41 #[.val (.int ct), .val (.int lo), .val (.int sp), .val (.int zz), .val (.int (2 : Int32)), .val (.double mi), .second, .val (.double mx), .second, .val (.ref a1), .unset, .unset, .unset] [(.ref a1)])
  obtain ⟨T4, h4, X4, e4, E4, A4, D4, -, st4⟩ := newO X10 hx hZ hown (hw 193 rfl) (hw 194 rfl) (hw 195 rfl) rfl (g := (mkF m 41 #[.val (.int ct), .val (.int lo), .val (.int sp), .val (.int zz), .val (.int (2 : Int32)), .val (.double mi), .second, .val (.double mx), .second, .val (.ref a1), .unset, .unset, .unset] [(.ref a1)])) rfl (hb hby at_41) (by decide) (by decide)
  obtain ⟨a4, g4⟩ : ∃ z, z = T10.heap.size := ⟨_, rfl⟩
  rw [← g4] at A4 D4 st4
  refine own_go st4 ?_
  show own_R _ _ _ _ T4 (mkF m 44 #[.val (.int ct), .val (.int lo), .val (.int sp), .val (.int zz), .val (.int (2 : Int32)), .val (.double mi), .second, .val (.double mx), .second, .val (.ref a1), .unset, .unset, .unset] [(.ref a4), (.ref a1)])
  have g4n : n0 ≤ a4 := Nat.le_trans (r2_Od.1 ▸ r2_Od.2.1) (Nat.le_of_eq g4.symm)
  have n1_4 := own_nd (b := a4) AL1.1.lt (Nat.le_of_eq g4.symm)
  have r3_Od := r2_Od.ext E4
  have r4_AL1 := AL1.ext E4
  refine own_go (fun _ => XS.dup X4.here hx rfl (hb hby at_44) rfl rfl) ?_
  refine own_go (fun _ => XS.bipush X4.here hx rfl (hb hby at_45)) ?_
  show own_R _ _ _ _ T4 (mkF m 47 #[.val (.int ct), .val (.int lo), .val (.int sp), .val (.int zz), .val (.int (2 : Int32)), .val (.double mi), .second, .val (.double mx), .second, .val (.ref a1), .unset, .unset, .unset] [(.int (97 : Int32)), (.ref a4), (.ref a4), (.ref a1)])
  obtain ⟨v24, T24, L24, X24, Q24, st24⟩ := own_callS X4 hx hZ hown (y := own_y13) (hw 196 rfl) (hw 197 rfl) (hw 198 rfl) (hw 199 rfl) (by decide) (rmVO l Z a0 hw [] h4 n0 zc OS hzc r3_Od 97 (by decide) (r3_Od.1 ▸ r3_Od.2.1)) (W := 3) (g := (mkF m 47 #[.val (.int ct), .val (.int lo), .val (.int sp), .val (.int zz), .val (.int (2 : Int32)), .val (.double mi), .second, .val (.double mx), .second, .val (.ref a1), .unset, .unset, .unset] [(.int (97 : Int32)), (.ref a4), (.ref a4), (.ref a1)])) rfl (by rw [hml]; rfl) (argsL := [(.int (97 : Int32))]) (rest := [(.ref a4), (.ref a4), (.ref a1)]) (lenOf pd__C_Ljava_lang_String_ rfl) rfl rfl (Nat.le_of_eq rfl) (hb hby at_47) e4 (by decide) (by decide) (by decide) (by decide)
  obtain ⟨s4, rfl, N24q, K24, gs4⟩ := Q24
  have N24 := Fr.app N10 N24q
  refine own_go st24 ?_
  show own_R _ _ _ _ T24 (mkF m 50 #[.val (.int ct), .val (.int lo), .val (.int sp), .val (.int zz), .val (.int (2 : Int32)), .val (.double mi), .second, .val (.double mx), .second, .val (.ref a1), .unset, .unset, .unset] [(.ref s4), (.ref a4), (.ref a4), (.ref a1)])
  have r5_Od := r3_Od.keep K24 all0
  have r6_AL1 := r4_AL1.keep K24 nin0
  refine own_go (fun _ => XS.dload X24.here hx rfl (hb hby at_50) rfl ) ?_
  refine own_go (fun _ => XS.dload X24.here hx rfl (hb hby at_52) rfl ) ?_
  refine own_go (fun _ => XS.dload X24.here hx rfl (hb hby at_54) rfl ) ?_
  refine own_go (fun _ => XS.dload X24.here hx rfl (hb hby at_56) rfl ) ?_
  refine own_go (fun _ => XS.aconstNull X24.here hx rfl (hb hby at_58)) ?_
  show own_R _ _ _ _ T24 (mkF m 59 #[.val (.int ct), .val (.int lo), .val (.int sp), .val (.int zz), .val (.int (2 : Int32)), .val (.double mi), .second, .val (.double mx), .second, .val (.ref a1), .unset, .unset, .unset] [.null, (.double mx), (.double mi), (.double mx), (.double mi), (.ref s4), (.ref a4), (.ref a4), (.ref a1)])
  obtain ⟨v34, T34, L34, X34, Q34, st34⟩ := own_callI X24 hx hZ hown (y := own_y0) rfl (hw 220 rfl) (hw 221 rfl) (hw 222 rfl) (hw 195 rfl) (by decide) (rmAr l Z a0 hw [] T24.heap n0 a4 s4 mi mx mi mx g4n (A4.keep K24) ((D4 (Or.inr (hw 225 rfl)) (ty := (.object "java/lang/String")) (by decide)).keep K24 nin0) ((D4 (Or.inr (hw 227 rfl)) (ty := .double) (by decide)).keep K24 nin0) ((D4 (Or.inr (hw 229 rfl)) (ty := .double) (by decide)).keep K24 nin0) ((D4 (Or.inr (hw 231 rfl)) (ty := .double) (by decide)).keep K24 nin0) ((D4 (Or.inr (hw 233 rfl)) (ty := .double) (by decide)).keep K24 nin0) ((D4 (Or.inr (hw 235 rfl)) (ty := (.object "java/util/Optional")) (by decide)).keep K24 nin0)) (W := 2) (g := (mkF m 59 #[.val (.int ct), .val (.int lo), .val (.int sp), .val (.int zz), .val (.int (2 : Int32)), .val (.double mi), .second, .val (.double mx), .second, .val (.ref a1), .unset, .unset, .unset] [.null, (.double mx), (.double mi), (.double mx), (.double mi), (.ref s4), (.ref a4), (.ref a4), (.ref a1)])) rfl (by rw [hml]; rfl) (a := a4) (argsL := [(.ref s4), (.double mi), (.double mx), (.double mi), (.double mx), .null]) (rest := [(.ref a4), (.ref a1)]) (lenOf pd__Ljava_lang_String_DDDDLjava_util_Optional__V rfl) rfl rfl (Nat.le_of_eq rfl) (hb hby at_59) rfl (by decide) (by decide) (by decide) (by decide)
  obtain ⟨rfl, N34q, K34, Ey0⟩ := Q34
  have N34 := Fr.app N24 N34q
  refine own_go st34 ?_
  show own_R _ _ _ _ T34 (mkF m 62 #[.val (.int ct), .val (.int lo), .val (.int sp), .val (.int zz), .val (.int (2 : Int32)), .val (.double mi), .second, .val (.double mx), .second, .val (.ref a1), .unset, .unset, .unset] [(.ref a4), (.ref a1)])
  have r7_Od := r5_Od.keep K34 (fun z hz => by cases List.mem_singleton.mp hz; exact g4n)
  have r8_AL1 := r6_AL1.keep K34 (ninS n1_4 nin0)
  obtain ⟨v44, T44, L44, X44, Q44, st44⟩ := own_backF X34 hx hZ hown (xi := own_y48) (hw 236 rfl) (hw 237 rfl) (mvT hZ (hw 238 rfl)) (hw 239 rfl) (hw 240 rfl) (hw 241 rfl) (hw 242 rfl) (hw 243 rfl) (by decide) (backOf (W := 0) (rmA1F l Z a0 hw [] T34.heap n0 a1 g1n (r7_Od.1 ▸ r7_Od.2.1) 0 de kd r8_AL1 G.1 (G.2.1.ext r7_Od.2) r7_Od a4 "com/example/zellwerk/zellwerk/model/Area" Ey0 (hw 268 rfl)) hZ (hw 244 rfl) (hw 2 rfl) (by decide) (by decide)) (b := a1) r8_AL1.1 (g := (mkF m 62 #[.val (.int ct), .val (.int lo), .val (.int sp), .val (.int zz), .val (.int (2 : Int32)), .val (.double mi), .second, .val (.double mx), .second, .val (.ref a1), .unset, .unset, .unset] [(.ref a4), (.ref a1)])) rfl (by rw [hml]; rfl) (argsL := [(.ref a4)]) (rest := []) (lenOf pd__Ljava_lang_Object__Z rfl) rfl rfl (Nat.le_of_eq rfl) (hb hby at_62) rfl (by decide) (by decide)
  obtain ⟨ed0, k00, rfl, N44q, K44, ged0, gel0, L40⟩ := Q44
  have N44 := Fr.app N34 N44q
  refine own_go st44 ?_
  show own_R _ _ _ _ T44 (mkF m 67 #[.val (.int ct), .val (.int lo), .val (.int sp), .val (.int zz), .val (.int (2 : Int32)), .val (.double mi), .second, .val (.double mx), .second, .val (.ref a1), .unset, .unset, .unset] [(.int (1 : Int32))])
  have r9_Od := r7_Od.keep K44 (fun z hz => by cases List.mem_singleton.mp hz; exact g1n)
  have r10_Ey0 := Ey0.keep K44
  refine own_go (fun _ => XS.pop X44.here hx rfl (hb hby at_67) rfl rfl) ?_
  refine own_go (fun _ => XS.iload X44.here hx rfl (hb hby at_68) rfl ) ?_
  refine own_go (fun _ => XS.iconst X44.here hx rfl (hb hby at_70)) ?_
  show own_R _ _ _ _ T44 (mkF m 71 #[.val (.int ct), .val (.int lo), .val (.int sp), .val (.int zz), .val (.int (2 : Int32)), .val (.double mi), .second, .val (.double mx), .second, .val (.ref a1), .unset, .unset, .unset] [(.int (2 : Int32)), (.int (2 : Int32))])
  refine own_go (fun _ => XS.icmpNo X44.here hx rfl (hb hby at_71) rfl (flt (by decide : ¬ ((2 : Int32) < (2 : Int32)))).1) ?_
  show own_R _ _ _ _ T44 (mkF m 74 #[.val (.int ct), .val (.int lo), .val (.int sp), .val (.int zz), .val (.int (2 : Int32)), .val (.double mi), .second, .val (.double mx), .second, .val (.ref a1), .unset, .unset, .unset] [])
  refine own_go (fun _ => XS.aload X44.here hx rfl (hb hby at_74) rfl rfl) ?_
  show own_R _ _ _ _ T44 (mkF m 76 #[.val (.int ct), .val (.int lo), .val (.int sp), .val (.int zz), .val (.int (2 : Int32)), .val (.double mi), .second, .val (.double mx), .second, .val (.ref a1), .unset, .unset, .unset] [(.ref a1)])
  obtain ⟨T5, h5, X5, e5, E5, A5, D5, -, st5⟩ := newO X44 hx hZ hown (hw 193 rfl) (hw 194 rfl) (hw 195 rfl) rfl (g := (mkF m 76 #[.val (.int ct), .val (.int lo), .val (.int sp), .val (.int zz), .val (.int (2 : Int32)), .val (.double mi), .second, .val (.double mx), .second, .val (.ref a1), .unset, .unset, .unset] [(.ref a1)])) rfl (hb hby at_76) (by decide) (by decide)
  obtain ⟨a5, g5⟩ : ∃ z, z = T44.heap.size := ⟨_, rfl⟩
  rw [← g5] at A5 D5 st5
  refine own_go st5 ?_
  show own_R _ _ _ _ T5 (mkF m 79 #[.val (.int ct), .val (.int lo), .val (.int sp), .val (.int zz), .val (.int (2 : Int32)), .val (.double mi), .second, .val (.double mx), .second, .val (.ref a1), .unset, .unset, .unset] [(.ref a5), (.ref a1)])
  have g5n : n0 ≤ a5 := Nat.le_trans (r9_Od.1 ▸ r9_Od.2.1) (Nat.le_of_eq g5.symm)
  have n1_5 := own_nd (b := a5) L40.1.1.lt (Nat.le_of_eq g5.symm)
  have ned_5 := own_nd (b := a5) L40.2.1.lt (Nat.le_of_eq g5.symm)
  have r11_Od := r9_Od.ext E5
  have r12_Ey0 := r10_Ey0.ext E5
  have r13_L := L40.ext E5
  refine own_go (fun _ => XS.dup X5.here hx rfl (hb hby at_79) rfl rfl) ?_
  refine own_go (fun _ => XS.bipush X5.here hx rfl (hb hby at_80)) ?_
  show own_R _ _ _ _ T5 (mkF m 82 #[.val (.int ct), .val (.int lo), .val (.int sp), .val (.int zz), .val (.int (2 : Int32)), .val (.double mi), .second, .val (.double mx), .second, .val (.ref a1), .unset, .unset, .unset] [(.int (98 : Int32)), (.ref a5), (.ref a5), (.ref a1)])
  obtain ⟨v25, T25, L25, X25, Q25, st25⟩ := own_callS X5 hx hZ hown (y := own_y13) (hw 196 rfl) (hw 197 rfl) (hw 198 rfl) (hw 199 rfl) (by decide) (rmVO l Z a0 hw [] h5 n0 zc OS hzc r11_Od 98 (by decide) (r11_Od.1 ▸ r11_Od.2.1)) (W := 3) (g := (mkF m 82 #[.val (.int ct), .val (.int lo), .val (.int sp), .val (.int zz), .val (.int (2 : Int32)), .val (.double mi), .second, .val (.double mx), .second, .val (.ref a1), .unset, .unset, .unset] [(.int (98 : Int32)), (.ref a5), (.ref a5), (.ref a1)])) rfl (by rw [hml]; rfl) (argsL := [(.int (98 : Int32))]) (rest := [(.ref a5), (.ref a5), (.ref a1)]) (lenOf pd__C_Ljava_lang_String_ rfl) rfl rfl (Nat.le_of_eq rfl) (hb hby at_82) e5 (by decide) (by decide) (by decide) (by decide)
  obtain ⟨s5, rfl, N25q, K25, gs5⟩ := Q25
  have N25 := Fr.app N44 N25q
  refine own_go st25 ?_
  show own_R _ _ _ _ T25 (mkF m 85 #[.val (.int ct), .val (.int lo), .val (.int sp), .val (.int zz), .val (.int (2 : Int32)), .val (.double mi), .second, .val (.double mx), .second, .val (.ref a1), .unset, .unset, .unset] [(.ref s5), (.ref a5), (.ref a5), (.ref a1)])
  have r14_Od := r11_Od.keep K25 all0
  have r15_Ey0 := r12_Ey0.keep K25
  have r16_L := r13_L.keep K25 nin0 nin0
  refine own_go (fun _ => XS.dload X25.here hx rfl (hb hby at_85) rfl ) ?_
  refine own_go (fun _ => XS.dload X25.here hx rfl (hb hby at_87) rfl ) ?_
  refine own_go (fun _ => XS.dload X25.here hx rfl (hb hby at_89) rfl ) ?_
  refine own_go (fun _ => XS.dload X25.here hx rfl (hb hby at_91) rfl ) ?_
  refine own_go (fun _ => XS.aconstNull X25.here hx rfl (hb hby at_93)) ?_
  show own_R _ _ _ _ T25 (mkF m 94 #[.val (.int ct), .val (.int lo), .val (.int sp), .val (.int zz), .val (.int (2 : Int32)), .val (.double mi), .second, .val (.double mx), .second, .val (.ref a1), .unset, .unset, .unset] [.null, (.double mx), (.double mi), (.double mx), (.double mi), (.ref s5), (.ref a5), (.ref a5), (.ref a1)])
  obtain ⟨v35, T35, L35, X35, Q35, st35⟩ := own_callI X25 hx hZ hown (y := own_y0) rfl (hw 220 rfl) (hw 221 rfl) (hw 222 rfl) (hw 195 rfl) (by decide) (rmAr l Z a0 hw [] T25.heap n0 a5 s5 mi mx mi mx g5n (A5.keep K25) ((D5 (Or.inr (hw 225 rfl)) (ty := (.object "java/lang/String")) (by decide)).keep K25 nin0) ((D5 (Or.inr (hw 227 rfl)) (ty := .double) (by decide)).keep K25 nin0) ((D5 (Or.inr (hw 229 rfl)) (ty := .double) (by decide)).keep K25 nin0) ((D5 (Or.inr (hw 231 rfl)) (ty := .double) (by decide)).keep K25 nin0) ((D5 (Or.inr (hw 233 rfl)) (ty := .double) (by decide)).keep K25 nin0) ((D5 (Or.inr (hw 235 rfl)) (ty := (.object "java/util/Optional")) (by decide)).keep K25 nin0)) (W := 2) (g := (mkF m 94 #[.val (.int ct), .val (.int lo), .val (.int sp), .val (.int zz), .val (.int (2 : Int32)), .val (.double mi), .second, .val (.double mx), .second, .val (.ref a1), .unset, .unset, .unset] [.null, (.double mx), (.double mi), (.double mx), (.double mi), (.ref s5), (.ref a5), (.ref a5), (.ref a1)])) rfl (by rw [hml]; rfl) (a := a5) (argsL := [(.ref s5), (.double mi), (.double mx), (.double mi), (.double mx), .null]) (rest := [(.ref a5), (.ref a1)]) (lenOf pd__Ljava_lang_String_DDDDLjava_util_Optional__V rfl) rfl rfl (Nat.le_of_eq rfl) (hb hby at_94) rfl (by decide) (by decide) (by decide) (by decide)
  obtain ⟨rfl, N35q, K35, Ey1⟩ := Q35
  have N35 := Fr.app N25 N35q
  refine own_go st35 ?_
  show own_R _ _ _ _ T35 (mkF m 97 #[.val (.int ct), .val (.int lo), .val (.int sp), .val (.int zz), .val (.int (2 : Int32)), .val (.double mi), .second, .val (.double mx), .second, .val (.ref a1), .unset, .unset, .unset] [(.ref a5), (.ref a1)])
  have r17_Od := r14_Od.keep K35 (fun z hz => by cases List.mem_singleton.mp hz; exact g5n)
  have r18_Ey0 := r15_Ey0.keep K35
  have r19_L := r16_L.keep K35 (ninS n1_5 nin0) (ninS ned_5 nin0)
  obtain ⟨v45, T45, L45, X45, Q45, st45⟩ := own_backF X35 hx hZ hown (xi := own_y48) (hw 236 rfl) (hw 237 rfl) (mvT hZ (hw 238 rfl)) (hw 239 rfl) (hw 240 rfl) (hw 241 rfl) (hw 242 rfl) (hw 243 rfl) (by decide) (backOf (W := 0) (rmA1M l Z a0 hw [] T35.heap n0 a1 g1n _ ed0 k00 _ (by simp) r19_L ged0 n0 ged0 a5 "com/example/zellwerk/zellwerk/model/Area" Ey1 (hw 268 rfl)) hZ (hw 244 rfl) (hw 2 rfl) (by decide) (by decide)) (b := a1) r19_L.1.1 (g := (mkF m 97 #[.val (.int ct), .val (.int lo), .val (.int sp), .val (.int zz), .val (.int (2 : Int32)), .val (.double mi), .second, .val (.double mx), .second, .val (.ref a1), .unset, .unset, .unset] [(.ref a5), (.ref a1)])) rfl (by rw [hml]; rfl) (argsL := [(.ref a5)]) (rest := []) (lenOf pd__Ljava_lang_Object__Z rfl) rfl rfl (Nat.le_of_eq rfl) (hb hby at_97) rfl (by decide) (by decide)
  obtain ⟨ed1, k10, rfl, N45q, K45, ged1, gel1, L50⟩ := Q45
  have N45 := Fr.app N35 N45q
  refine own_go st45 ?_
  show own_R _ _ _ _ T45 (mkF m 102 #[.val (.int ct), .val (.int lo), .val (.int sp), .val (.int zz), .val (.int (2 : Int32)), .val (.double mi), .second, .val (.double mx), .second, .val (.ref a1), .unset, .unset, .unset] [(.int (1 : Int32))])
  have r20_Od := r17_Od.keep K45 (allS (P := fun z => n0 ≤ z) g1n (allS ged0 all0))
  have r21_Ey0 := r18_Ey0.keep K45
  have r22_Ey1 := Ey1.keep K45
  refine own_go (fun _ => XS.pop X45.here hx rfl (hb hby at_102) rfl rfl) ?_
  refine own_go (fun _ => XS.iload X45.here hx rfl (hb hby at_103) rfl ) ?_
  refine own_go (fun _ => XS.iconst X45.here hx rfl (hb hby at_105)) ?_
  show own_R _ _ _ _ T45 (mkF m 106 #[.val (.int ct), .val (.int lo), .val (.int sp), .val (.int zz), .val (.int (2 : Int32)), .val (.double mi), .second, .val (.double mx), .second, .val (.ref a1), .unset, .unset, .unset] [(.int (3 : Int32)), (.int (2 : Int32))])
  refine own_go (fun _ => XS.icmpYes X45.here hx rfl (pc0 := 106) (pc' := 138) rfl (hb hby at_106) rfl (tlt (by decide : (2 : Int32) < (3 : Int32))).1 (by decide) (by decide)) ?_
  show own_R _ _ _ _ T45 (mkF m 138 #[.val (.int ct), .val (.int lo), .val (.int sp), .val (.int zz), .val (.int (2 : Int32)), .val (.double mi), .second, .val (.double mx), .second, .val (.ref a1), .unset, .unset, .unset] [])
  obtain ⟨T8, h8, X8, e8, E8, A8, D8, -, st8⟩ := newO X45 hx hZ hown (hw 26 rfl) (hw 27 rfl) (hw 28 rfl) rfl (g := (mkF m 138 #[.val (.int ct), .val (.int lo), .val (.int sp), .val (.int zz), .val (.int (2 : Int32)), .val (.double mi), .second, .val (.double mx), .second, .val (.ref a1), .unset, .unset, .unset] [])) rfl (hb hby at_138) (by decide) (by decide)
  obtain ⟨a8, g8⟩ : ∃ z, z = T45.heap.size := ⟨_, rfl⟩
  rw [← g8] at A8 D8 st8
  refine own_go st8 ?_
  show own_R _ _ _ _ T8 (mkF m 141 #[.val (.int ct), .val (.int lo), .val (.int sp), .val (.int zz), .val (.int (2 : Int32)), .val (.double mi), .second, .val (.double mx), .second, .val (.ref a1), .unset, .unset, .unset] [(.ref a8)])
  have g8n : n0 ≤ a8 := Nat.le_trans (r20_Od.1 ▸ r20_Od.2.1) (Nat.le_of_eq g8.symm)
  have r23_Od := r20_Od.ext E8
  have r24_Ey0 := r21_Ey0.ext E8
  have r25_Ey1 := r22_Ey1.ext E8
  have r26_L := L50.ext E8
  have CsafeZ := D8 (Or.inr (hw 80 rfl)) (ty := .double) (by decide)
  have Crobots := D8 (Or.inr (hw 82 rfl)) (ty := (.object "java/util/List")) (by decide)
  have Cfeeders := D8 (Or.inr (hw 84 rfl)) (ty := (.object "java/util/List")) (by decide)
  have Careas := D8 (Or.inr (hw 86 rfl)) (ty := (.object "java/util/List")) (by decide)
  have CcoupleS := D8 (Or.inr (hw 88 rfl)) (ty := .double) (by decide)
  have Cgrippers := D8 (Or.inr (hw 90 rfl)) (ty := (.object "java/util/List")) (by decide)
  have Cports := D8 (Or.inr (hw 92 rfl)) (ty := (.object "java/util/List")) (by decide)
  refine own_go (fun _ => XS.dup X8.here hx rfl (hb hby at_141) rfl rfl) ?_
  refine own_go (fun _ => XS.iloadN X8.here hx rfl (hb hby at_142) rfl ) ?_
  refine own_go (fun _ => XS.sipush X8.here hx rfl (hb hby at_143)) ?_
  refine own_go (fun _ => XS.iand X8.here hx rfl (hb hby at_146) rfl) ?_
  refine own_go (fun _ => XS.i2dS X8.here hx rfl (hb hby at_147) rfl rfl) ?_
  show own_R _ _ _ _ T8 (mkF m 148 #[.val (.int ct), .val (.int lo), .val (.int sp), .val (.int zz), .val (.int (2 : Int32)), .val (.double mi), .second, .val (.double mx), .second, .val (.ref a1), .unset, .unset, .unset] [(.double (FP.i2d (zz &&& (1023 : Int32)))), (.ref a8), (.ref a8)])
  obtain ⟨T10, h10, X10, e10, E10, A10, D10, -, st10⟩ := newO X8 hx hZ hown (hw 0 rfl) (hw 1 rfl) (hw 2 rfl) e8 (g := (mkF m 148 #[.val (.int ct), .val (.int lo), .val (.int sp), .val (.int zz), .val (.int (2 : Int32)), .val (.double mi), .second, .val (.double mx), .second, .val (.ref a1), .unset, .unset, .unset] [(.double (FP.i2d (zz &&& (1023 : Int32)))), (.ref a8), (.ref a8)])) rfl (hb hby at_148) (by decide) (by decide)
  obtain ⟨a10, g10⟩ : ∃ z, z = h8.size := ⟨_, rfl⟩
  rw [← g10] at A10 D10 st10
  refine own_go st10 ?_
  show own_R _ _ _ _ T10 (mkF m 151 #[.val (.int ct), .val (.int lo), .val (.int sp), .val (.int zz), .val (.int (2 : Int32)), .val (.double mi), .second, .val (.double mx), .second, .val (.ref a1), .unset, .unset, .unset] [(.ref a10), (.double (FP.i2d (zz &&& (1023 : Int32)))), (.ref a8), (.ref a8)])
  have g10n : n0 ≤ a10 := Nat.le_trans (r23_Od.1 ▸ r23_Od.2.1) (Nat.le_of_eq g10.symm)
  have na4_10 := own_nd (b := a10) r24_Ey0.lt (Nat.le_of_eq g10.symm)
  have na5_10 := own_nd (b := a10) r25_Ey1.lt (Nat.le_of_eq g10.symm)
  have na1_10 := own_nd (b := a10) r26_L.1.1.lt (Nat.le_of_eq g10.symm)
  have ned1_10 := own_nd (b := a10) r26_L.2.1.lt (Nat.le_of_eq g10.symm)
  have na8_10 := own_nd (b := a10) A8.lt (Nat.le_of_eq g10.symm)
  have r27_Od := r23_Od.ext E10
  have r28_Ey0 := r24_Ey0.ext E10
  have r29_Ey1 := r25_Ey1.ext E10
  have r30_L := r26_L.ext E10
  have r31_CsafeZ := CsafeZ.ext E10
  have r32_Crobots := Crobots.ext E10
  have r33_Cfeeders := Cfeeders.ext E10
  have r34_Careas := Careas.ext E10
  have r35_CcoupleS := CcoupleS.ext E10
  have r36_Cgrippers := Cgrippers.ext E10
  have r37_Cports := Cports.ext E10
  have r38_Ec := A8.ext E10
  refine own_go (fun _ => XS.dup X10.here hx rfl (hb hby at_151) rfl rfl) ?_
  show own_R _ _ _ _ T10 (mkF m 152 #[.val (.int ct), .val (.int lo), .val (.int sp), .val (.int zz), .val (.int (2 : Int32)), .val (.double mi), .second, .val (.double mx), .second, .val (.ref a1), .unset, .unset, .unset] [(.ref a10), (.ref a10), (.double (FP.i2d (zz &&& (1023 : Int32)))), (.ref a8), (.ref a8)])
  obtain ⟨v100, T100, L100, X100, Q100, st100⟩ := own_callI X10 hx hZ hown (y := own_y18) rfl (hw 3 rfl) (hw 4 rfl) (hw 5 rfl) (hw 2 rfl) (by decide) (rmAL l Z a0 hw [] h10 n0 a10 g10n A10 (D10 (Or.inl (hw 25 rfl)) (ty := (.array (.object "java/lang/Object"))) (by decide)) (D10 (Or.inl (hw 69 rfl)) (ty := .int) (by decide)) (D10 (Or.inl (hw 22 rfl)) (ty := .int) (by decide)) de G.1 r27_Od) (W := 5) (g := (mkF m 152 #[.val (.int ct), .val (.int lo), .val (.int sp), .val (.int zz), .val (.int (2 : Int32)), .val (.double mi), .second, .val (.double mx), .second, .val (.ref a1), .unset, .unset, .unset] [(.ref a10), (.ref a10), (.double (FP.i2d (zz &&& (1023 : Int32)))), (.ref a8), (.ref a8)])) rfl (by rw [hml]; rfl) (a := a10) (argsL := []) (rest := [(.ref a10), (.double (FP.i2d (zz &&& (1023 : Int32)))), (.ref a8), (.ref a8)]) (lenOf pd___V rfl) rfl rfl (Nat.le_of_eq rfl) (hb hby at_152) e10 (by decide) (by decide) (by decide) (by decide)
  obtain ⟨rfl, N100q, K100, AL10⟩ := Q100
  have N100 := Fr.app N45 N100q
  refine own_go st100 ?_
  show own_R _ _ _ _ T100 (mkF m 155 #[.val (.int ct), .val (.int lo), .val (.int sp), .val (.int zz), .val (.int (2 : Int32)), .val (.double mi), .second, .val (.double mx), .second, .val (.ref a1), .unset, .unset, .unset] [(.ref a10), (.double (FP.i2d (zz &&& (1023 : Int32)))), (.ref a8), (.ref a8)])
  have r39_Od := r27_Od.keep K100 (fun z hz => by cases List.mem_singleton.mp hz; exact g10n)
  have r40_Ey0 := r28_Ey0.keep K100
  have r41_Ey1 := r29_Ey1.keep K100
  have r42_L := r30_L.keep K100 (ninS na1_10 nin0) (ninS ned1_10 nin0)
  have r43_CsafeZ := r31_CsafeZ.keep K100 (ninS na8_10 nin0)
  have r44_Crobots := r32_Crobots.keep K100 (ninS na8_10 nin0)
  have r45_Cfeeders := r33_Cfeeders.keep K100 (ninS na8_10 nin0)
  have r46_Careas := r34_Careas.keep K100 (ninS na8_10 nin0)
  have r47_CcoupleS := r35_CcoupleS.keep K100 (ninS na8_10 nin0)
  have r48_Cgrippers := r36_Cgrippers.keep K100 (ninS na8_10 nin0)
  have r49_Cports := r37_Cports.keep K100 (ninS na8_10 nin0)
  have r50_Ec := r38_Ec.keep K100
  obtain ⟨T11, h11, X11, e11, E11, A11, D11, -, st11⟩ := newO X100 hx hZ hown (hw 0 rfl) (hw 1 rfl) (hw 2 rfl) rfl (g := (mkF m 155 #[.val (.int ct), .val (.int lo), .val (.int sp), .val (.int zz), .val (.int (2 : Int32)), .val (.double mi), .second, .val (.double mx), .second, .val (.ref a1), .unset, .unset, .unset] [(.ref a10), (.double (FP.i2d (zz &&& (1023 : Int32)))), (.ref a8), (.ref a8)])) rfl (hb hby at_155) (by decide) (by decide)
  obtain ⟨a11, g11⟩ : ∃ z, z = T100.heap.size := ⟨_, rfl⟩
  rw [← g11] at A11 D11 st11
  refine own_go st11 ?_
  show own_R _ _ _ _ T11 (mkF m 158 #[.val (.int ct), .val (.int lo), .val (.int sp), .val (.int zz), .val (.int (2 : Int32)), .val (.double mi), .second, .val (.double mx), .second, .val (.ref a1), .unset, .unset, .unset] [(.ref a11), (.ref a10), (.double (FP.i2d (zz &&& (1023 : Int32)))), (.ref a8), (.ref a8)])
  have g11n : n0 ≤ a11 := Nat.le_trans (r39_Od.1 ▸ r39_Od.2.1) (Nat.le_of_eq g11.symm)
  have na4_11 := own_nd (b := a11) r40_Ey0.lt (Nat.le_of_eq g11.symm)
  have na5_11 := own_nd (b := a11) r41_Ey1.lt (Nat.le_of_eq g11.symm)
  have na1_11 := own_nd (b := a11) r42_L.1.1.lt (Nat.le_of_eq g11.symm)
  have ned1_11 := own_nd (b := a11) r42_L.2.1.lt (Nat.le_of_eq g11.symm)
  have na8_11 := own_nd (b := a11) r50_Ec.lt (Nat.le_of_eq g11.symm)
  have na10_11 := own_nd (b := a11) AL10.1.lt (Nat.le_of_eq g11.symm)
  have r51_Od := r39_Od.ext E11
  have r52_Ey0 := r40_Ey0.ext E11
  have r53_Ey1 := r41_Ey1.ext E11
  have r54_L := r42_L.ext E11
  have r55_CsafeZ := r43_CsafeZ.ext E11
  have r56_Crobots := r44_Crobots.ext E11
  have r57_Cfeeders := r45_Cfeeders.ext E11
  have r58_Careas := r46_Careas.ext E11
  have r59_CcoupleS := r47_CcoupleS.ext E11
  have r60_Cgrippers := r48_Cgrippers.ext E11
  have r61_Cports := r49_Cports.ext E11
  have r62_Ec := r50_Ec.ext E11
  have r63_AL10 := AL10.ext E11
  refine own_go (fun _ => XS.dup X11.here hx rfl (hb hby at_158) rfl rfl) ?_
  show own_R _ _ _ _ T11 (mkF m 159 #[.val (.int ct), .val (.int lo), .val (.int sp), .val (.int zz), .val (.int (2 : Int32)), .val (.double mi), .second, .val (.double mx), .second, .val (.ref a1), .unset, .unset, .unset] [(.ref a11), (.ref a11), (.ref a10), (.double (FP.i2d (zz &&& (1023 : Int32)))), (.ref a8), (.ref a8)])
  obtain ⟨v110, T110, L110, X110, Q110, st110⟩ := own_callI X11 hx hZ hown (y := own_y18) rfl (hw 3 rfl) (hw 4 rfl) (hw 5 rfl) (hw 2 rfl) (by decide) (rmAL l Z a0 hw [] h11 n0 a11 g11n A11 (D11 (Or.inl (hw 25 rfl)) (ty := (.array (.object "java/lang/Object"))) (by decide)) (D11 (Or.inl (hw 69 rfl)) (ty := .int) (by decide)) (D11 (Or.inl (hw 22 rfl)) (ty := .int) (by decide)) de G.1 r51_Od) (W := 6) (g := (mkF m 159 #[.val (.int ct), .val (.int lo), .val (.int sp), .val (.int zz), .val (.int (2 : Int32)), .val (.double mi), .second, .val (.double mx), .second, .val (.ref a1), .unset, .unset, .unset] [(.ref a11), (.ref a11), (.ref a10), (.double (FP.i2d (zz &&& (1023 : Int32)))), (.ref a8), (.ref a8)])) rfl (by rw [hml]; rfl) (a := a11) (argsL := []) (rest := [(.ref a11), (.ref a10), (.double (FP.i2d (zz &&& (1023 : Int32)))), (.ref a8), (.ref a8)]) (lenOf pd___V rfl) rfl rfl (Nat.le_of_eq rfl) (hb hby at_159) e11 (by decide) (by decide) (by decide) (by decide)
  obtain ⟨rfl, N110q, K110, AL11⟩ := Q110
  have N110 := Fr.app N100 N110q
  refine own_go st110 ?_
  show own_R _ _ _ _ T110 (mkF m 162 #[.val (.int ct), .val (.int lo), .val (.int sp), .val (.int zz), .val (.int (2 : Int32)), .val (.double mi), .second, .val (.double mx), .second, .val (.ref a1), .unset, .unset, .unset] [(.ref a11), (.ref a10), (.double (FP.i2d (zz &&& (1023 : Int32)))), (.ref a8), (.ref a8)])
  have r64_Od := r51_Od.keep K110 (fun z hz => by cases List.mem_singleton.mp hz; exact g11n)
  have r65_Ey0 := r52_Ey0.keep K110
  have r66_Ey1 := r53_Ey1.keep K110
  have r67_L := r54_L.keep K110 (ninS na1_11 nin0) (ninS ned1_11 nin0)
  have r68_CsafeZ := r55_CsafeZ.keep K110 (ninS na8_11 nin0)
  have r69_Crobots := r56_Crobots.keep K110 (ninS na8_11 nin0)
  have r70_Cfeeders := r57_Cfeeders.keep K110 (ninS na8_11 nin0)
  have r71_Careas := r58_Careas.keep K110 (ninS na8_11 nin0)
  have r72_CcoupleS := r59_CcoupleS.keep K110 (ninS na8_11 nin0)
  have r73_Cgrippers := r60_Cgrippers.keep K110 (ninS na8_11 nin0)
  have r74_Cports := r61_Cports.keep K110 (ninS na8_11 nin0)
  have r75_Ec := r62_Ec.keep K110
  have r76_AL10 := r63_AL10.keep K110 (ninS na10_11 nin0)
  refine own_go (fun _ => XS.aload X110.here hx rfl (hb hby at_162) rfl rfl) ?_
  show own_R _ _ _ _ T110 (mkF m 164 #[.val (.int ct), .val (.int lo), .val (.int sp), .val (.int zz), .val (.int (2 : Int32)), .val (.double mi), .second, .val (.double mx), .second, .val (.ref a1), .unset, .unset, .unset] [(.ref a1), (.ref a11), (.ref a10), (.double (FP.i2d (zz &&& (1023 : Int32)))), (.ref a8), (.ref a8)])
  have lta := r75_Ec.lt
  obtain ⟨v12, T12, L12, X12, Q12, st12⟩ := own_callI X110 hx hZ hown (y := own_y1) rfl (hw 29 rfl) (hw 30 rfl) (hw 31 rfl) (hw 28 rfl) (by decide) (rmCe l Z a0 hw [] T110.heap n0 de kd el ea ka em mr G r64_Od a8 a10 a11 a1 _ g8n r75_Ec r68_CsafeZ r69_Crobots r70_Cfeeders r71_Careas r72_CcoupleS r73_Cgrippers r74_Cports r76_AL10.1 r76_AL10.2.2.1 AL11.1 AL11.2.2.1 (own_Qi Z a4 a5 T110.heap n0) (rmCO2 l Z a0 hw [] T110.heap n0 de kd el ea ka em mr G r64_Od a4 a5 r65_Ey0 r66_Ey1 a1 ed1 k10 _ r67_L) (fun _ _ _ ⟨x, q1, q2, q3, _⟩ => ⟨x, q1, q2, q3⟩)) (W := 1) (g := (mkF m 164 #[.val (.int ct), .val (.int lo), .val (.int sp), .val (.int zz), .val (.int (2 : Int32)), .val (.double mi), .second, .val (.double mx), .second, .val (.ref a1), .unset, .unset, .unset] [(.ref a1), (.ref a11), (.ref a10), (.double (FP.i2d (zz &&& (1023 : Int32)))), (.ref a8), (.ref a8)])) rfl (by rw [hml]; rfl) (a := a8) (argsL := [(.double (FP.i2d (zz &&& (1023 : Int32)))), (.ref a10), (.ref a11), (.ref a1)]) (rest := [(.ref a8)]) (lenOf pd__DLjava_util_List_Ljava_util_List_Ljava_util_List__V rfl) rfl rfl (Nat.le_of_eq rfl) (hb hby at_164) rfl (by decide) (by decide) (by decide) (by decide)
  obtain ⟨x, h1c, L1c, rfl, N12q, K12, Ec12, Fa12, Qc, Kc⟩ := Q12
  have N12 := Fr.app N110 N12q
  refine own_go st12 ?_
  show own_R _ _ _ _ T12 (mkF m 167 #[.val (.int ct), .val (.int lo), .val (.int sp), .val (.int zz), .val (.int (2 : Int32)), .val (.double mi), .second, .val (.double mx), .second, .val (.ref a1), .unset, .unset, .unset] [(.ref a8)])
  obtain ⟨x2, qx, -, -, gx12, I0⟩ := Qc
  cases qx
  have I12 := own_I12.keep I0 Kc (own_ni (Ne.symm (own_nd lta gx12)))
  have r77_Od := r64_Od.keep K12 (fun z hz => by cases List.mem_singleton.mp hz; exact g8n)
  have r78_Ey0 := r65_Ey0.keep K12
  have r79_Ey1 := r66_Ey1.keep K12
  refine own_go (fun _ => XS.astore X12.here hx rfl (hb hby at_167) rfl rfl (l' := #[.val (.int ct), .val (.int lo), .val (.int sp), .val (.int zz), .val (.int (2 : Int32)), .val (.double mi), .second, .val (.double mx), .second, .val (.ref a1), .val (.ref a8), .unset, .unset]) rfl) ?_
  show own_R _ _ _ _ T12 (mkF m 169 #[.val (.int ct), .val (.int lo), .val (.int sp), .val (.int zz), .val (.int (2 : Int32)), .val (.double mi), .second, .val (.double mx), .second, .val (.ref a1), .val (.ref a8), .unset, .unset] [])
  obtain ⟨T13, h13, X13, e13, E13, A13, D13, -, st13⟩ := newO X12 hx hZ hown (hw 93 rfl) (hw 94 rfl) (hw 95 rfl) rfl (g := (mkF m 169 #[.val (.int ct), .val (.int lo), .val (.int sp), .val (.int zz), .val (.int (2 : Int32)), .val (.double mi), .second, .val (.double mx), .second, .val (.ref a1), .val (.ref a8), .unset, .unset] [])) rfl (hb hby at_169) (by decide) (by decide)
  obtain ⟨a13, g13⟩ : ∃ z, z = T12.heap.size := ⟨_, rfl⟩
  rw [← g13] at A13 D13 st13
  refine own_go st13 ?_
  show own_R _ _ _ _ T13 (mkF m 172 #[.val (.int ct), .val (.int lo), .val (.int sp), .val (.int zz), .val (.int (2 : Int32)), .val (.double mi), .second, .val (.double mx), .second, .val (.ref a1), .val (.ref a8), .unset, .unset] [(.ref a13)])
  have g13n : n0 ≤ a13 := Nat.le_trans (r77_Od.1 ▸ r77_Od.2.1) (Nat.le_of_eq g13.symm)
  have nce := own_nd (b := a13) Ec12.lt (Nat.le_of_eq g13.symm)
  have nxh := own_nd (b := a13) I12.1.lt (Nat.le_of_eq g13.symm)
  have r80_Od := r77_Od.ext E13
  have r81_Ey0 := r78_Ey0.ext E13
  have r82_Ey1 := r79_Ey1.ext E13
  have r83_I := I12.ext E13
  have r84_Ec := Ec12.ext E13
  have r85_Fa := Fa12.ext E13
  refine own_go (fun _ => XS.dup X13.here hx rfl (hb hby at_172) rfl rfl) ?_
  refine own_go (fun _ => XS.aload X13.here hx rfl (hb hby at_173) rfl rfl) ?_
  show own_R _ _ _ _ T13 (mkF m 175 #[.val (.int ct), .val (.int lo), .val (.int sp), .val (.int zz), .val (.int (2 : Int32)), .val (.double mi), .second, .val (.double mx), .second, .val (.ref a1), .val (.ref a8), .unset, .unset] [(.ref a8), (.ref a13), (.ref a13)])
  have qe : a5 ≠ em := Ne.symm (own_nd (b := a5) G.2.2.2.2.2.2.2.2.1.lt (r80_Od.1 ▸ g5n))
  obtain ⟨v14, T14, L14, X14, Q14, st14⟩ := own_callI X13 hx hZ hown (y := own_y4) rfl (hw 96 rfl) (hw 97 rfl) (hw 98 rfl) (hw 95 rfl) (by decide) (rmHi2 l Z a0 hw [] h13 n0 de kd el ea ka em mr G r80_Od x a4 a5 r83_I qe cK M Si a13 a8 g13n A13 (D13 (Or.inr (hw 103 rfl)) (ty := (.object "java/util/List")) (by decide)) (D13 (Or.inr (hw 105 rfl)) (ty := (.object "com/example/zellwerk/zellwerk/model/Cell")) (by decide)) (D13 (Or.inr (hw 124 rfl)) (ty := (.array .int)) (by decide)) (D13 (Or.inr (hw 127 rfl)) (ty := (.array .double)) (by decide)) (D13 (Or.inr (hw 129 rfl)) (ty := (.array .double)) (by decide)) r84_Ec r85_Fa nce nxh r81_Ey0 r82_Ey1) (W := 1) (g := (mkF m 175 #[.val (.int ct), .val (.int lo), .val (.int sp), .val (.int zz), .val (.int (2 : Int32)), .val (.double mi), .second, .val (.double mx), .second, .val (.ref a1), .val (.ref a8), .unset, .unset] [(.ref a8), (.ref a13), (.ref a13)])) rfl (by rw [hml]; rfl) (a := a13) (argsL := [(.ref a8)]) (rest := [(.ref a13)]) (lenOf pd__Lcom_example_zellwerk_zellwerk_model_Cell__V rfl) rfl rfl (Nat.le_of_eq rfl) (hb hby at_175) e13 (by decide) (by decide) (by decide) (by decide)
  obtain ⟨ua, ku, rfl, N14q, E14, F14, A14⟩ := Q14
  have N14 := Fr.app N12 N14q
  refine own_go st14 ?_
  show own_R _ _ _ _ T14 (mkF m 178 #[.val (.int ct), .val (.int lo), .val (.int sp), .val (.int zz), .val (.int (2 : Int32)), .val (.double mi), .second, .val (.double mx), .second, .val (.ref a1), .val (.ref a8), .unset, .unset] [(.ref a13)])
  refine own_go (fun _ => XS.astore X14.here hx rfl (hb hby at_178) rfl rfl (l' := #[.val (.int ct), .val (.int lo), .val (.int sp), .val (.int zz), .val (.int (2 : Int32)), .val (.double mi), .second, .val (.double mx), .second, .val (.ref a1), .val (.ref a8), .val (.ref a13), .unset]) rfl) ?_
  refine own_go (fun _ => XS.iload X14.here hx rfl (hb hby at_180) rfl ) ?_
  show own_R _ _ _ _ T14 (mkF m 182 #[.val (.int ct), .val (.int lo), .val (.int sp), .val (.int zz), .val (.int (2 : Int32)), .val (.double mi), .second, .val (.double mx), .second, .val (.ref a1), .val (.ref a8), .val (.ref a13), .unset] [(.int (2 : Int32))])
  refine own_go (fun _ => XS.ifNo X14.here hx rfl (hb hby at_182) rfl ((if0 _ _).trans (tlt (by decide : (0 : Int32) < (2 : Int32))).2.2.2)) ?_
  show own_R _ _ _ _ T14 (mkF m 185 #[.val (.int ct), .val (.int lo), .val (.int sp), .val (.int zz), .val (.int (2 : Int32)), .val (.double mi), .second, .val (.double mx), .second, .val (.ref a1), .val (.ref a8), .val (.ref a13), .unset] [])
  refine own_go (fun _ => XS.iconst X14.here hx rfl (hb hby at_185)) ?_
  refine own_go (fun _ => XS.goto X14.here hx rfl (pc0 := 186) (pc' := 190) rfl (hb hby at_186) (by decide) (by decide)) ?_
  refine own_go (fun _ => XS.istore X14.here hx rfl (hb hby at_190) rfl (l' := #[.val (.int ct), .val (.int lo), .val (.int sp), .val (.int zz), .val (.int (2 : Int32)), .val (.double mi), .second, .val (.double mx), .second, .val (.ref a1), .val (.ref a8), .val (.ref a13), .val (.int (1 : Int32))]) rfl) ?_
  refine own_go (fun _ => XS.aload X14.here hx rfl (hb hby at_192) rfl rfl) ?_
  show own_R _ _ _ _ T14 (mkF m 194 #[.val (.int ct), .val (.int lo), .val (.int sp), .val (.int zz), .val (.int (2 : Int32)), .val (.double mi), .second, .val (.double mx), .second, .val (.ref a1), .val (.ref a8), .val (.ref a13), .val (.int (1 : Int32))] [(.ref a13)])
  obtain ⟨v15, T15, L15, X15, Q15, st15⟩ := own_callV X14 hx hZ hown (y := own_y5) (hw 188 rfl) (hw 189 rfl) (hw 191 rfl) (hw 190 rfl) (hw 192 rfl) (hw 95 rfl) (by decide) (rmAny1 l Z a0 hw [] T14.heap n0 a13 ua ku (Int32.ofNat 2) (by decide) F14 A14) E14 (W := 0) (g := (mkF m 194 #[.val (.int ct), .val (.int lo), .val (.int sp), .val (.int zz), .val (.int (2 : Int32)), .val (.double mi), .second, .val (.double mx), .second, .val (.ref a1), .val (.ref a8), .val (.ref a13), .val (.int (1 : Int32))] [(.ref a13)])) rfl (by rw [hml]; rfl) (b := a13) (argsL := []) (rest := []) (lenOf pd___Z rfl) rfl rfl (Nat.le_of_eq rfl) (hb hby at_194) rfl (by decide) (by decide) (by decide) (by decide)
  obtain ⟨rfl, N15q, e15⟩ := Q15
  have N15 := Fr.app N14 N15q
  refine own_go st15 ?_
  show own_R _ _ _ _ T15 (mkF m 197 #[.val (.int ct), .val (.int lo), .val (.int sp), .val (.int zz), .val (.int (2 : Int32)), .val (.double mi), .second, .val (.double mx), .second, .val (.ref a1), .val (.ref a8), .val (.ref a13), .val (.int (1 : Int32))] [(.int (1 : Int32))])
  refine own_go (fun _ => XS.iload X15.here hx rfl (hb hby at_197) rfl ) ?_
  show own_R _ _ _ _ T15 (mkF m 199 #[.val (.int ct), .val (.int lo), .val (.int sp), .val (.int zz), .val (.int (2 : Int32)), .val (.double mi), .second, .val (.double mx), .second, .val (.ref a1), .val (.ref a8), .val (.ref a13), .val (.int (1 : Int32))] [(.int (1 : Int32)), (.int (1 : Int32))])
  refine own_go (fun _ => XS.icmpNo X15.here hx rfl (hb hby at_199) rfl (teq (rfl : (1 : Int32) = (1 : Int32))).2) ?_
  show own_R _ _ _ _ T15 (mkF m 202 #[.val (.int ct), .val (.int lo), .val (.int sp), .val (.int zz), .val (.int (2 : Int32)), .val (.double mi), .second, .val (.double mx), .second, .val (.ref a1), .val (.ref a8), .val (.ref a13), .val (.int (1 : Int32))] [])
  refine own_go (fun _ => XS.iconst X15.here hx rfl (hb hby at_202)) ?_
  refine own_go (fun _ => XS.goto X15.here hx rfl (pc0 := 203) (pc' := 207) rfl (hb hby at_203) (by decide) (by decide)) ?_
  show own_R _ _ _ _ T15 (mkF m 207 #[.val (.int ct), .val (.int lo), .val (.int sp), .val (.int zz), .val (.int (2 : Int32)), .val (.double mi), .second, .val (.double mx), .second, .val (.ref a1), .val (.ref a8), .val (.ref a13), .val (.int (1 : Int32))] [(.int (1 : Int32))])
  exact own_endN X15 (some (.int (nar .boolean (1 : Int32)))) (fun h => by rw [hret] at h; cases h) hlk (fun fs hr => retN X15 hx (t := .boolean) hret (by simp) (hb hby at_207) hr) ⟨rfl, N15⟩ (by decide) (by decide)
set_option maxRecDepth 65536 in
set_option maxHeartbeats 80000000 in
theorem rm0_3 (l : Launch) (Z : State) (a0 : Array Value) (hw : own_T a0 Z) (ws : List Jvm.Cond) (h0 : Heap) (n0 : Nat) (de : Addr) (kd : ClassId) (el ea : Addr) (ka : ClassId) (em mr : Addr) (G : own_G Z de kd el ea ka em mr) (Od : Old Z n0 h0) (zc : Int32) (OS : Sta Z Z.heap "java/lang/String" "COMPACT_STRINGS" "Z" (.int zc)) (hzc : ¬ zc = 0) (ct lo sp zz : Int32) (hn : (ct &&& (3 : Int32)) = (3 : Int32))  :
    own_CW l Z x code maxLocals ret ws room_1 #[(.int ct), (.int lo), (.int sp), (.int zz)] h0 (own_Q0 n0) := by
  refine own_bodyW (ls := #[.val (.int ct), .val (.int lo), .val (.int sp), .val (.int zz), .unset, .unset, .unset, .unset, .unset, .unset, .unset, .unset, .unset]) pn_0 (fun m => by first | (simp [entryFrame, mkF, argsToLocals, Value.category, maxLocals]; done) | rfl) ?_
  intro p e s m below meth c T0 hZ hx hby hml hown hnm hret hlk X0 e0
  replace hml : c.maxLocals = 13 := hml
  have N0 := Fr.nil n0
  obtain ⟨cK, M, Si⟩ := own_lam (hw 134 rfl) (hw 137 rfl) (hw 342 rfl) (hw 344 rfl) (hw 194 rfl)
  refine own_go (fun _ => XS.iloadN X0.here hx rfl (hb hby at_0) rfl ) ?_
  refine own_go (fun _ => XS.iconst X0.here hx rfl (hb hby at_1)) ?_
  refine own_go (fun _ => XS.iand X0.here hx rfl (hb hby at_2) rfl) ?_
  show own_R _ _ _ _ T0 (mkF m 3 #[.val (.int ct), .val (.int lo), .val (.int sp), .val (.int zz), .unset, .unset, .unset, .unset, .unset, .unset, .unset, .unset, .unset] [(.int (ct &&& (3 : Int32)))])
  rw [hn]
  show own_R _ _ _ _ T0 (mkF m 3 #[.val (.int ct), .val (.int lo), .val (.int sp), .val (.int zz), .unset, .unset, .unset, .unset, .unset, .unset, .unset, .unset, .unset] [(.int (3 : Int32))])
  refine own_go (fun _ => XS.istore X0.here hx rfl (hb hby at_3) rfl (l' := #[.val (.int ct), .val (.int lo), .val (.int sp), .val (.int zz), .val (.int (3 : Int32)), .unset, .unset, .unset, .unset, .unset, .unset, .unset, .unset]) rfl) ?_
  show own_R _ _ _ _ T0 (mkF m 5 #[.val (.int ct), .val (.int lo), .val (.int sp), .val (.int zz), .val (.int (3 : Int32)), .unset, .unset, .unset, .unset, .unset, .unset, .unset, .unset] [])
  refine own_go (fun _ => XS.iloadN X0.here hx rfl (hb hby at_5) rfl ) ?_
  refine own_go (fun _ => XS.sipush X0.here hx rfl (hb hby at_6)) ?_
  refine own_go (fun _ => XS.iand X0.here hx rfl (hb hby at_9) rfl) ?_
  refine own_go (fun _ => XS.i2dS X0.here hx rfl (hb hby at_10) rfl rfl) ?_
  refine own_go (fun _ => XS.dstore X0.here hx rfl (hb hby at_11) rfl (l' := #[.val (.int ct), .val (.int lo), .val (.int sp), .val (.int zz), .val (.int (3 : Int32)), .val (.double (FP.i2d (lo &&& (255 : Int32)))), .second, .unset, .unset, .unset, .unset, .unset, .unset]) rfl) ?_
  refine own_go (fun _ => XS.dload X0.here hx rfl (hb hby at_13) rfl ) ?_
  refine own_go (fun _ => XS.iloadN X0.here hx rfl (hb hby at_15) rfl ) ?_
  refine own_go (fun _ => XS.sipush X0.here hx rfl (hb hby at_16)) ?_
  refine own_go (fun _ => XS.iand X0.here hx rfl (hb hby at_19) rfl) ?_
  show own_R _ _ _ _ T0 (mkF m 20 #[.val (.int ct), .val (.int lo), .val (.int sp), .val (.int zz), .val (.int (3 : Int32)), .val (.double (FP.i2d (lo &&& (255 : Int32)))), .second, .unset, .unset, .unset, .unset, .unset, .unset] [(.int (sp &&& (255 : Int32))), (.double (FP.i2d (lo &&& (255 : Int32))))])
  refine own_go (fun _ => XS.i2dS X0.here hx rfl (hb hby at_20) rfl rfl) ?_
  refine own_go (fun _ => XS.daddS X0.here hx rfl (hb hby at_21) rfl (own_sumNN _ _) rfl) ?_
  refine own_go (fun _ => XS.dstore X0.here hx rfl (hb hby at_22) rfl (l' := #[.val (.int ct), .val (.int lo), .val (.int sp), .val (.int zz), .val (.int (3 : Int32)), .val (.double (FP.i2d (lo &&& (255 : Int32)))), .second, .val (.double (FP.dadd (FP.i2d (lo &&& (255 : Int32))) (FP.i2d (sp &&& (255 : Int32))))), .second, .unset, .unset, .unset, .unset]) rfl) ?_
  show own_R _ _ _ _ T0 (mkF m 24 #[.val (.int ct), .val (.int lo), .val (.int sp), .val (.int zz), .val (.int (3 : Int32)), .val (.double (FP.i2d (lo &&& (255 : Int32)))), .second, .val (.double (FP.dadd (FP.i2d (lo &&& (255 : Int32))) (FP.i2d (sp &&& (255 : Int32))))), .second, .unset, .unset, .unset, .unset] [])
  generalize hmx : (FP.dadd (FP.i2d (lo &&& (255 : Int32))) (FP.i2d (sp &&& (255 : Int32)))) = mx
  show own_R _ _ _ _ T0 (mkF m 24 #[.val (.int ct), .val (.int lo), .val (.int sp), .val (.int zz), .val (.int (3 : Int32)), .val (.double (FP.i2d (lo &&& (255 : Int32)))), .second, .val (.double mx), .second, .unset, .unset, .unset, .unset] [])
  generalize hmi : (FP.i2d (lo &&& (255 : Int32))) = mi
  show own_R _ _ _ _ T0 (mkF m 24 #[.val (.int ct), .val (.int lo), .val (.int sp), .val (.int zz), .val (.int (3 : Int32)), .val (.double mi), .second, .val (.double mx), .second, .unset, .unset, .unset, .unset] [])
  obtain ⟨T1, h1, X1, e1, E1, A1, D1, -, st1⟩ := newO X0 hx hZ hown (hw 0 rfl) (hw 1 rfl) (hw 2 rfl) e0 (g := (mkF m 24 #[.val (.int ct), .val (.int lo), .val (.int sp), .val (.int zz), .val (.int (3 : Int32)), .val (.double mi), .second, .val (.double mx), .second, .unset, .unset, .unset, .unset] [])) rfl (hb hby at_24) (by decide) (by decide)
  obtain ⟨a1, g1⟩ : ∃ z, z = h0.size := ⟨_, rfl⟩
  rw [← g1] at A1 D1 st1
  refine own_go st1 ?_
  show own_R _ _ _ _ T1 (mkF m 27 #[.val (.int ct), .val (.int lo), .val (.int sp), .val (.int zz), .val (.int (3 : Int32)), .val (.double mi), .second, .val (.double mx), .second, .unset, .unset, .unset, .unset] [(.ref a1)])
  have g1n : n0 ≤ a1 := Nat.le_trans (Od.1 ▸ Od.2.1) (Nat.le_of_eq g1.symm)
  have r1_Od := Od.ext E1
  refine own_go (fun _ => XS.dup X1.here hx rfl (hb hby at_27) rfl rfl) ?_
  show own_R _ _ _ _ T1 (mkF m 28 #[.val (.int ct), .val (.int lo), .val (.int sp), .val (.int zz), .val (.int (3 : Int32)), .val (.double mi), .second, .val (.double mx), .second, .unset, .unset, .unset, .unset] [(.ref a1), (.ref a1)])
  obtain ⟨v10, T10, L10, X10, Q10, st10⟩ := own_callI X1 hx hZ hown (y := own_y18) rfl (hw 3 rfl) (hw 4 rfl) (hw 5 rfl) (hw 2 rfl) (by decide) (rmAL l Z a0 hw [] h1 n0 a1 g1n A1 (D1 (Or.inl (hw 25 rfl)) (ty := (.array (.object "java/lang/Object"))) (by decide)) (D1 (Or.inl (hw 69 rfl)) (ty := .int) (by decide)) (D1 (Or.inl (hw 22 rfl)) (ty := .int) (by decide)) de G.1 r1_Od) (W := 1) (g := (mkF m 28 #[.val (.int ct), .val (.int lo), .val (.int sp), .val (.int zz), .val (.int (3 : Int32)), .val (.double mi), .second, .val (.double mx), .second, .unset, .unset, .unset, .unset] [(.ref a1), (.ref a1)])) rfl (by rw [hml]; rfl) (a := a1) (argsL := []) (rest := [(.ref a1)]) (lenOf pd___V rfl) rfl rfl (Nat.le_of_eq rfl) (hb hby at_28) e1 (by decide) (by decide) (by decide) (by decide)
  obtain ⟨rfl, N10q, K10, AL1⟩ := Q10
  have N10 := Fr.app N0 N10q
  refine own_go st10 ?_
  show own_R _ _ _ _ T10 (mkF m 31 #[.val (.int ct), .val (.int lo), .val (.int sp), .val (.int zz), .val (.int (3 : Int32)), .val (.double mi), .second, .val (.double mx), .second, .unset, .unset, .unset, .unset] [(.ref a1)])
  have r2_Od := r1_Od.keep K10 (fun z hz => by cases List.mem_singleton.mp hz; exact g1n)
  refine own_go (fun _ => XS.astore X10.here hx rfl (hb hby at_31) rfl rfl (l' := #[.val (.int ct), .val (.int lo), .val (.int sp), .val (.int zz), .val (.int (3 : Int32)), .val (.double mi), .second, .val (.double mx), .second, .val (.ref a1), .unset, .unset, .unset]) rfl) ?_
  refine own_go (fun _ => XS.iload X10.here hx rfl (hb hby at_33) rfl ) ?_
  refine own_go (fun _ => XS.iconst X10.here hx rfl (hb hby at_35)) ?_
  show own_R _ _ _ _ T10 (mkF m 36 #[.val (.int ct), .val (.int lo), .val (.int sp), .val (.int zz), .val (.int (3 : Int32)), .val (.double mi), .second, .val (.double mx), .second, .val (.ref a1), .unset, .unset, .unset] [(.int (1 : Int32)), (.int (3 : Int32))])
  refine own_go (fun _ => XS.icmpNo X10.here hx rfl (hb hby at_36) rfl (flt (by decide : ¬ ((3 : Int32) < (1 : Int32)))).1) ?_
  show own_R _ _ _ _ T10 (mkF m 39 #[.val (.int ct), .val (.int lo), .val (.int sp), .val (.int zz), .val (.int (3 : Int32)), .val (.double mi), .second, .val (.double mx), .second, .val (.ref a1), .unset, .unset, .unset] [])
  refine own_go (fun _ => XS.aload X10.here hx rfl (hb hby at_39) rfl rfl) ?_
  show own_R _ _ _ _ T10 (mkF m 41 #[.val (.int ct), .val (.int lo), .val (.int sp), .val (.int zz), .val (.int (3 : Int32)), .val (.double mi), .second, .val (.double mx), .second, .val (.ref a1), .unset, .unset, .unset] [(.ref a1)])
  obtain ⟨T4, h4, X4, e4, E4, A4, D4, -, st4⟩ := newO X10 hx hZ hown (hw 193 rfl) (hw 194 rfl) (hw 195 rfl) rfl (g := (mkF m 41 #[.val (.int ct), .val (.int lo), .val (.int sp), .val (.int zz), .val (.int (3 : Int32)), .val (.double mi), .second, .val (.double mx), .second, .val (.ref a1), .unset, .unset, .unset] [(.ref a1)])) rfl (hb hby at_41) (by decide) (by decide)
  obtain ⟨a4, g4⟩ : ∃ z, z = T10.heap.size := ⟨_, rfl⟩
  rw [← g4] at A4 D4 st4
  refine own_go st4 ?_
  show own_R _ _ _ _ T4 (mkF m 44 #[.val (.int ct), .val (.int lo), .val (.int sp), .val (.int zz), .val (.int (3 : Int32)), .val (.double mi), .second, .val (.double mx), .second, .val (.ref a1), .unset, .unset, .unset] [(.ref a4), (.ref a1)])
  have g4n : n0 ≤ a4 := Nat.le_trans (r2_Od.1 ▸ r2_Od.2.1) (Nat.le_of_eq g4.symm)
  have n1_4 := own_nd (b := a4) AL1.1.lt (Nat.le_of_eq g4.symm)
  have r3_Od := r2_Od.ext E4
  have r4_AL1 := AL1.ext E4
  refine own_go (fun _ => XS.dup X4.here hx rfl (hb hby at_44) rfl rfl) ?_
  refine own_go (fun _ => XS.bipush X4.here hx rfl (hb hby at_45)) ?_
  show own_R _ _ _ _ T4 (mkF m 47 #[.val (.int ct), .val (.int lo), .val (.int sp), .val (.int zz), .val (.int (3 : Int32)), .val (.double mi), .second, .val (.double mx), .second, .val (.ref a1), .unset, .unset, .unset] [(.int (97 : Int32)), (.ref a4), (.ref a4), (.ref a1)])
  obtain ⟨v24, T24, L24, X24, Q24, st24⟩ := own_callS X4 hx hZ hown (y := own_y13) (hw 196 rfl) (hw 197 rfl) (hw 198 rfl) (hw 199 rfl) (by decide) (rmVO l Z a0 hw [] h4 n0 zc OS hzc r3_Od 97 (by decide) (r3_Od.1 ▸ r3_Od.2.1)) (W := 3) (g := (mkF m 47 #[.val (.int ct), .val (.int lo), .val (.int sp), .val (.int zz), .val (.int (3 : Int32)), .val (.double mi), .second, .val (.double mx), .second, .val (.ref a1), .unset, .unset, .unset] [(.int (97 : Int32)), (.ref a4), (.ref a4), (.ref a1)])) rfl (by rw [hml]; rfl) (argsL := [(.int (97 : Int32))]) (rest := [(.ref a4), (.ref a4), (.ref a1)]) (lenOf pd__C_Ljava_lang_String_ rfl) rfl rfl (Nat.le_of_eq rfl) (hb hby at_47) e4 (by decide) (by decide) (by decide) (by decide)
  obtain ⟨s4, rfl, N24q, K24, gs4⟩ := Q24
  have N24 := Fr.app N10 N24q
  refine own_go st24 ?_
  show own_R _ _ _ _ T24 (mkF m 50 #[.val (.int ct), .val (.int lo), .val (.int sp), .val (.int zz), .val (.int (3 : Int32)), .val (.double mi), .second, .val (.double mx), .second, .val (.ref a1), .unset, .unset, .unset] [(.ref s4), (.ref a4), (.ref a4), (.ref a1)])
  have r5_Od := r3_Od.keep K24 all0
  have r6_AL1 := r4_AL1.keep K24 nin0
  refine own_go (fun _ => XS.dload X24.here hx rfl (hb hby at_50) rfl ) ?_
  refine own_go (fun _ => XS.dload X24.here hx rfl (hb hby at_52) rfl ) ?_
  refine own_go (fun _ => XS.dload X24.here hx rfl (hb hby at_54) rfl ) ?_
  refine own_go (fun _ => XS.dload X24.here hx rfl (hb hby at_56) rfl ) ?_
  refine own_go (fun _ => XS.aconstNull X24.here hx rfl (hb hby at_58)) ?_
  show own_R _ _ _ _ T24 (mkF m 59 #[.val (.int ct), .val (.int lo), .val (.int sp), .val (.int zz), .val (.int (3 : Int32)), .val (.double mi), .second, .val (.double mx), .second, .val (.ref a1), .unset, .unset, .unset] [.null, (.double mx), (.double mi), (.double mx), (.double mi), (.ref s4), (.ref a4), (.ref a4), (.ref a1)])
  obtain ⟨v34, T34, L34, X34, Q34, st34⟩ := own_callI X24 hx hZ hown (y := own_y0) rfl (hw 220 rfl) (hw 221 rfl) (hw 222 rfl) (hw 195 rfl) (by decide) (rmAr l Z a0 hw [] T24.heap n0 a4 s4 mi mx mi mx g4n (A4.keep K24) ((D4 (Or.inr (hw 225 rfl)) (ty := (.object "java/lang/String")) (by decide)).keep K24 nin0) ((D4 (Or.inr (hw 227 rfl)) (ty := .double) (by decide)).keep K24 nin0) ((D4 (Or.inr (hw 229 rfl)) (ty := .double) (by decide)).keep K24 nin0) ((D4 (Or.inr (hw 231 rfl)) (ty := .double) (by decide)).keep K24 nin0) ((D4 (Or.inr (hw 233 rfl)) (ty := .double) (by decide)).keep K24 nin0) ((D4 (Or.inr (hw 235 rfl)) (ty := (.object "java/util/Optional")) (by decide)).keep K24 nin0)) (W := 2) (g := (mkF m 59 #[.val (.int ct), .val (.int lo), .val (.int sp), .val (.int zz), .val (.int (3 : Int32)), .val (.double mi), .second, .val (.double mx), .second, .val (.ref a1), .unset, .unset, .unset] [.null, (.double mx), (.double mi), (.double mx), (.double mi), (.ref s4), (.ref a4), (.ref a4), (.ref a1)])) rfl (by rw [hml]; rfl) (a := a4) (argsL := [(.ref s4), (.double mi), (.double mx), (.double mi), (.double mx), .null]) (rest := [(.ref a4), (.ref a1)]) (lenOf pd__Ljava_lang_String_DDDDLjava_util_Optional__V rfl) rfl rfl (Nat.le_of_eq rfl) (hb hby at_59) rfl (by decide) (by decide) (by decide) (by decide)
  obtain ⟨rfl, N34q, K34, Ey0⟩ := Q34
  have N34 := Fr.app N24 N34q
  refine own_go st34 ?_
  show own_R _ _ _ _ T34 (mkF m 62 #[.val (.int ct), .val (.int lo), .val (.int sp), .val (.int zz), .val (.int (3 : Int32)), .val (.double mi), .second, .val (.double mx), .second, .val (.ref a1), .unset, .unset, .unset] [(.ref a4), (.ref a1)])
  have r7_Od := r5_Od.keep K34 (fun z hz => by cases List.mem_singleton.mp hz; exact g4n)
  have r8_AL1 := r6_AL1.keep K34 (ninS n1_4 nin0)
  obtain ⟨v44, T44, L44, X44, Q44, st44⟩ := own_backF X34 hx hZ hown (xi := own_y48) (hw 236 rfl) (hw 237 rfl) (mvT hZ (hw 238 rfl)) (hw 239 rfl) (hw 240 rfl) (hw 241 rfl) (hw 242 rfl) (hw 243 rfl) (by decide) (backOf (W := 0) (rmA1F l Z a0 hw [] T34.heap n0 a1 g1n (r7_Od.1 ▸ r7_Od.2.1) 0 de kd r8_AL1 G.1 (G.2.1.ext r7_Od.2) r7_Od a4 "com/example/zellwerk/zellwerk/model/Area" Ey0 (hw 268 rfl)) hZ (hw 244 rfl) (hw 2 rfl) (by decide) (by decide)) (b := a1) r8_AL1.1 (g := (mkF m 62 #[.val (.int ct), .val (.int lo), .val (.int sp), .val (.int zz), .val (.int (3 : Int32)), .val (.double mi), .second, .val (.double mx), .second, .val (.ref a1), .unset, .unset, .unset] [(.ref a4), (.ref a1)])) rfl (by rw [hml]; rfl) (argsL := [(.ref a4)]) (rest := []) (lenOf pd__Ljava_lang_Object__Z rfl) rfl rfl (Nat.le_of_eq rfl) (hb hby at_62) rfl (by decide) (by decide)
  obtain ⟨ed0, k00, rfl, N44q, K44, ged0, gel0, L40⟩ := Q44
  have N44 := Fr.app N34 N44q
  refine own_go st44 ?_
  show own_R _ _ _ _ T44 (mkF m 67 #[.val (.int ct), .val (.int lo), .val (.int sp), .val (.int zz), .val (.int (3 : Int32)), .val (.double mi), .second, .val (.double mx), .second, .val (.ref a1), .unset, .unset, .unset] [(.int (1 : Int32))])
  have r9_Od := r7_Od.keep K44 (fun z hz => by cases List.mem_singleton.mp hz; exact g1n)
  have r10_Ey0 := Ey0.keep K44
  refine own_go (fun _ => XS.pop X44.here hx rfl (hb hby at_67) rfl rfl) ?_
  refine own_go (fun _ => XS.iload X44.here hx rfl (hb hby at_68) rfl ) ?_
  refine own_go (fun _ => XS.iconst X44.here hx rfl (hb hby at_70)) ?_
  show own_R _ _ _ _ T44 (mkF m 71 #[.val (.int ct), .val (.int lo), .val (.int sp), .val (.int zz), .val (.int (3 : Int32)), .val (.double mi), .second, .val (.double mx), .second, .val (.ref a1), .unset, .unset, .unset] [(.int (2 : Int32)), (.int (3 : Int32))])
  refine own_go (fun _ => XS.icmpNo X44.here hx rfl (hb hby at_71) rfl (flt (by decide : ¬ ((3 : Int32) < (2 : Int32)))).1) ?_
  show own_R _ _ _ _ T44 (mkF m 74 #[.val (.int ct), .val (.int lo), .val (.int sp), .val (.int zz), .val (.int (3 : Int32)), .val (.double mi), .second, .val (.double mx), .second, .val (.ref a1), .unset, .unset, .unset] [])
  refine own_go (fun _ => XS.aload X44.here hx rfl (hb hby at_74) rfl rfl) ?_
  show own_R _ _ _ _ T44 (mkF m 76 #[.val (.int ct), .val (.int lo), .val (.int sp), .val (.int zz), .val (.int (3 : Int32)), .val (.double mi), .second, .val (.double mx), .second, .val (.ref a1), .unset, .unset, .unset] [(.ref a1)])
  obtain ⟨T5, h5, X5, e5, E5, A5, D5, -, st5⟩ := newO X44 hx hZ hown (hw 193 rfl) (hw 194 rfl) (hw 195 rfl) rfl (g := (mkF m 76 #[.val (.int ct), .val (.int lo), .val (.int sp), .val (.int zz), .val (.int (3 : Int32)), .val (.double mi), .second, .val (.double mx), .second, .val (.ref a1), .unset, .unset, .unset] [(.ref a1)])) rfl (hb hby at_76) (by decide) (by decide)
  obtain ⟨a5, g5⟩ : ∃ z, z = T44.heap.size := ⟨_, rfl⟩
  rw [← g5] at A5 D5 st5
  refine own_go st5 ?_
  show own_R _ _ _ _ T5 (mkF m 79 #[.val (.int ct), .val (.int lo), .val (.int sp), .val (.int zz), .val (.int (3 : Int32)), .val (.double mi), .second, .val (.double mx), .second, .val (.ref a1), .unset, .unset, .unset] [(.ref a5), (.ref a1)])
  have g5n : n0 ≤ a5 := Nat.le_trans (r9_Od.1 ▸ r9_Od.2.1) (Nat.le_of_eq g5.symm)
  have n1_5 := own_nd (b := a5) L40.1.1.lt (Nat.le_of_eq g5.symm)
  have ned_5 := own_nd (b := a5) L40.2.1.lt (Nat.le_of_eq g5.symm)
  have r11_Od := r9_Od.ext E5
  have r12_Ey0 := r10_Ey0.ext E5
  have r13_L := L40.ext E5
  refine own_go (fun _ => XS.dup X5.here hx rfl (hb hby at_79) rfl rfl) ?_
  refine own_go (fun _ => XS.bipush X5.here hx rfl (hb hby at_80)) ?_
  show own_R _ _ _ _ T5 (mkF m 82 #[.val (.int ct), .val (.int lo), .val (.int sp), .val (.int zz), .val (.int (3 : Int32)), .val (.double mi), .second, .val (.double mx), .second, .val (.ref a1), .unset, .unset, .unset] [(.int (98 : Int32)), (.ref a5), (.ref a5), (.ref a1)])
  obtain ⟨v25, T25, L25, X25, Q25, st25⟩ := own_callS X5 hx hZ hown (y := own_y13) (hw 196 rfl) (hw 197 rfl) (hw 198 rfl) (hw 199 rfl) (by decide) (rmVO l Z a0 hw [] h5 n0 zc OS hzc r11_Od 98 (by decide) (r11_Od.1 ▸ r11_Od.2.1)) (W := 3) (g := (mkF m 82 #[.val (.int ct), .val (.int lo), .val (.int sp), .val (.int zz), .val (.int (3 : Int32)), .val (.double mi), .second, .val (.double mx), .second, .val (.ref a1), .unset, .unset, .unset] [(.int (98 : Int32)), (.ref a5), (.ref a5), (.ref a1)])) rfl (by rw [hml]; rfl) (argsL := [(.int (98 : Int32))]) (rest := [(.ref a5), (.ref a5), (.ref a1)]) (lenOf pd__C_Ljava_lang_String_ rfl) rfl rfl (Nat.le_of_eq rfl) (hb hby at_82) e5 (by decide) (by decide) (by decide) (by decide)
  obtain ⟨s5, rfl, N25q, K25, gs5⟩ := Q25
  have N25 := Fr.app N44 N25q
  refine own_go st25 ?_
  show own_R _ _ _ _ T25 (mkF m 85 #[.val (.int ct), .val (.int lo), .val (.int sp), .val (.int zz), .val (.int (3 : Int32)), .val (.double mi), .second, .val (.double mx), .second, .val (.ref a1), .unset, .unset, .unset] [(.ref s5), (.ref a5), (.ref a5), (.ref a1)])
  have r14_Od := r11_Od.keep K25 all0
  have r15_Ey0 := r12_Ey0.keep K25
  have r16_L := r13_L.keep K25 nin0 nin0
  refine own_go (fun _ => XS.dload X25.here hx rfl (hb hby at_85) rfl ) ?_
  refine own_go (fun _ => XS.dload X25.here hx rfl (hb hby at_87) rfl ) ?_
  refine own_go (fun _ => XS.dload X25.here hx rfl (hb hby at_89) rfl ) ?_
  refine own_go (fun _ => XS.dload X25.here hx rfl (hb hby at_91) rfl ) ?_
  refine own_go (fun _ => XS.aconstNull X25.here hx rfl (hb hby at_93)) ?_
  show own_R _ _ _ _ T25 (mkF m 94 #[.val (.int ct), .val (.int lo), .val (.int sp), .val (.int zz), .val (.int (3 : Int32)), .val (.double mi), .second, .val (.double mx), .second, .val (.ref a1), .unset, .unset, .unset] [.null, (.double mx), (.double mi), (.double mx), (.double mi), (.ref s5), (.ref a5), (.ref a5), (.ref a1)])
  obtain ⟨v35, T35, L35, X35, Q35, st35⟩ := own_callI X25 hx hZ hown (y := own_y0) rfl (hw 220 rfl) (hw 221 rfl) (hw 222 rfl) (hw 195 rfl) (by decide) (rmAr l Z a0 hw [] T25.heap n0 a5 s5 mi mx mi mx g5n (A5.keep K25) ((D5 (Or.inr (hw 225 rfl)) (ty := (.object "java/lang/String")) (by decide)).keep K25 nin0) ((D5 (Or.inr (hw 227 rfl)) (ty := .double) (by decide)).keep K25 nin0) ((D5 (Or.inr (hw 229 rfl)) (ty := .double) (by decide)).keep K25 nin0) ((D5 (Or.inr (hw 231 rfl)) (ty := .double) (by decide)).keep K25 nin0) ((D5 (Or.inr (hw 233 rfl)) (ty := .double) (by decide)).keep K25 nin0) ((D5 (Or.inr (hw 235 rfl)) (ty := (.object "java/util/Optional")) (by decide)).keep K25 nin0)) (W := 2) (g := (mkF m 94 #[.val (.int ct), .val (.int lo), .val (.int sp), .val (.int zz), .val (.int (3 : Int32)), .val (.double mi), .second, .val (.double mx), .second, .val (.ref a1), .unset, .unset, .unset] [.null, (.double mx), (.double mi), (.double mx), (.double mi), (.ref s5), (.ref a5), (.ref a5), (.ref a1)])) rfl (by rw [hml]; rfl) (a := a5) (argsL := [(.ref s5), (.double mi), (.double mx), (.double mi), (.double mx), .null]) (rest := [(.ref a5), (.ref a1)]) (lenOf pd__Ljava_lang_String_DDDDLjava_util_Optional__V rfl) rfl rfl (Nat.le_of_eq rfl) (hb hby at_94) rfl (by decide) (by decide) (by decide) (by decide)
  obtain ⟨rfl, N35q, K35, Ey1⟩ := Q35
  have N35 := Fr.app N25 N35q
  refine own_go st35 ?_
  show own_R _ _ _ _ T35 (mkF m 97 #[.val (.int ct), .val (.int lo), .val (.int sp), .val (.int zz), .val (.int (3 : Int32)), .val (.double mi), .second, .val (.double mx), .second, .val (.ref a1), .unset, .unset, .unset] [(.ref a5), (.ref a1)])
  have r17_Od := r14_Od.keep K35 (fun z hz => by cases List.mem_singleton.mp hz; exact g5n)
  have r18_Ey0 := r15_Ey0.keep K35
  have r19_L := r16_L.keep K35 (ninS n1_5 nin0) (ninS ned_5 nin0)
  obtain ⟨v45, T45, L45, X45, Q45, st45⟩ := own_backF X35 hx hZ hown (xi := own_y48) (hw 236 rfl) (hw 237 rfl) (mvT hZ (hw 238 rfl)) (hw 239 rfl) (hw 240 rfl) (hw 241 rfl) (hw 242 rfl) (hw 243 rfl) (by decide) (backOf (W := 0) (rmA1M l Z a0 hw [] T35.heap n0 a1 g1n _ ed0 k00 _ (by simp) r19_L ged0 n0 ged0 a5 "com/example/zellwerk/zellwerk/model/Area" Ey1 (hw 268 rfl)) hZ (hw 244 rfl) (hw 2 rfl) (by decide) (by decide)) (b := a1) r19_L.1.1 (g := (mkF m 97 #[.val (.int ct), .val (.int lo), .val (.int sp), .val (.int zz), .val (.int (3 : Int32)), .val (.double mi), .second, .val (.double mx), .second, .val (.ref a1), .unset, .unset, .unset] [(.ref a5), (.ref a1)])) rfl (by rw [hml]; rfl) (argsL := [(.ref a5)]) (rest := []) (lenOf pd__Ljava_lang_Object__Z rfl) rfl rfl (Nat.le_of_eq rfl) (hb hby at_97) rfl (by decide) (by decide)
  obtain ⟨ed1, k10, rfl, N45q, K45, ged1, gel1, L50⟩ := Q45
  have N45 := Fr.app N35 N45q
  refine own_go st45 ?_
  show own_R _ _ _ _ T45 (mkF m 102 #[.val (.int ct), .val (.int lo), .val (.int sp), .val (.int zz), .val (.int (3 : Int32)), .val (.double mi), .second, .val (.double mx), .second, .val (.ref a1), .unset, .unset, .unset] [(.int (1 : Int32))])
  have r20_Od := r17_Od.keep K45 (allS (P := fun z => n0 ≤ z) g1n (allS ged0 all0))
  have r21_Ey0 := r18_Ey0.keep K45
  have r22_Ey1 := Ey1.keep K45
  refine own_go (fun _ => XS.pop X45.here hx rfl (hb hby at_102) rfl rfl) ?_
  refine own_go (fun _ => XS.iload X45.here hx rfl (hb hby at_103) rfl ) ?_
  refine own_go (fun _ => XS.iconst X45.here hx rfl (hb hby at_105)) ?_
  show own_R _ _ _ _ T45 (mkF m 106 #[.val (.int ct), .val (.int lo), .val (.int sp), .val (.int zz), .val (.int (3 : Int32)), .val (.double mi), .second, .val (.double mx), .second, .val (.ref a1), .unset, .unset, .unset] [(.int (3 : Int32)), (.int (3 : Int32))])
  refine own_go (fun _ => XS.icmpNo X45.here hx rfl (hb hby at_106) rfl (flt (by decide : ¬ ((3 : Int32) < (3 : Int32)))).1) ?_
  show own_R _ _ _ _ T45 (mkF m 109 #[.val (.int ct), .val (.int lo), .val (.int sp), .val (.int zz), .val (.int (3 : Int32)), .val (.double mi), .second, .val (.double mx), .second, .val (.ref a1), .unset, .unset, .unset] [])
  refine own_go (fun _ => XS.aload X45.here hx rfl (hb hby at_109) rfl rfl) ?_
  show own_R _ _ _ _ T45 (mkF m 111 #[.val (.int ct), .val (.int lo), .val (.int sp), .val (.int zz), .val (.int (3 : Int32)), .val (.double mi), .second, .val (.double mx), .second, .val (.ref a1), .unset, .unset, .unset] [(.ref a1)])
  obtain ⟨T6, h6, X6, e6, E6, A6, D6, -, st6⟩ := newO X45 hx hZ hown (hw 193 rfl) (hw 194 rfl) (hw 195 rfl) rfl (g := (mkF m 111 #[.val (.int ct), .val (.int lo), .val (.int sp), .val (.int zz), .val (.int (3 : Int32)), .val (.double mi), .second, .val (.double mx), .second, .val (.ref a1), .unset, .unset, .unset] [(.ref a1)])) rfl (hb hby at_111) (by decide) (by decide)
  obtain ⟨a6, g6⟩ : ∃ z, z = T45.heap.size := ⟨_, rfl⟩
  rw [← g6] at A6 D6 st6
  refine own_go st6 ?_
  show own_R _ _ _ _ T6 (mkF m 114 #[.val (.int ct), .val (.int lo), .val (.int sp), .val (.int zz), .val (.int (3 : Int32)), .val (.double mi), .second, .val (.double mx), .second, .val (.ref a1), .unset, .unset, .unset] [(.ref a6), (.ref a1)])
  have g6n : n0 ≤ a6 := Nat.le_trans (r20_Od.1 ▸ r20_Od.2.1) (Nat.le_of_eq g6.symm)
  have n1_6 := own_nd (b := a6) L50.1.1.lt (Nat.le_of_eq g6.symm)
  have ned_6 := own_nd (b := a6) L50.2.1.lt (Nat.le_of_eq g6.symm)
  have r23_Od := r20_Od.ext E6
  have r24_Ey0 := r21_Ey0.ext E6
  have r25_Ey1 := r22_Ey1.ext E6
  have r26_L := L50.ext E6
  refine own_go (fun _ => XS.dup X6.here hx rfl (hb hby at_114) rfl rfl) ?_
  refine own_go (fun _ => XS.bipush X6.here hx rfl (hb hby at_115)) ?_
  show own_R _ _ _ _ T6 (mkF m 117 #[.val (.int ct), .val (.int lo), .val (.int sp), .val (.int zz), .val (.int (3 : Int32)), .val (.double mi), .second, .val (.double mx), .second, .val (.ref a1), .unset, .unset, .unset] [(.int (99 : Int32)), (.ref a6), (.ref a6), (.ref a1)])
  obtain ⟨v26, T26, L26, X26, Q26, st26⟩ := own_callS X6 hx hZ hown (y := own_y13) (hw 196 rfl) (hw 197 rfl) (hw 198 rfl) (hw 199 rfl) (by decide) (rmVO l Z a0 hw [] h6 n0 zc OS hzc r23_Od 99 (by decide) (r23_Od.1 ▸ r23_Od.2.1)) (W := 3) (g := (mkF m 117 #[.val (.int ct), .val (.int lo), .val (.int sp), .val (.int zz), .val (.int (3 : Int32)), .val (.double mi), .second, .val (.double mx), .second, .val (.ref a1), .unset, .unset, .unset] [(.int (99 : Int32)), (.ref a6), (.ref a6), (.ref a1)])) rfl (by rw [hml]; rfl) (argsL := [(.int (99 : Int32))]) (rest := [(.ref a6), (.ref a6), (.ref a1)]) (lenOf pd__C_Ljava_lang_String_ rfl) rfl rfl (Nat.le_of_eq rfl) (hb hby at_117) e6 (by decide) (by decide) (by decide) (by decide)
  obtain ⟨s6, rfl, N26q, K26, gs6⟩ := Q26
  have N26 := Fr.app N45 N26q
  refine own_go st26 ?_
  show own_R _ _ _ _ T26 (mkF m 120 #[.val (.int ct), .val (.int lo), .val (.int sp), .val (.int zz), .val (.int (3 : Int32)), .val (.double mi), .second, .val (.double mx), .second, .val (.ref a1), .unset, .unset, .unset] [(.ref s6), (.ref a6), (.ref a6), (.ref a1)])
  have r27_Od := r23_Od.keep K26 all0
  have r28_Ey0 := r24_Ey0.keep K26
  have r29_Ey1 := r25_Ey1.keep K26
  have r30_L := r26_L.keep K26 nin0 nin0
  refine own_go (fun _ => XS.dload X26.here hx rfl (hb hby at_120) rfl ) ?_
  refine own_go (fun _ => XS.dload X26.here hx rfl (hb hby at_122) rfl ) ?_
  refine own_go (fun _ => XS.dload X26.here hx rfl (hb hby at_124) rfl ) ?_
  refine own_go (fun _ => XS.dload X26.here hx rfl (hb hby at_126) rfl ) ?_
  refine own_go (fun _ => XS.aconstNull X26.here hx rfl (hb hby at_128)) ?_
  show own_R _ _ _ _ T26 (mkF m 129 #[.val (.int ct), .val (.int lo), .val (.int sp), .val (.int zz), .val (.int (3 : Int32)), .val (.double mi), .second, .val (.double mx), .second, .val (.ref a1), .unset, .unset, .unset] [.null, (.double mx), (.double mi), (.double mx), (.double mi), (.ref s6), (.ref a6), (.ref a6), (.ref a1)])
  obtain ⟨v36, T36, L36, X36, Q36, st36⟩ := own_callI X26 hx hZ hown (y := own_y0) rfl (hw 220 rfl) (hw 221 rfl) (hw 222 rfl) (hw 195 rfl) (by decide) (rmAr l Z a0 hw [] T26.heap n0 a6 s6 mi mx mi mx g6n (A6.keep K26) ((D6 (Or.inr (hw 225 rfl)) (ty := (.object "java/lang/String")) (by decide)).keep K26 nin0) ((D6 (Or.inr (hw 227 rfl)) (ty := .double) (by decide)).keep K26 nin0) ((D6 (Or.inr (hw 229 rfl)) (ty := .double) (by decide)).keep K26 nin0) ((D6 (Or.inr (hw 231 rfl)) (ty := .double) (by decide)).keep K26 nin0) ((D6 (Or.inr (hw 233 rfl)) (ty := .double) (by decide)).keep K26 nin0) ((D6 (Or.inr (hw 235 rfl)) (ty := (.object "java/util/Optional")) (by decide)).keep K26 nin0)) (W := 2) (g := (mkF m 129 #[.val (.int ct), .val (.int lo), .val (.int sp), .val (.int zz), .val (.int (3 : Int32)), .val (.double mi), .second, .val (.double mx), .second, .val (.ref a1), .unset, .unset, .unset] [.null, (.double mx), (.double mi), (.double mx), (.double mi), (.ref s6), (.ref a6), (.ref a6), (.ref a1)])) rfl (by rw [hml]; rfl) (a := a6) (argsL := [(.ref s6), (.double mi), (.double mx), (.double mi), (.double mx), .null]) (rest := [(.ref a6), (.ref a1)]) (lenOf pd__Ljava_lang_String_DDDDLjava_util_Optional__V rfl) rfl rfl (Nat.le_of_eq rfl) (hb hby at_129) rfl (by decide) (by decide) (by decide) (by decide)
  obtain ⟨rfl, N36q, K36, Ey2⟩ := Q36
  have N36 := Fr.app N26 N36q
  refine own_go st36 ?_
  show own_R _ _ _ _ T36 (mkF m 132 #[.val (.int ct), .val (.int lo), .val (.int sp), .val (.int zz), .val (.int (3 : Int32)), .val (.double mi), .second, .val (.double mx), .second, .val (.ref a1), .unset, .unset, .unset] [(.ref a6), (.ref a1)])
  have r31_Od := r27_Od.keep K36 (fun z hz => by cases List.mem_singleton.mp hz; exact g6n)
  have r32_Ey0 := r28_Ey0.keep K36
  have r33_Ey1 := r29_Ey1.keep K36
  have r34_L := r30_L.keep K36 (ninS n1_6 nin0) (ninS ned_6 nin0)
  obtain ⟨v46, T46, L46, X46, Q46, st46⟩ := own_backF X36 hx hZ hown (xi := own_y48) (hw 236 rfl) (hw 237 rfl) (mvT hZ (hw 238 rfl)) (hw 239 rfl) (hw 240 rfl) (hw 241 rfl) (hw 242 rfl) (hw 243 rfl) (by decide) (backOf (W := 0) (rmA1M l Z a0 hw [] T36.heap n0 a1 g1n _ ed1 k10 _ (by simp) r34_L ged1 n0 ged1 a6 "com/example/zellwerk/zellwerk/model/Area" Ey2 (hw 268 rfl)) hZ (hw 244 rfl) (hw 2 rfl) (by decide) (by decide)) (b := a1) r34_L.1.1 (g := (mkF m 132 #[.val (.int ct), .val (.int lo), .val (.int sp), .val (.int zz), .val (.int (3 : Int32)), .val (.double mi), .second, .val (.double mx), .second, .val (.ref a1), .unset, .unset, .unset] [(.ref a6), (.ref a1)])) rfl (by rw [hml]; rfl) (argsL := [(.ref a6)]) (rest := []) (lenOf pd__Ljava_lang_Object__Z rfl) rfl rfl (Nat.le_of_eq rfl) (hb hby at_132) rfl (by decide) (by decide)
  obtain ⟨ed2, k20, rfl, N46q, K46, ged2, gel2, L60⟩ := Q46
  have N46 := Fr.app N36 N46q
  refine own_go st46 ?_
  show own_R _ _ _ _ T46 (mkF m 137 #[.val (.int ct), .val (.int lo), .val (.int sp), .val (.int zz), .val (.int (3 : Int32)), .val (.double mi), .second, .val (.double mx), .second, .val (.ref a1), .unset, .unset, .unset] [(.int (1 : Int32))])
  have r35_Od := r31_Od.keep K46 (allS (P := fun z => n0 ≤ z) g1n (allS ged1 all0))
  have r36_Ey0 := r32_Ey0.keep K46
  have r37_Ey1 := r33_Ey1.keep K46
  have r38_Ey2 := Ey2.keep K46
  refine own_go (fun _ => XS.pop X46.here hx rfl (hb hby at_137) rfl rfl) ?_
  show own_R _ _ _ _ T46 (mkF m 138 #[.val (.int ct), .val (.int lo), .val (.int sp), .val (.int zz), .val (.int (3 : Int32)), .val (.double mi), .second, .val (.double mx), .second, .val (.ref a1), .unset, .unset, .unset] [])
  obtain ⟨T8, h8, X8, e8, E8, A8, D8, -, st8⟩ := newO X46 hx hZ hown (hw 26 rfl) (hw 27 rfl) (hw 28 rfl) rfl (g := (mkF m 138 #[.val (.int ct), .val (.int lo), .val (.int sp), .val (.int zz), .val (.int (3 : Int32)), .val (.double mi), .second, .val (.double mx), .second, .val (.ref a1), .unset, .unset, .unset] [])) rfl (hb hby at_138) (by decide) (by decide)
  obtain ⟨a8, g8⟩ : ∃ z, z = T46.heap.size := ⟨_, rfl⟩
  rw [← g8] at A8 D8 st8
  refine own_go st8 ?_
  show own_R _ _ _ _ T8 (mkF m 141 #[.val (.int ct), .val (.int lo), .val (.int sp), .val (.int zz), .val (.int (3 : Int32)), .val (.double mi), .second, .val (.double mx), .second, .val (.ref a1), .unset, .unset, .unset] [(.ref a8)])
  have g8n : n0 ≤ a8 := Nat.le_trans (r35_Od.1 ▸ r35_Od.2.1) (Nat.le_of_eq g8.symm)
  have r39_Od := r35_Od.ext E8
  have r40_Ey0 := r36_Ey0.ext E8
  have r41_Ey1 := r37_Ey1.ext E8
  have r42_Ey2 := r38_Ey2.ext E8
  have r43_L := L60.ext E8
  have CsafeZ := D8 (Or.inr (hw 80 rfl)) (ty := .double) (by decide)
  have Crobots := D8 (Or.inr (hw 82 rfl)) (ty := (.object "java/util/List")) (by decide)
  have Cfeeders := D8 (Or.inr (hw 84 rfl)) (ty := (.object "java/util/List")) (by decide)
  have Careas := D8 (Or.inr (hw 86 rfl)) (ty := (.object "java/util/List")) (by decide)
  have CcoupleS := D8 (Or.inr (hw 88 rfl)) (ty := .double) (by decide)
  have Cgrippers := D8 (Or.inr (hw 90 rfl)) (ty := (.object "java/util/List")) (by decide)
  have Cports := D8 (Or.inr (hw 92 rfl)) (ty := (.object "java/util/List")) (by decide)
  refine own_go (fun _ => XS.dup X8.here hx rfl (hb hby at_141) rfl rfl) ?_
  refine own_go (fun _ => XS.iloadN X8.here hx rfl (hb hby at_142) rfl ) ?_
  refine own_go (fun _ => XS.sipush X8.here hx rfl (hb hby at_143)) ?_
  refine own_go (fun _ => XS.iand X8.here hx rfl (hb hby at_146) rfl) ?_
  refine own_go (fun _ => XS.i2dS X8.here hx rfl (hb hby at_147) rfl rfl) ?_
  show own_R _ _ _ _ T8 (mkF m 148 #[.val (.int ct), .val (.int lo), .val (.int sp), .val (.int zz), .val (.int (3 : Int32)), .val (.double mi), .second, .val (.double mx), .second, .val (.ref a1), .unset, .unset, .unset] [(.double (FP.i2d (zz &&& (1023 : Int32)))), (.ref a8), (.ref a8)])
  obtain ⟨T10, h10, X10, e10, E10, A10, D10, -, st10⟩ := newO X8 hx hZ hown (hw 0 rfl) (hw 1 rfl) (hw 2 rfl) e8 (g := (mkF m 148 #[.val (.int ct), .val (.int lo), .val (.int sp), .val (.int zz), .val (.int (3 : Int32)), .val (.double mi), .second, .val (.double mx), .second, .val (.ref a1), .unset, .unset, .unset] [(.double (FP.i2d (zz &&& (1023 : Int32)))), (.ref a8), (.ref a8)])) rfl (hb hby at_148) (by decide) (by decide)
  obtain ⟨a10, g10⟩ : ∃ z, z = h8.size := ⟨_, rfl⟩
  rw [← g10] at A10 D10 st10
  refine own_go st10 ?_
  show own_R _ _ _ _ T10 (mkF m 151 #[.val (.int ct), .val (.int lo), .val (.int sp), .val (.int zz), .val (.int (3 : Int32)), .val (.double mi), .second, .val (.double mx), .second, .val (.ref a1), .unset, .unset, .unset] [(.ref a10), (.double (FP.i2d (zz &&& (1023 : Int32)))), (.ref a8), (.ref a8)])
  have g10n : n0 ≤ a10 := Nat.le_trans (r39_Od.1 ▸ r39_Od.2.1) (Nat.le_of_eq g10.symm)
  have na4_10 := own_nd (b := a10) r40_Ey0.lt (Nat.le_of_eq g10.symm)
  have na5_10 := own_nd (b := a10) r41_Ey1.lt (Nat.le_of_eq g10.symm)
  have na6_10 := own_nd (b := a10) r42_Ey2.lt (Nat.le_of_eq g10.symm)
  have na1_10 := own_nd (b := a10) r43_L.1.1.lt (Nat.le_of_eq g10.symm)
  have ned2_10 := own_nd (b := a10) r43_L.2.1.lt (Nat.le_of_eq g10.symm)
  have na8_10 := own_nd (b := a10) A8.lt (Nat.le_of_eq g10.symm)
  have r44_Od := r39_Od.ext E10
  have r45_Ey0 := r40_Ey0.ext E10
  have r46_Ey1 := r41_Ey1.ext E10
  have r47_Ey2 := r42_Ey2.ext E10
  have r48_L := r43_L.ext E10
  have r49_CsafeZ := CsafeZ.ext E10
  have r50_Crobots := Crobots.ext E10
  have r51_Cfeeders := Cfeeders.ext E10
  have r52_Careas := Careas.ext E10
  have r53_CcoupleS := CcoupleS.ext E10
  have r54_Cgrippers := Cgrippers.ext E10
  have r55_Cports := Cports.ext E10
  have r56_Ec := A8.ext E10
  refine own_go (fun _ => XS.dup X10.here hx rfl (hb hby at_151) rfl rfl) ?_
  show own_R _ _ _ _ T10 (mkF m 152 #[.val (.int ct), .val (.int lo), .val (.int sp), .val (.int zz), .val (.int (3 : Int32)), .val (.double mi), .second, .val (.double mx), .second, .val (.ref a1), .unset, .unset, .unset] [(.ref a10), (.ref a10), (.double (FP.i2d (zz &&& (1023 : Int32)))), (.ref a8), (.ref a8)])
  obtain ⟨v100, T100, L100, X100, Q100, st100⟩ := own_callI X10 hx hZ hown (y := own_y18) rfl (hw 3 rfl) (hw 4 rfl) (hw 5 rfl) (hw 2 rfl) (by decide) (rmAL l Z a0 hw [] h10 n0 a10 g10n A10 (D10 (Or.inl (hw 25 rfl)) (ty := (.array (.object "java/lang/Object"))) (by decide)) (D10 (Or.inl (hw 69 rfl)) (ty := .int) (by decide)) (D10 (Or.inl (hw 22 rfl)) (ty := .int) (by decide)) de G.1 r44_Od) (W := 5) (g := (mkF m 152 #[.val (.int ct), .val (.int lo), .val (.int sp), .val (.int zz), .val (.int (3 : Int32)), .val (.double mi), .second, .val (.double mx), .second, .val (.ref a1), .unset, .unset, .unset] [(.ref a10), (.ref a10), (.double (FP.i2d (zz &&& (1023 : Int32)))), (.ref a8), (.ref a8)])) rfl (by rw [hml]; rfl) (a := a10) (argsL := []) (rest := [(.ref a10), (.double (FP.i2d (zz &&& (1023 : Int32)))), (.ref a8), (.ref a8)]) (lenOf pd___V rfl) rfl rfl (Nat.le_of_eq rfl) (hb hby at_152) e10 (by decide) (by decide) (by decide) (by decide)
  obtain ⟨rfl, N100q, K100, AL10⟩ := Q100
  have N100 := Fr.app N46 N100q
  refine own_go st100 ?_
  show own_R _ _ _ _ T100 (mkF m 155 #[.val (.int ct), .val (.int lo), .val (.int sp), .val (.int zz), .val (.int (3 : Int32)), .val (.double mi), .second, .val (.double mx), .second, .val (.ref a1), .unset, .unset, .unset] [(.ref a10), (.double (FP.i2d (zz &&& (1023 : Int32)))), (.ref a8), (.ref a8)])
  have r57_Od := r44_Od.keep K100 (fun z hz => by cases List.mem_singleton.mp hz; exact g10n)
  have r58_Ey0 := r45_Ey0.keep K100
  have r59_Ey1 := r46_Ey1.keep K100
  have r60_Ey2 := r47_Ey2.keep K100
  have r61_L := r48_L.keep K100 (ninS na1_10 nin0) (ninS ned2_10 nin0)
  have r62_CsafeZ := r49_CsafeZ.keep K100 (ninS na8_10 nin0)
  have r63_Crobots := r50_Crobots.keep K100 (ninS na8_10 nin0)
  have r64_Cfeeders := r51_Cfeeders.keep K100 (ninS na8_10 nin0)
  have r65_Careas := r52_Careas.keep K100 (ninS na8_10 nin0)
  have r66_CcoupleS := r53_CcoupleS.keep K100 (ninS na8_10 nin0)
  have r67_Cgrippers := r54_Cgrippers.keep K100 (ninS na8_10 nin0)
  have r68_Cports := r55_Cports.keep K100 (ninS na8_10 nin0)
  have r69_Ec := r56_Ec.keep K100
  obtain ⟨T11, h11, X11, e11, E11, A11, D11, -, st11⟩ := newO X100 hx hZ hown (hw 0 rfl) (hw 1 rfl) (hw 2 rfl) rfl (g := (mkF m 155 #[.val (.int ct), .val (.int lo), .val (.int sp), .val (.int zz), .val (.int (3 : Int32)), .val (.double mi), .second, .val (.double mx), .second, .val (.ref a1), .unset, .unset, .unset] [(.ref a10), (.double (FP.i2d (zz &&& (1023 : Int32)))), (.ref a8), (.ref a8)])) rfl (hb hby at_155) (by decide) (by decide)
  obtain ⟨a11, g11⟩ : ∃ z, z = T100.heap.size := ⟨_, rfl⟩
  rw [← g11] at A11 D11 st11
  refine own_go st11 ?_
  show own_R _ _ _ _ T11 (mkF m 158 #[.val (.int ct), .val (.int lo), .val (.int sp), .val (.int zz), .val (.int (3 : Int32)), .val (.double mi), .second, .val (.double mx), .second, .val (.ref a1), .unset, .unset, .unset] [(.ref a11), (.ref a10), (.double (FP.i2d (zz &&& (1023 : Int32)))), (.ref a8), (.ref a8)])
  have g11n : n0 ≤ a11 := Nat.le_trans (r57_Od.1 ▸ r57_Od.2.1) (Nat.le_of_eq g11.symm)
  have na4_11 := own_nd (b := a11) r58_Ey0.lt (Nat.le_of_eq g11.symm)
  have na5_11 := own_nd (b := a11) r59_Ey1.lt (Nat.le_of_eq g11.symm)
  have na6_11 := own_nd (b := a11) r60_Ey2.lt (Nat.le_of_eq g11.symm)
  have na1_11 := own_nd (b := a11) r61_L.1.1.lt (Nat.le_of_eq g11.symm)
  have ned2_11 := own_nd (b := a11) r61_L.2.1.lt (Nat.le_of_eq g11.symm)
  have na8_11 := own_nd (b := a11) r69_Ec.lt (Nat.le_of_eq g11.symm)
  have na10_11 := own_nd (b := a11) AL10.1.lt (Nat.le_of_eq g11.symm)
  have r70_Od := r57_Od.ext E11
  have r71_Ey0 := r58_Ey0.ext E11
  have r72_Ey1 := r59_Ey1.ext E11
  have r73_Ey2 := r60_Ey2.ext E11
  have r74_L := r61_L.ext E11
  have r75_CsafeZ := r62_CsafeZ.ext E11
  have r76_Crobots := r63_Crobots.ext E11
  have r77_Cfeeders := r64_Cfeeders.ext E11
  have r78_Careas := r65_Careas.ext E11
  have r79_CcoupleS := r66_CcoupleS.ext E11
  have r80_Cgrippers := r67_Cgrippers.ext E11
  have r81_Cports := r68_Cports.ext E11
  have r82_Ec := r69_Ec.ext E11
  have r83_AL10 := AL10.ext E11
  refine own_go (fun _ => XS.dup X11.here hx rfl (hb hby at_158) rfl rfl) ?_
  show own_R _ _ _ _ T11 (mkF m 159 #[.val (.int ct), .val (.int lo), .val (.int sp), .val (.int zz), .val (.int (3 : Int32)), .val (.double mi), .second, .val (.double mx), .second, .val (.ref a1), .unset, .unset, .unset] [(.ref a11), (.ref a11), (.ref a10), (.double (FP.i2d (zz &&& (1023 : Int32)))), (.ref a8), (.ref a8)])
  obtain ⟨v110, T110, L110, X110, Q110, st110⟩ := own_callI X11 hx hZ hown (y := own_y18) rfl (hw 3 rfl) (hw 4 rfl) (hw 5 rfl) (hw 2 rfl) (by decide) (rmAL l Z a0 hw [] h11 n0 a11 g11n A11 (D11 (Or.inl (hw 25 rfl)) (ty := (.array (.object "java/lang/Object"))) (by decide)) (D11 (Or.inl (hw 69 rfl)) (ty := .int) (by decide)) (D11 (Or.inl (hw 22 rfl)) (ty := .int) (by decide)) de G.1 r70_Od) (W := 6) (g := (mkF m 159 #[.val (.int ct), .val (.int lo), .val (.int sp), .val (.int zz), .val (.int (3 : Int32)), .val (.double mi), .second, .val (.double mx), .second, .val (.ref a1), .unset, .unset, .unset] [(.ref a11), (.ref a11), (.ref a10), (.double (FP.i2d (zz &&& (1023 : Int32)))), (.ref a8), (.ref a8)])) rfl (by rw [hml]; rfl) (a := a11) (argsL := []) (rest := [(.ref a11), (.ref a10), (.double (FP.i2d (zz &&& (1023 : Int32)))), (.ref a8), (.ref a8)]) (lenOf pd___V rfl) rfl rfl (Nat.le_of_eq rfl) (hb hby at_159) e11 (by decide) (by decide) (by decide) (by decide)
  obtain ⟨rfl, N110q, K110, AL11⟩ := Q110
  have N110 := Fr.app N100 N110q
  refine own_go st110 ?_
  show own_R _ _ _ _ T110 (mkF m 162 #[.val (.int ct), .val (.int lo), .val (.int sp), .val (.int zz), .val (.int (3 : Int32)), .val (.double mi), .second, .val (.double mx), .second, .val (.ref a1), .unset, .unset, .unset] [(.ref a11), (.ref a10), (.double (FP.i2d (zz &&& (1023 : Int32)))), (.ref a8), (.ref a8)])
  have r84_Od := r70_Od.keep K110 (fun z hz => by cases List.mem_singleton.mp hz; exact g11n)
  have r85_Ey0 := r71_Ey0.keep K110
  have r86_Ey1 := r72_Ey1.keep K110
  have r87_Ey2 := r73_Ey2.keep K110
  have r88_L := r74_L.keep K110 (ninS na1_11 nin0) (ninS ned2_11 nin0)
  have r89_CsafeZ := r75_CsafeZ.keep K110 (ninS na8_11 nin0)
  have r90_Crobots := r76_Crobots.keep K110 (ninS na8_11 nin0)
  have r91_Cfeeders := r77_Cfeeders.keep K110 (ninS na8_11 nin0)
  have r92_Careas := r78_Careas.keep K110 (ninS na8_11 nin0)
  have r93_CcoupleS := r79_CcoupleS.keep K110 (ninS na8_11 nin0)
  have r94_Cgrippers := r80_Cgrippers.keep K110 (ninS na8_11 nin0)
  have r95_Cports := r81_Cports.keep K110 (ninS na8_11 nin0)
  have r96_Ec := r82_Ec.keep K110
  have r97_AL10 := r83_AL10.keep K110 (ninS na10_11 nin0)
  refine own_go (fun _ => XS.aload X110.here hx rfl (hb hby at_162) rfl rfl) ?_
  show own_R _ _ _ _ T110 (mkF m 164 #[.val (.int ct), .val (.int lo), .val (.int sp), .val (.int zz), .val (.int (3 : Int32)), .val (.double mi), .second, .val (.double mx), .second, .val (.ref a1), .unset, .unset, .unset] [(.ref a1), (.ref a11), (.ref a10), (.double (FP.i2d (zz &&& (1023 : Int32)))), (.ref a8), (.ref a8)])
  have lta := r96_Ec.lt
  obtain ⟨v12, T12, L12, X12, Q12, st12⟩ := own_callI X110 hx hZ hown (y := own_y1) rfl (hw 29 rfl) (hw 30 rfl) (hw 31 rfl) (hw 28 rfl) (by decide) (rmCe l Z a0 hw [] T110.heap n0 de kd el ea ka em mr G r84_Od a8 a10 a11 a1 _ g8n r96_Ec r89_CsafeZ r90_Crobots r91_Cfeeders r92_Careas r93_CcoupleS r94_Cgrippers r95_Cports r97_AL10.1 r97_AL10.2.2.1 AL11.1 AL11.2.2.1 (own_Qj Z a4 a5 a6 T110.heap n0) (rmCO3 l Z a0 hw [] T110.heap n0 de kd el ea ka em mr G r84_Od a4 a5 a6 r85_Ey0 r86_Ey1 r87_Ey2 a1 ed2 k20 _ r88_L) (fun _ _ _ ⟨x, _, _, q1, q2, q3, _⟩ => ⟨x, q1, q2, q3⟩)) (W := 1) (g := (mkF m 164 #[.val (.int ct), .val (.int lo), .val (.int sp), .val (.int zz), .val (.int (3 : Int32)), .val (.double mi), .second, .val (.double mx), .second, .val (.ref a1), .unset, .unset, .unset] [(.ref a1), (.ref a11), (.ref a10), (.double (FP.i2d (zz &&& (1023 : Int32)))), (.ref a8), (.ref a8)])) rfl (by rw [hml]; rfl) (a := a8) (argsL := [(.double (FP.i2d (zz &&& (1023 : Int32)))), (.ref a10), (.ref a11), (.ref a1)]) (rest := [(.ref a8)]) (lenOf pd__DLjava_util_List_Ljava_util_List_Ljava_util_List__V rfl) rfl rfl (Nat.le_of_eq rfl) (hb hby at_164) rfl (by decide) (by decide) (by decide) (by decide)
  obtain ⟨x, h1c, L1c, rfl, N12q, K12, Ec12, Fa12, Qc, Kc⟩ := Q12
  have N12 := Fr.app N110 N12q
  refine own_go st12 ?_
  show own_R _ _ _ _ T12 (mkF m 167 #[.val (.int ct), .val (.int lo), .val (.int sp), .val (.int zz), .val (.int (3 : Int32)), .val (.double mi), .second, .val (.double mx), .second, .val (.ref a1), .unset, .unset, .unset] [(.ref a8)])
  obtain ⟨x2, xa, kx, qx, -, -, gx12, gxa12, I0⟩ := Qc
  cases qx
  have I12 := own_IN.keep I0 Kc (own_ni (Ne.symm (own_nd lta gx12))) (own_ni (Ne.symm (own_nd lta gxa12)))
  have r98_Od := r84_Od.keep K12 (fun z hz => by cases List.mem_singleton.mp hz; exact g8n)
  have r99_Ey0 := r85_Ey0.keep K12
  have r100_Ey1 := r86_Ey1.keep K12
  have r101_Ey2 := r87_Ey2.keep K12
  refine own_go (fun _ => XS.astore X12.here hx rfl (hb hby at_167) rfl rfl (l' := #[.val (.int ct), .val (.int lo), .val (.int sp), .val (.int zz), .val (.int (3 : Int32)), .val (.double mi), .second, .val (.double mx), .second, .val (.ref a1), .val (.ref a8), .unset, .unset]) rfl) ?_
  show own_R _ _ _ _ T12 (mkF m 169 #[.val (.int ct), .val (.int lo), .val (.int sp), .val (.int zz), .val (.int (3 : Int32)), .val (.double mi), .second, .val (.double mx), .second, .val (.ref a1), .val (.ref a8), .unset, .unset] [])
  obtain ⟨T13, h13, X13, e13, E13, A13, D13, -, st13⟩ := newO X12 hx hZ hown (hw 93 rfl) (hw 94 rfl) (hw 95 rfl) rfl (g := (mkF m 169 #[.val (.int ct), .val (.int lo), .val (.int sp), .val (.int zz), .val (.int (3 : Int32)), .val (.double mi), .second, .val (.double mx), .second, .val (.ref a1), .val (.ref a8), .unset, .unset] [])) rfl (hb hby at_169) (by decide) (by decide)
  obtain ⟨a13, g13⟩ : ∃ z, z = T12.heap.size := ⟨_, rfl⟩
  rw [← g13] at A13 D13 st13
  refine own_go st13 ?_
  show own_R _ _ _ _ T13 (mkF m 172 #[.val (.int ct), .val (.int lo), .val (.int sp), .val (.int zz), .val (.int (3 : Int32)), .val (.double mi), .second, .val (.double mx), .second, .val (.ref a1), .val (.ref a8), .unset, .unset] [(.ref a13)])
  have g13n : n0 ≤ a13 := Nat.le_trans (r98_Od.1 ▸ r98_Od.2.1) (Nat.le_of_eq g13.symm)
  have nce := own_nd (b := a13) Ec12.lt (Nat.le_of_eq g13.symm)
  have nxh := own_nd (b := a13) I12.1.lt (Nat.le_of_eq g13.symm)
  have nxah := own_nd (b := a13) I12.2.2.lt (Nat.le_of_eq g13.symm)
  have r102_Od := r98_Od.ext E13
  have r103_Ey0 := r99_Ey0.ext E13
  have r104_Ey1 := r100_Ey1.ext E13
  have r105_Ey2 := r101_Ey2.ext E13
  have r106_I := I12.ext E13
  have r107_Ec := Ec12.ext E13
  have r108_Fa := Fa12.ext E13
  refine own_go (fun _ => XS.dup X13.here hx rfl (hb hby at_172) rfl rfl) ?_
  refine own_go (fun _ => XS.aload X13.here hx rfl (hb hby at_173) rfl rfl) ?_
  show own_R _ _ _ _ T13 (mkF m 175 #[.val (.int ct), .val (.int lo), .val (.int sp), .val (.int zz), .val (.int (3 : Int32)), .val (.double mi), .second, .val (.double mx), .second, .val (.ref a1), .val (.ref a8), .unset, .unset] [(.ref a8), (.ref a13), (.ref a13)])
  obtain ⟨v14, T14, L14, X14, Q14, st14⟩ := own_callI X13 hx hZ hown (y := own_y4) rfl (hw 96 rfl) (hw 97 rfl) (hw 98 rfl) (hw 95 rfl) (by decide) (rmHi3 l Z a0 hw [] h13 n0 de kd el ea ka em mr G r102_Od x xa kx a4 a5 a6 r106_I cK M Si a13 a8 g13n A13 (D13 (Or.inr (hw 103 rfl)) (ty := (.object "java/util/List")) (by decide)) (D13 (Or.inr (hw 105 rfl)) (ty := (.object "com/example/zellwerk/zellwerk/model/Cell")) (by decide)) (D13 (Or.inr (hw 124 rfl)) (ty := (.array .int)) (by decide)) (D13 (Or.inr (hw 127 rfl)) (ty := (.array .double)) (by decide)) (D13 (Or.inr (hw 129 rfl)) (ty := (.array .double)) (by decide)) r107_Ec r108_Fa nce nxh nxah r103_Ey0 r104_Ey1 r105_Ey2) (W := 1) (g := (mkF m 175 #[.val (.int ct), .val (.int lo), .val (.int sp), .val (.int zz), .val (.int (3 : Int32)), .val (.double mi), .second, .val (.double mx), .second, .val (.ref a1), .val (.ref a8), .unset, .unset] [(.ref a8), (.ref a13), (.ref a13)])) rfl (by rw [hml]; rfl) (a := a13) (argsL := [(.ref a8)]) (rest := [(.ref a13)]) (lenOf pd__Lcom_example_zellwerk_zellwerk_model_Cell__V rfl) rfl rfl (Nat.le_of_eq rfl) (hb hby at_175) e13 (by decide) (by decide) (by decide) (by decide)
  obtain ⟨ua, ku, rfl, N14q, E14, F14, A14⟩ := Q14
  have N14 := Fr.app N12 N14q
  refine own_go st14 ?_
  show own_R _ _ _ _ T14 (mkF m 178 #[.val (.int ct), .val (.int lo), .val (.int sp), .val (.int zz), .val (.int (3 : Int32)), .val (.double mi), .second, .val (.double mx), .second, .val (.ref a1), .val (.ref a8), .unset, .unset] [(.ref a13)])
  refine own_go (fun _ => XS.astore X14.here hx rfl (hb hby at_178) rfl rfl (l' := #[.val (.int ct), .val (.int lo), .val (.int sp), .val (.int zz), .val (.int (3 : Int32)), .val (.double mi), .second, .val (.double mx), .second, .val (.ref a1), .val (.ref a8), .val (.ref a13), .unset]) rfl) ?_
  refine own_go (fun _ => XS.iload X14.here hx rfl (hb hby at_180) rfl ) ?_
  show own_R _ _ _ _ T14 (mkF m 182 #[.val (.int ct), .val (.int lo), .val (.int sp), .val (.int zz), .val (.int (3 : Int32)), .val (.double mi), .second, .val (.double mx), .second, .val (.ref a1), .val (.ref a8), .val (.ref a13), .unset] [(.int (3 : Int32))])
  refine own_go (fun _ => XS.ifNo X14.here hx rfl (hb hby at_182) rfl ((if0 _ _).trans (tlt (by decide : (0 : Int32) < (3 : Int32))).2.2.2)) ?_
  show own_R _ _ _ _ T14 (mkF m 185 #[.val (.int ct), .val (.int lo), .val (.int sp), .val (.int zz), .val (.int (3 : Int32)), .val (.double mi), .second, .val (.double mx), .second, .val (.ref a1), .val (.ref a8), .val (.ref a13), .unset] [])
  refine own_go (fun _ => XS.iconst X14.here hx rfl (hb hby at_185)) ?_
  refine own_go (fun _ => XS.goto X14.here hx rfl (pc0 := 186) (pc' := 190) rfl (hb hby at_186) (by decide) (by decide)) ?_
  refine own_go (fun _ => XS.istore X14.here hx rfl (hb hby at_190) rfl (l' := #[.val (.int ct), .val (.int lo), .val (.int sp), .val (.int zz), .val (.int (3 : Int32)), .val (.double mi), .second, .val (.double mx), .second, .val (.ref a1), .val (.ref a8), .val (.ref a13), .val (.int (1 : Int32))]) rfl) ?_
  refine own_go (fun _ => XS.aload X14.here hx rfl (hb hby at_192) rfl rfl) ?_
  show own_R _ _ _ _ T14 (mkF m 194 #[.val (.int ct), .val (.int lo), .val (.int sp), .val (.int zz), .val (.int (3 : Int32)), .val (.double mi), .second, .val (.double mx), .second, .val (.ref a1), .val (.ref a8), .val (.ref a13), .val (.int (1 : Int32))] [(.ref a13)])
  obtain ⟨v15, T15, L15, X15, Q15, st15⟩ := own_callV X14 hx hZ hown (y := own_y5) (hw 188 rfl) (hw 189 rfl) (hw 191 rfl) (hw 190 rfl) (hw 192 rfl) (hw 95 rfl) (by decide) (rmAny1 l Z a0 hw [] T14.heap n0 a13 ua ku (Int32.ofNat 3) (by decide) F14 A14) E14 (W := 0) (g := (mkF m 194 #[.val (.int ct), .val (.int lo), .val (.int sp), .val (.int zz), .val (.int (3 : Int32)), .val (.double mi), .second, .val (.double mx), .second, .val (.ref a1), .val (.ref a8), .val (.ref a13), .val (.int (1 : Int32))] [(.ref a13)])) rfl (by rw [hml]; rfl) (b := a13) (argsL := []) (rest := []) (lenOf pd___Z rfl) rfl rfl (Nat.le_of_eq rfl) (hb hby at_194) rfl (by decide) (by decide) (by decide) (by decide)
  obtain ⟨rfl, N15q, e15⟩ := Q15
  have N15 := Fr.app N14 N15q
  refine own_go st15 ?_
  show own_R _ _ _ _ T15 (mkF m 197 #[.val (.int ct), .val (.int lo), .val (.int sp), .val (.int zz), .val (.int (3 : Int32)), .val (.double mi), .second, .val (.double mx), .second, .val (.ref a1), .val (.ref a8), .val (.ref a13), .val (.int (1 : Int32))] [(.int (1 : Int32))])
  refine own_go (fun _ => XS.iload X15.here hx rfl (hb hby at_197) rfl ) ?_
  show own_R _ _ _ _ T15 (mkF m 199 #[.val (.int ct), .val (.int lo), .val (.int sp), .val (.int zz), .val (.int (3 : Int32)), .val (.double mi), .second, .val (.double mx), .second, .val (.ref a1), .val (.ref a8), .val (.ref a13), .val (.int (1 : Int32))] [(.int (1 : Int32)), (.int (1 : Int32))])
  refine own_go (fun _ => XS.icmpNo X15.here hx rfl (hb hby at_199) rfl (teq (rfl : (1 : Int32) = (1 : Int32))).2) ?_
  show own_R _ _ _ _ T15 (mkF m 202 #[.val (.int ct), .val (.int lo), .val (.int sp), .val (.int zz), .val (.int (3 : Int32)), .val (.double mi), .second, .val (.double mx), .second, .val (.ref a1), .val (.ref a8), .val (.ref a13), .val (.int (1 : Int32))] [])
  refine own_go (fun _ => XS.iconst X15.here hx rfl (hb hby at_202)) ?_
  refine own_go (fun _ => XS.goto X15.here hx rfl (pc0 := 203) (pc' := 207) rfl (hb hby at_203) (by decide) (by decide)) ?_
  show own_R _ _ _ _ T15 (mkF m 207 #[.val (.int ct), .val (.int lo), .val (.int sp), .val (.int zz), .val (.int (3 : Int32)), .val (.double mi), .second, .val (.double mx), .second, .val (.ref a1), .val (.ref a8), .val (.ref a13), .val (.int (1 : Int32))] [(.int (1 : Int32))])
  exact own_endN X15 (some (.int (nar .boolean (1 : Int32)))) (fun h => by rw [hret] at h; cases h) hlk (fun fs hr => retN X15 hx (t := .boolean) hret (by simp) (hb hby at_207) hr) ⟨rfl, N15⟩ (by decide) (by decide)
theorem rm0 (l : Launch) (Z : State) (a0 : Array Value) (hw : own_T a0 Z) (ws : List Jvm.Cond) (h0 : Heap) (n0 : Nat) (de : Addr) (kd : ClassId) (el ea : Addr) (ka : ClassId) (em mr : Addr) (G : own_G Z de kd el ea ka em mr) (Od : Old Z n0 h0) (zc : Int32) (OS : Sta Z Z.heap "java/lang/String" "COMPACT_STRINGS" "Z" (.int zc)) (hzc : ¬ zc = 0) (ct lo sp zz : Int32) :
    own_CW l Z x code maxLocals ret ws room_1 #[.int ct, .int lo, .int sp, .int zz] h0 (own_Q0 n0) := by
  rcases own_n3 ct with h | h | h | h
  · exact rm0_0 l Z a0 hw ws h0 n0 de kd el ea ka em mr G Od zc OS hzc ct lo sp zz h
  · exact rm0_1 l Z a0 hw ws h0 n0 de kd el ea ka em mr G Od zc OS hzc ct lo sp zz h
  · exact rm0_2 l Z a0 hw ws h0 n0 de kd el ea ka em mr G Od zc OS hzc ct lo sp zz h
  · exact rm0_3 l Z a0 hw ws h0 n0 de kd el ea ka em mr G Od zc OS hzc ct lo sp zz h
theorem own_len31 {Z : State} {args : Array Value} {t : Term} {a : Addr} {cl : Cell} {v : Value} (ht : t.eval args Z none [] Z = some (.ref a)) (ha : Z.arrayAt? a = some cl) (h : (Term.length t).eval args Z none [] Z = some v) : cl.slots.size < 2 ^ 31 ∧ v = .int cl.slots.size.toInt32 := by
  by_cases q : cl.slots.size < 2 ^ 31
  · rw [len_f ht ha q] at h
    exact ⟨q, (Option.some.inj h).symm⟩
  · exfalso
    simp [Term.eval, ht, ha, q] at h
theorem own_arv0 {Z : State} {args : Array Value} {t : Term} (hfit : Fit Z) (h1 : (Jvm.Cond.arrayOf t (.object "java/lang/Object")).value args Z none Z [] = some true) (h2 : (Jvm.Cond.eq (Term.length t) (Term.int 0)).value args Z none Z [] = some true) : ∃ (a : Addr) (k : ClassId), t.eval args Z none [] Z = some (.ref a) ∧ Arv Z Z.heap a k (.object "java/lang/Object") (0 : Int32) [] .null := by
  obtain ⟨a, ea⟩ := arr_v h1
  obtain ⟨cl, Ar⟩ := Arr.start ea h1
  have qA : Z.arrayAt? a = some cl := Arr.fin (Z := Z) (U := Z) (State.Warmed39.refl Z).alike Ar
  obtain ⟨l31, l6⟩ := own_len31 ea qA (eqv_i (Term.int_eval 0) h2)
  exact ⟨a, cl.cls, ea, Arv.start (vs := []) (dv := .null) hfit Ar l31 (Value.int.inj l6).symm (by decide) (by decide) trivial⟩
set_option maxRecDepth 65536 in
set_option maxHeartbeats 40000000 in
theorem comes_1 {Post : Tables → Env → Array Value → State → Outcome → State → Prop} (hpost : ∀ tb e args s v u, (limb_1_1.after args s (.returned v) u = true ∧ limb_1_2.after args s (.returned v) u = true ∧ True) → FramedW s (.returned v) u (Jvm.fieldLocs frame_1_writes args s ++ Jvm.arrayLocs frame_1_arrays args s ++ Jvm.staticLocs frame_1_statics s) 64 320 → Post tb e args s (.returned v) u) :
    ArmFor flags0 classFile x code maxLocals ret World_1 tables_1 room_1 Calls_1 rest_1 Pre_1 Post := by
  intro l hfl _ _ p e ha hc hk s m args below hf hA hF happ hP
  obtain ⟨hcalls, hrest, hpre⟩ := hP
  obtain ⟨-, -, -, hnamed, -, -, -, hat⟩ := (Spec.applies_iff hf).mp happ
  obtain ⟨hg, hn⟩ := and_e (Cond.before_iff.mp (show (Jvm.Cond.and given_1 narrow_1).before args s = true from hpre))
  obtain ⟨gc, q0⟩ := and_e hg
  obtain ⟨g0, q1⟩ := and_e q0
  obtain ⟨g1, q2⟩ := and_e q1
  obtain ⟨g2, q3⟩ := and_e q2
  have g3 := q3
  obtain ⟨w0, w1, w2, w3, rfl⟩ : ∃ w0 w1 w2 w3 : Value, args = #[w0, w1, w2, w3] := by
    have hs : args.size = 4 := by simpa [Cond.value, given_1] using gc
    obtain ⟨L⟩ := args
    match L, hs with
    | [w0, w1, w2, w3], _ => exact ⟨w0, w1, w2, w3, rfl⟩
  have hw : own_T _ s := fun i d hi => atoms_spec (ws := Jvm.Cond.code x code maxLocals ret :: tables_1) hat d (List.mem_cons_of_mem _ (List.mem_of_getElem? hi))
  have hfit : Fit s := fun {y c} hc i hi => by
    obtain ⟨ha, rfl⟩ := Array.getElem?_eq_some_iff.mp hc
    have q := List.all_eq_true.mp ((Array.all_eq_true_iff_forall_mem.mp hF) _ (Array.getElem_mem ha)) i (List.mem_range.mpr hi)
    simpa [Array.getElem?_eq_getElem hi] using q
  obtain ⟨i0, ei0⟩ := is_v g0
  obtain rfl : w0 = (.int i0) := Option.some.inj ei0
  obtain ⟨i1, ei1⟩ := is_v g1
  obtain rfl : w1 = (.int i1) := Option.some.inj ei1
  obtain ⟨i2, ei2⟩ := is_v g2
  obtain rfl : w2 = (.int i2) := Option.some.inj ei2
  obtain ⟨i3, ei3⟩ := is_v g3
  obtain rfl : w3 = (.int i3) := Option.some.inj ei3
  obtain ⟨hsets, hown0⟩ := atoms_of _ (rest_1_c_eq ▸ (show rest_1_c.before _ s = true from hrest))
  obtain ⟨zc, ez⟩ := is_v (Cond.before_iff.mp (hsets _ (List.mem_of_getElem? (i := 17) rfl)))
  have OS : Sta s s.heap "java/lang/String" "COMPACT_STRINGS" "Z" (.int zc) := Sta.start ez (Or.inl (hsets _ (List.mem_of_getElem? (i := 16) rfl)))
  have hzc : ¬ zc = 0 := gotF (Cond.eq_ints ez (Term.int_eval (0))) (not_v (Cond.before_iff.mp (hsets _ (List.mem_of_getElem? (i := 18) rfl))))
  obtain ⟨de, kd, ed, Ad⟩ := own_arv0 hfit (Cond.before_iff.mp (hsets _ (List.mem_of_getElem? (i := 6) rfl))) (Cond.before_iff.mp (hsets _ (List.mem_of_getElem? (i := 8) rfl)))
  have SD : Sta s s.heap "java/util/ArrayList" "DEFAULTCAPACITY_EMPTY_ELEMENTDATA" "[Ljava/lang/Object;" (.ref de) := Sta.start ed (Or.inr ⟨(hw 2 rfl), (hsets _ (List.mem_of_getElem? (i := 2) rfl))⟩)
  obtain ⟨el, eel⟩ := exa_v (Cond.before_iff.mp (hsets _ (List.mem_of_getElem? (i := 11) rfl)))
  have SL : Sta s s.heap "java/util/ImmutableCollections" "EMPTY_LIST" "Ljava/util/ImmutableCollections$ListN;" (.ref el) := Sta.start eel (Or.inl (hsets _ (List.mem_of_getElem? (i := 10) rfl)))
  have EL := Exa.start eel (Cond.before_iff.mp (hsets _ (List.mem_of_getElem? (i := 11) rfl)))
  obtain ⟨ea, ka, eea, Ae⟩ := own_arv0 hfit (Cond.before_iff.mp (hsets _ (List.mem_of_getElem? (i := 12) rfl))) (Cond.before_iff.mp (hsets _ (List.mem_of_getElem? (i := 14) rfl)))
  rw [fld_at eel] at eea
  have Fe := Fld.start eea
  have q1 := eqv_i (Term.int_eval 0) (Cond.before_iff.mp (hsets _ (List.mem_of_getElem? (i := 15) rfl)))
  rw [fld_at eel] at q1
  have Fn := Fld.start q1
  obtain ⟨em, eem⟩ := exa_v (Cond.before_iff.mp (hsets _ (List.mem_of_getElem? (i := 27) rfl)))
  have SE : Sta s s.heap "java/util/ImmutableCollections" "EMPTY" "Ljava/lang/Object;" (.ref em) := Sta.start eem (Or.inl (hsets _ (List.mem_of_getElem? (i := 26) rfl)))
  have EM := Exa.start eem (Cond.before_iff.mp (hsets _ (List.mem_of_getElem? (i := 27) rfl)))
  obtain ⟨cm, kmm, mr, m1, m2, m3, m4⟩ := hcalls.1
  have MR : Mir s "[Ljava/lang/Object;" mr := ⟨cm, kmm, m1, m2, m3, m4⟩
  have G : own_G s de kd el ea ka em mr := ⟨SD, Ad, SL, EL, Fn, Fe, Ae, SE, EM, MR⟩
  obtain ⟨n, o, h1, h2, h3, _, L, rfl, ⟨rfl, N⟩, hq⟩ := rm0 l s _ hw tables_1 s.heap s.heap.size de kd el ea ka em mr G (Old.start s) zc OS hzc i0 i1 i2 i3  p e ha hc hk s m _ below hf ((Spec.applies_iff_loose hf).mp happ).1 ⟨rfl, State.Warmed39.refl s, rfl⟩ trivial
  refine ⟨n, _, h1, h2, h3, hpost _ _ _ _ _ _ ⟨Cond.after_iff.mpr rfl, Cond.after_iff.mpr (eq_i res_at (Term.int_eval (1)) rfl), trivial⟩ ⟨hq.1, hq.2.1, hq.2.2.1, (hq.2.2.2.sift fun y hy => Or.inr (N y hy)).mono (by decide) (by decide)⟩⟩
theorem main_1_1 : Claimed_1_1 := comes_1 fun _ _ _ _ _ _ h hF => ⟨h.1, hF⟩
theorem main_1_2 : Claimed_1_2 := comes_1 fun _ _ _ _ _ _ h hF => ⟨h.2.1, hF⟩

end Jvm.Pilot.@@N@@
namespace Jvm.Pilot.@@N@@
open Jvm Jvm.ClassFile Sem Op Lib Jvm.Free Jvm.Stand Jvm.Pilot.@@N@@.Jvm.D
/-! MADE BY PROGRAM (witnessworld.py) out of the Statement's table words and the real class files: 46 classes; the members and pool entries that the words name. The judged class is class 1, her method 1. -/
namespace start1
open Jvm.ClassFile
def u (s : String) : CpInfo := .utf8 (stringToUtf16 s)
/-- a pool by its gaps: so many unusable entries, then the entry; so many at the end -/
def gap : Nat → List CpInfo → List CpInfo
  | 0, r => r
  | n + 1, r => .unusable :: gap n r
def poolList (es : List (Nat × CpInfo)) (last : Nat) : List CpInfo := es.foldr (fun e r => gap e.1 (e.2 :: r)) (gap last [])
def pool (es : List (Nat × CpInfo)) (last : Nat) : Array CpInfo := ⟨poolList es last⟩
def fileOf (pool : Array CpInfo) (this : Nat) (attrs : Array Attribute := #[]) (ms : Array MethodInfo := #[]) (fl : Nat := 33) (sup : Nat := 0) (ifs : Array Nat := #[]) (fds : Array FieldInfo := #[]) : ClassFile where
  minorVersion := 0
  majorVersion := 65
  constantPool := pool
  accessFlags := fl
  thisClass := this
  superClass := sup
  interfaces := ifs
  fields := fds
  methods := ms
  attributes := attrs
def plain (name : String) (sup : Option ClassId) : Class where
  name := name
  kind := .ordinary
  loader := none
  accessFlags := 33
  super := sup
  interfaces := #[]
  cf := none
  fields := #[]
  methods := #[]
  instanceTypes := #[]
  staticTypes := #[]
  resolved := #[]
  callSites := []
  init := .initialized
  statics := none
  mirror := none

def pool0 : Array CpInfo := pool [(5, u "<init>"), (0, u "()V"), (1, .class_ 10), (1, u "java/lang/Object"), (0, u "getClass"), (0, u "()Ljava/lang/Class;")] 111

def k0c0 : Code := { maxStack := 0, maxLocals := 1, code := object_method_1_code, exceptionTable := #[], attributes := #[] }
def k0m0 : Method := { name := "<init>", desc := "()V", sig := { parameters := [], returnType := none }, accessFlags := 1, code := some k0c0 }
def k0m1 : Method := { name := "getClass", desc := "()Ljava/lang/Class;", sig := { parameters := [], returnType := some (.object "java/lang/Class") }, accessFlags := 273, code := none }
/-- java/lang/Object -/
def k0 : Class := { plain "java/lang/Object" none with
  accessFlags := 33
  interfaces := #[]
  cf := some (fileOf pool0 8 #[] #[{ accessFlags := 1, nameIndex := 5, descriptorIndex := 6, attributes := #[] }, { accessFlags := 273, nameIndex := 11, descriptorIndex := 12, attributes := #[] }] 33 0 #[] #[])
  fields := #[]
  methods := #[k0m0, k0m1]
  instanceTypes := #[]
  staticTypes := #[]
  resolved := Array.replicate 124 none
  statics := none }

def pool1 : Array CpInfo := pool [(2, .class_ 4), (0, .nameAndType 5 6), (0, u "java/lang/Object"), (0, u "<init>"), (0, u "()V"), (0, .class_ 8), (0, u "java/util/ArrayList"), (0, .methodref 7 3), (0, .class_ 11), (0, u "com/example/zellwerk/zellwerk/model/Area"), (0, .methodref 13 14), (0, .class_ 15), (0, .nameAndType 16 17), (0, u "java/lang/String"), (0, u "valueOf"), (0, u "(C)Ljava/lang/String;"), (0, .methodref 10 19), (0, .nameAndType 5 20), (0, u "(Ljava/lang/String;DDDDLjava/util/Optional;)V"), (0, .interfaceMethodref 22 23), (0, .class_ 24), (0, .nameAndType 25 26), (0, u "java/util/List"), (0, u "add"), (0, u "(Ljava/lang/Object;)Z"), (0, .class_ 28), (0, u "com/example/zellwerk/zellwerk/model/Cell"), (0, .methodref 27 30), (0, .nameAndType 5 31), (0, u "(DLjava/util/List;Ljava/util/List;Ljava/util/List;)V"), (0, .class_ 33), (0, u "com/example/zellwerk/zellwerk/service/Holdings"), (0, .methodref 32 35), (0, .nameAndType 5 36), (0, u "(Lcom/example/zellwerk/zellwerk/model/Cell;)V"), (0, .methodref 32 38), (0, .nameAndType 39 40), (0, u "any"), (0, u "()Z"), (0, .class_ 42), (0, u "com/example/zellwerk/zellwerk/service/HoldingsAnyPinLaw"), (2, u "law"), (0, u "(IIII)Z")] 3

def k1m0 : Method := { name := "<init>", desc := "()V", sig := { parameters := [], returnType := none }, accessFlags := 2, code := none }
def k1c1 : Code := { maxStack := 13, maxLocals := 13, code := code, exceptionTable := #[], attributes := #[] }
def k1m1 : Method := { name := "law", desc := "(IIII)Z", sig := { parameters := [.int, .int, .int, .int], returnType := some .boolean }, accessFlags := 9, code := some k1c1 }
/-- com/example/zellwerk/zellwerk/service/HoldingsAnyPinLaw -/
def k1 : Class := { plain "com/example/zellwerk/zellwerk/service/HoldingsAnyPinLaw" (some 0) with
  accessFlags := 49
  interfaces := #[]
  cf := some (fileOf pool1 41 #[] #[{ accessFlags := 2, nameIndex := 5, descriptorIndex := 6, attributes := #[] }, { accessFlags := 9, nameIndex := 45, descriptorIndex := 46, attributes := #[] }] 49 2 #[] #[])
  fields := #[]
  methods := #[k1m0, k1m1]
  instanceTypes := #[]
  staticTypes := #[]
  resolved := Array.replicate 50 none
  statics := none }

def pool2 : Array CpInfo := pool [(1, .methodref 2 3), (0, .class_ 4), (0, .nameAndType 5 6), (0, u "java/util/Objects"), (0, u "requireNonNull"), (0, u "(Ljava/lang/Object;)Ljava/lang/Object;"), (0, .interfaceMethodref 8 9), (0, .class_ 10), (0, .nameAndType 11 12), (0, u "java/lang/Iterable"), (0, u "iterator"), (0, u "()Ljava/util/Iterator;"), (0, .interfaceMethodref 14 15), (0, .class_ 16), (0, .nameAndType 17 18), (0, u "java/util/Iterator"), (0, u "hasNext"), (0, u "()Z"), (0, .interfaceMethodref 14 20), (0, .nameAndType 21 22), (0, u "next"), (0, u "()Ljava/lang/Object;"), (0, .interfaceMethodref 24 25), (0, .class_ 26), (0, .nameAndType 27 28), (0, u "java/util/function/Consumer"), (0, u "accept"), (0, u "(Ljava/lang/Object;)V"), (6, .class_ 36), (0, u "java/lang/Object"), (2, u "forEach"), (0, u "(Ljava/util/function/Consumer;)V")] 21

def k2m0 : Method := { name := "iterator", desc := "()Ljava/util/Iterator;", sig := { parameters := [], returnType := some (.object "java/util/Iterator") }, accessFlags := 1025, code := none }
def k2c1 : Code := { maxStack := 2, maxLocals := 4, code := jdk_27_method_2_code, exceptionTable := #[], attributes := #[] }
def k2m1 : Method := { name := "forEach", desc := "(Ljava/util/function/Consumer;)V", sig := { parameters := [(.object "java/util/function/Consumer")], returnType := none }, accessFlags := 1, code := some k2c1 }
/-- java/lang/Iterable -/
def k2 : Class := { plain "java/lang/Iterable" (some 0) with
  accessFlags := 1537
  interfaces := #[]
  cf := some (fileOf pool2 8 #[] #[{ accessFlags := 1025, nameIndex := 11, descriptorIndex := 12, attributes := #[] }, { accessFlags := 1, nameIndex := 39, descriptorIndex := 40, attributes := #[] }] 1537 35 #[] #[])
  fields := #[]
  methods := #[k2m0, k2m1]
  instanceTypes := #[]
  staticTypes := #[]
  resolved := Array.replicate 62 none
  statics := none }

def pool3 : Array CpInfo := pool [(10, .class_ 12), (1, u "java/util/Collection"), (0, u "toArray"), (16, u "()Z"), (29, .class_ 61), (0, u "java/lang/Object"), (0, .class_ 63), (0, u "java/lang/Iterable"), (2, u "isEmpty"), (3, u "()[Ljava/lang/Object;")] 44

def k3m0 : Method := { name := "isEmpty", desc := "()Z", sig := { parameters := [], returnType := some .boolean }, accessFlags := 1025, code := none }
def k3m1 : Method := { name := "toArray", desc := "()[Ljava/lang/Object;", sig := { parameters := [], returnType := some (.array (.object "java/lang/Object")) }, accessFlags := 1025, code := none }
/-- java/util/Collection -/
def k3 : Class := { plain "java/util/Collection" (some 0) with
  accessFlags := 1537
  interfaces := #[2]
  cf := some (fileOf pool3 10 #[] #[{ accessFlags := 1025, nameIndex := 66, descriptorIndex := 30, attributes := #[] }, { accessFlags := 1025, nameIndex := 13, descriptorIndex := 70, attributes := #[] }] 1537 60 #[62] #[])
  fields := #[]
  methods := #[k3m0, k3m1]
  instanceTypes := #[]
  staticTypes := #[]
  resolved := Array.replicate 115 none
  statics := none }

def pool4 : Array CpInfo := pool [(1, .methodref 2 3), (0, .class_ 4), (0, .nameAndType 5 6), (0, u "java/lang/Object"), (0, u "<init>"), (0, u "()V"), (1, .class_ 10), (1, u "java/util/AbstractCollection"), (0, u "size"), (0, u "()I"), (64, .class_ 78), (0, u "java/util/Collection")] 81

def k4c0 : Code := { maxStack := 1, maxLocals := 1, code := jdk_22_method_1_code, exceptionTable := #[], attributes := #[] }
def k4m0 : Method := { name := "<init>", desc := "()V", sig := { parameters := [], returnType := none }, accessFlags := 4, code := some k4c0 }
def k4m1 : Method := { name := "size", desc := "()I", sig := { parameters := [], returnType := some .int }, accessFlags := 1025, code := none }
/-- java/util/AbstractCollection -/
def k4 : Class := { plain "java/util/AbstractCollection" (some 0) with
  accessFlags := 1057
  interfaces := #[3]
  cf := some (fileOf pool4 8 #[] #[{ accessFlags := 4, nameIndex := 5, descriptorIndex := 6, attributes := #[] }, { accessFlags := 1025, nameIndex := 11, descriptorIndex := 12, attributes := #[] }] 1057 2 #[77] #[])
  fields := #[]
  methods := #[k4m0, k4m1]
  instanceTypes := #[]
  staticTypes := #[]
  resolved := Array.replicate 160 none
  statics := none }

def pool5 : Array CpInfo := pool [(8, .class_ 10), (1, u "java/util/SequencedCollection"), (15, .class_ 27), (0, u "java/lang/Object"), (0, .class_ 29), (0, u "java/util/Collection")] 27

/-- java/util/SequencedCollection -/
def k5 : Class := { plain "java/util/SequencedCollection" (some 0) with
  accessFlags := 1537
  interfaces := #[3]
  cf := some (fileOf pool5 8 #[] #[] 1537 26 #[28] #[])
  fields := #[]
  methods := #[]
  instanceTypes := #[]
  staticTypes := #[]
  resolved := Array.replicate 57 none
  statics := none }

def pool6 : Array CpInfo := pool [(8, .class_ 10), (1, u "java/util/List"), (20, u "(Ljava/lang/Object;)V"), (16, u "<init>"), (11, u "add"), (3, u "(Ljava/lang/Object;)Z"), (10, u "get"), (0, u "(I)Ljava/lang/Object;"), (2, u "size"), (0, u "()I"), (7, u "of"), (1, .fieldref 91 92), (0, .class_ 93), (0, .nameAndType 94 95), (0, u "java/util/ImmutableCollections"), (0, u "EMPTY_LIST"), (0, u "Ljava/util/ImmutableCollections$ListN;"), (0, .class_ 97), (0, u "java/util/ImmutableCollections$List12"), (0, .methodref 96 99), (0, .nameAndType 48 31), (0, .methodref 96 101), (0, .nameAndType 48 102), (0, u "(Ljava/lang/Object;Ljava/lang/Object;)V"), (0, .class_ 104), (0, u "java/lang/Object"), (3, u "([Ljava/lang/Object;)Ljava/util/List;"), (0, .methodref 91 110), (0, .nameAndType 111 108), (0, u "listFromArray"), (0, .methodref 91 113), (0, .nameAndType 114 115), (0, u "listCopy"), (0, u "(Ljava/util/Collection;)Ljava/util/List;"), (3, u "()Ljava/util/List;"), (0, .class_ 121), (0, u "java/util/SequencedCollection"), (112, u "copyOf")] 16

def k6m0 : Method := { name := "size", desc := "()I", sig := { parameters := [], returnType := some .int }, accessFlags := 1025, code := none }
def k6m1 : Method := { name := "add", desc := "(Ljava/lang/Object;)Z", sig := { parameters := [(.object "java/lang/Object")], returnType := some .boolean }, accessFlags := 1025, code := none }
def k6m2 : Method := { name := "get", desc := "(I)Ljava/lang/Object;", sig := { parameters := [.int], returnType := some (.object "java/lang/Object") }, accessFlags := 1025, code := none }
def k6c3 : Code := { maxStack := 1, maxLocals := 0, code := jdk_40_method_36_code, exceptionTable := #[], attributes := #[] }
def k6m3 : Method := { name := "of", desc := "()Ljava/util/List;", sig := { parameters := [], returnType := some (.object "java/util/List") }, accessFlags := 9, code := some k6c3 }
def k6c4 : Code := { maxStack := 5, maxLocals := 2, code := jdk_40_method_47_code, exceptionTable := #[], attributes := #[] }
def k6m4 : Method := { name := "of", desc := "([Ljava/lang/Object;)Ljava/util/List;", sig := { parameters := [(.array (.object "java/lang/Object"))], returnType := some (.object "java/util/List") }, accessFlags := 137, code := some k6c4 }
def k6c5 : Code := { maxStack := 1, maxLocals := 1, code := jdk_40_method_48_code, exceptionTable := #[], attributes := #[] }
def k6m5 : Method := { name := "copyOf", desc := "(Ljava/util/Collection;)Ljava/util/List;", sig := { parameters := [(.object "java/util/Collection")], returnType := some (.object "java/util/List") }, accessFlags := 9, code := some k6c5 }
/-- java/util/List -/
def k6 : Class := { plain "java/util/List" (some 0) with
  accessFlags := 1537
  interfaces := #[5]
  cf := some (fileOf pool6 8 #[] #[{ accessFlags := 1025, nameIndex := 79, descriptorIndex := 80, attributes := #[] }, { accessFlags := 1025, nameIndex := 60, descriptorIndex := 64, attributes := #[] }, { accessFlags := 1025, nameIndex := 75, descriptorIndex := 76, attributes := #[] }, { accessFlags := 9, nameIndex := 88, descriptorIndex := 119, attributes := #[] }, { accessFlags := 137, nameIndex := 88, descriptorIndex := 108, attributes := #[] }, { accessFlags := 9, nameIndex := 234, descriptorIndex := 115, attributes := #[] }] 1537 103 #[120] #[])
  fields := #[]
  methods := #[k6m0, k6m1, k6m2, k6m3, k6m4, k6m5]
  instanceTypes := #[]
  staticTypes := #[]
  resolved := Array.replicate 251 none
  statics := none }

def pool7 : Array CpInfo := pool [(1, .methodref 2 3), (0, .class_ 4), (0, .nameAndType 5 6), (0, u "java/util/AbstractCollection"), (0, u "<init>"), (0, u "()V"), (0, .fieldref 8 9), (0, .class_ 10), (0, .nameAndType 11 12), (0, u "java/util/AbstractList"), (0, u "modCount"), (0, u "I"), (64, .class_ 78), (0, u "java/util/AbstractList$Itr"), (3, .class_ 83), (0, u "java/util/AbstractList$ListItr"), (9, .class_ 94), (0, u "java/util/AbstractList$RandomAccessSubList"), (3, .class_ 99), (0, u "java/util/AbstractList$SubList"), (33, .class_ 134), (0, u "java/util/List"), (73, .class_ 209), (0, u "java/util/AbstractList$SubList$1"), (0, .class_ 211), (0, u "java/util/AbstractList$RandomAccessSpliterator")] 6

def k7c0 : Code := { maxStack := 2, maxLocals := 1, code := jdk_39_method_1_code, exceptionTable := #[], attributes := #[] }
def k7m0 : Method := { name := "<init>", desc := "()V", sig := { parameters := [], returnType := none }, accessFlags := 4, code := some k7c0 }
/-- java/util/AbstractList -/
def k7 : Class := { plain "java/util/AbstractList" (some 4) with
  accessFlags := 1057
  interfaces := #[6]
  cf := some (fileOf pool7 8 #[.nestMembers #[93, 98, 208, 210, 82, 77]] #[{ accessFlags := 4, nameIndex := 5, descriptorIndex := 6, attributes := #[] }] 1057 2 #[133] #[{ accessFlags := 132, nameIndex := 11, descriptorIndex := 12, attributes := #[] }])
  fields := #[{ name := "modCount", type := .int, accessFlags := 132, slot := 0, constantValue := 0 }]
  methods := #[k7m0]
  instanceTypes := #[.int]
  staticTypes := #[]
  resolved := Array.replicate 218 none
  statics := none }

def pool8 : Array CpInfo := pool [(1, .class_ 2), (0, u "java/util/RandomAccess"), (0, .class_ 4), (0, u "java/lang/Object")] 2

/-- java/util/RandomAccess -/
def k8 : Class := { plain "java/util/RandomAccess" (some 0) with
  accessFlags := 1537
  interfaces := #[]
  cf := some (fileOf pool8 1 #[] #[] 1537 3 #[] #[])
  fields := #[]
  methods := #[]
  instanceTypes := #[]
  staticTypes := #[]
  resolved := Array.replicate 7 none
  statics := none }

def pool9 : Array CpInfo := pool [(1, .class_ 2), (0, u "java/lang/Cloneable"), (0, .class_ 4), (0, u "java/lang/Object")] 2

/-- java/lang/Cloneable -/
def k9 : Class := { plain "java/lang/Cloneable" (some 0) with
  accessFlags := 1537
  interfaces := #[]
  cf := some (fileOf pool9 1 #[] #[] 1537 3 #[] #[])
  fields := #[]
  methods := #[]
  instanceTypes := #[]
  staticTypes := #[]
  resolved := Array.replicate 7 none
  statics := none }

def pool10 : Array CpInfo := pool [(1, .class_ 2), (0, u "java/io/Serializable"), (0, .class_ 4), (0, u "java/lang/Object")] 2

/-- java/io/Serializable -/
def k10 : Class := { plain "java/io/Serializable" (some 0) with
  accessFlags := 1537
  interfaces := #[]
  cf := some (fileOf pool10 1 #[] #[] 1537 3 #[] #[])
  fields := #[]
  methods := #[]
  instanceTypes := #[]
  staticTypes := #[]
  resolved := Array.replicate 7 none
  statics := none }

def pool11 : Array CpInfo := pool [(1, .methodref 2 3), (0, .class_ 4), (0, .nameAndType 5 6), (0, u "java/util/AbstractList"), (0, u "<init>"), (0, u "()V"), (0, .class_ 8), (0, u "java/lang/Object"), (0, .fieldref 10 11), (0, .class_ 12), (0, .nameAndType 13 14), (0, u "java/util/ArrayList"), (0, u "elementData"), (0, u "[Ljava/lang/Object;"), (2, u "EMPTY_ELEMENTDATA"), (21, .fieldref 10 40), (0, .nameAndType 41 14), (0, u "DEFAULTCAPACITY_EMPTY_ELEMENTDATA"), (4, u "toArray"), (0, u "()[Ljava/lang/Object;"), (0, .fieldref 10 49), (0, .nameAndType 50 51), (0, u "size"), (0, u "I"), (6, .class_ 60), (1, u "java/util/Arrays"), (0, u "copyOf"), (1, .fieldref 10 64), (0, .nameAndType 65 51), (0, u "modCount"), (0, .methodref 58 67), (0, .nameAndType 61 68), (0, u "([Ljava/lang/Object;I)[Ljava/lang/Object;"), (0, .methodref 10 70), (0, .nameAndType 71 72), (0, u "grow"), (0, u "(I)[Ljava/lang/Object;"), (6, .methodref 80 81), (0, .class_ 82), (0, .nameAndType 83 84), (0, u "java/lang/Math"), (0, u "max"), (0, u "(II)I"), (11, u "(Ljava/lang/Object;)Z"), (32, .methodref 10 130), (0, .nameAndType 71 47), (0, .methodref 10 132), (0, .nameAndType 133 134), (0, u "add"), (0, u "(Ljava/lang/Object;[Ljava/lang/Object;I)V"), (13, .class_ 149), (0, u "java/util/List"), (23, u "()Z"), (88, .class_ 263), (0, u "java/util/ArrayList$ListItr"), (3, .class_ 268), (0, u "java/util/ArrayList$Itr"), (7, .class_ 277), (0, u "java/util/ArrayList$SubList"), (12, .class_ 291), (0, u "java/util/ArrayList$ArrayListSpliterator"), (37, .class_ 330), (0, u "java/util/RandomAccess"), (0, .class_ 332), (0, u "java/lang/Cloneable"), (0, .class_ 334), (0, u "java/io/Serializable"), (0, u "serialVersionUID"), (0, u "J"), (3, u "DEFAULT_CAPACITY"), (22, u "isEmpty"), (136, .class_ 501), (0, u "java/util/ArrayList$SubList$2"), (0, .class_ 503), (0, u "java/util/ArrayList$SubList$1")] 5

def k11c0 : Code := { maxStack := 2, maxLocals := 1, code := jdk_38_method_2_code, exceptionTable := #[], attributes := #[] }
def k11m0 : Method := { name := "<init>", desc := "()V", sig := { parameters := [], returnType := none }, accessFlags := 1, code := some k11c0 }
def k11c1 : Code := { maxStack := 4, maxLocals := 4, code := jdk_38_method_6_code, exceptionTable := #[], attributes := #[] }
def k11m1 : Method := { name := "grow", desc := "(I)[Ljava/lang/Object;", sig := { parameters := [.int], returnType := some (.array (.object "java/lang/Object")) }, accessFlags := 2, code := some k11c1 }
def k11c2 : Code := { maxStack := 3, maxLocals := 1, code := jdk_38_method_7_code, exceptionTable := #[], attributes := #[] }
def k11m2 : Method := { name := "grow", desc := "()[Ljava/lang/Object;", sig := { parameters := [], returnType := some (.array (.object "java/lang/Object")) }, accessFlags := 2, code := some k11c2 }
def k11c3 : Code := { maxStack := 1, maxLocals := 1, code := jdk_38_method_9_code, exceptionTable := #[], attributes := #[] }
def k11m3 : Method := { name := "isEmpty", desc := "()Z", sig := { parameters := [], returnType := some .boolean }, accessFlags := 1, code := some k11c3 }
def k11c4 : Code := { maxStack := 2, maxLocals := 1, code := jdk_38_method_16_code, exceptionTable := #[], attributes := #[] }
def k11m4 : Method := { name := "toArray", desc := "()[Ljava/lang/Object;", sig := { parameters := [], returnType := some (.array (.object "java/lang/Object")) }, accessFlags := 1, code := some k11c4 }
def k11c5 : Code := { maxStack := 3, maxLocals := 4, code := jdk_38_method_24_code, exceptionTable := #[], attributes := #[] }
def k11m5 : Method := { name := "add", desc := "(Ljava/lang/Object;[Ljava/lang/Object;I)V", sig := { parameters := [(.object "java/lang/Object"), (.array (.object "java/lang/Object")), .int], returnType := none }, accessFlags := 2, code := some k11c5 }
def k11c6 : Code := { maxStack := 4, maxLocals := 2, code := jdk_38_method_25_code, exceptionTable := #[], attributes := #[] }
def k11m6 : Method := { name := "add", desc := "(Ljava/lang/Object;)Z", sig := { parameters := [(.object "java/lang/Object")], returnType := some .boolean }, accessFlags := 1, code := some k11c6 }
/-- java/util/ArrayList -/
def k11 : Class := { plain "java/util/ArrayList" (some 7) with
  accessFlags := 33
  interfaces := #[6, 8, 9, 10]
  cf := some (fileOf pool11 10 #[.nestMembers #[290, 276, 500, 502, 262, 267]] #[{ accessFlags := 1, nameIndex := 5, descriptorIndex := 6, attributes := #[] }, { accessFlags := 2, nameIndex := 71, descriptorIndex := 72, attributes := #[] }, { accessFlags := 2, nameIndex := 71, descriptorIndex := 47, attributes := #[] }, { accessFlags := 1, nameIndex := 363, descriptorIndex := 173, attributes := #[] }, { accessFlags := 1, nameIndex := 46, descriptorIndex := 47, attributes := #[] }, { accessFlags := 2, nameIndex := 133, descriptorIndex := 134, attributes := #[] }, { accessFlags := 1, nameIndex := 133, descriptorIndex := 96, attributes := #[] }] 33 2 #[148, 329, 331, 333] #[{ accessFlags := 26, nameIndex := 335, descriptorIndex := 336, attributes := #[] }, { accessFlags := 26, nameIndex := 340, descriptorIndex := 51, attributes := #[] }, { accessFlags := 26, nameIndex := 17, descriptorIndex := 14, attributes := #[] }, { accessFlags := 26, nameIndex := 41, descriptorIndex := 14, attributes := #[] }, { accessFlags := 128, nameIndex := 13, descriptorIndex := 14, attributes := #[] }, { accessFlags := 2, nameIndex := 50, descriptorIndex := 51, attributes := #[] }])
  fields := #[{ name := "serialVersionUID", type := .long, accessFlags := 26, slot := 0, constantValue := 0 }, { name := "DEFAULT_CAPACITY", type := .int, accessFlags := 26, slot := 1, constantValue := 0 }, { name := "EMPTY_ELEMENTDATA", type := (.array (.object "java/lang/Object")), accessFlags := 26, slot := 2, constantValue := 0 }, { name := "DEFAULTCAPACITY_EMPTY_ELEMENTDATA", type := (.array (.object "java/lang/Object")), accessFlags := 26, slot := 3, constantValue := 0 }, { name := "elementData", type := (.array (.object "java/lang/Object")), accessFlags := 128, slot := 1, constantValue := 0 }, { name := "size", type := .int, accessFlags := 2, slot := 2, constantValue := 0 }]
  methods := #[k11m0, k11m1, k11m2, k11m3, k11m4, k11m5, k11m6]
  instanceTypes := #[.int, (.array (.object "java/lang/Object")), .int]
  staticTypes := #[.long, .int, (.array (.object "java/lang/Object")), (.array (.object "java/lang/Object"))]
  resolved := Array.replicate 509 none
  statics := some 0 }

def pool12 : Array CpInfo := pool [(1, .methodref 2 3), (0, .class_ 4), (0, .nameAndType 5 6), (0, u "java/lang/Object"), (0, u "<init>"), (0, u "()V"), (0, .class_ 8), (0, u "java/lang/Record")] 13

def k12c0 : Code := { maxStack := 1, maxLocals := 1, code := jdk_30_method_1_code, exceptionTable := #[], attributes := #[] }
def k12m0 : Method := { name := "<init>", desc := "()V", sig := { parameters := [], returnType := none }, accessFlags := 4, code := some k12c0 }
/-- java/lang/Record -/
def k12 : Class := { plain "java/lang/Record" (some 0) with
  accessFlags := 1057
  interfaces := #[]
  cf := some (fileOf pool12 7 #[] #[{ accessFlags := 4, nameIndex := 5, descriptorIndex := 6, attributes := #[] }] 1057 2 #[] #[])
  fields := #[]
  methods := #[k12m0]
  instanceTypes := #[]
  staticTypes := #[]
  resolved := Array.replicate 22 none
  statics := none }

def pool13 : Array CpInfo := pool [(1, .methodref 2 3), (0, .class_ 4), (0, .nameAndType 5 6), (0, u "java/lang/Record"), (0, u "<init>"), (0, u "()V"), (0, .interfaceMethodref 8 9), (0, .class_ 10), (0, .nameAndType 11 12), (0, u "java/util/List"), (0, u "copyOf"), (0, u "(Ljava/util/Collection;)Ljava/util/List;"), (0, .fieldref 14 15), (0, .class_ 16), (0, .nameAndType 17 18), (0, u "com/example/zellwerk/zellwerk/model/Cell"), (0, u "safeZ"), (0, u "D"), (0, .fieldref 14 20), (0, .nameAndType 21 22), (0, u "robots"), (0, u "Ljava/util/List;"), (0, .fieldref 14 24), (0, .nameAndType 25 22), (0, u "feeders"), (0, .fieldref 14 27), (0, .nameAndType 28 22), (0, u "areas"), (0, .fieldref 14 30), (0, .nameAndType 31 18), (0, u "coupleS"), (0, .fieldref 14 33), (0, .nameAndType 34 22), (0, u "grippers"), (0, .fieldref 14 36), (0, .nameAndType 37 22), (0, u "ports"), (0, .interfaceMethodref 8 39), (0, .nameAndType 40 41), (0, u "of"), (0, u "()Ljava/util/List;"), (0, .methodref 14 43), (0, .nameAndType 5 44), (0, u "(DLjava/util/List;Ljava/util/List;Ljava/util/List;DLjava/util/List;Ljava/util/List;)V"), (113, u "(DLjava/util/List;Ljava/util/List;Ljava/util/List;)V")] 93

def k13c0 : Code := { maxStack := 3, maxLocals := 10, code := prog_24_method_1_code, exceptionTable := #[], attributes := #[] }
def k13m0 : Method := { name := "<init>", desc := "(DLjava/util/List;Ljava/util/List;Ljava/util/List;DLjava/util/List;Ljava/util/List;)V", sig := { parameters := [.double, (.object "java/util/List"), (.object "java/util/List"), (.object "java/util/List"), .double, (.object "java/util/List"), (.object "java/util/List")], returnType := none }, accessFlags := 1, code := some k13c0 }
def k13c1 : Code := { maxStack := 10, maxLocals := 6, code := prog_24_method_2_code, exceptionTable := #[], attributes := #[] }
def k13m1 : Method := { name := "<init>", desc := "(DLjava/util/List;Ljava/util/List;Ljava/util/List;)V", sig := { parameters := [.double, (.object "java/util/List"), (.object "java/util/List"), (.object "java/util/List")], returnType := none }, accessFlags := 1, code := some k13c1 }
def k13c2 : Code := { maxStack := 1, maxLocals := 1, code := prog_24_method_13_code, exceptionTable := #[], attributes := #[] }
def k13m2 : Method := { name := "areas", desc := "()Ljava/util/List;", sig := { parameters := [], returnType := some (.object "java/util/List") }, accessFlags := 1, code := some k13c2 }
/-- com/example/zellwerk/zellwerk/model/Cell -/
def k13 : Class := { plain "com/example/zellwerk/zellwerk/model/Cell" (some 12) with
  accessFlags := 49
  interfaces := #[]
  cf := some (fileOf pool13 14 #[] #[{ accessFlags := 1, nameIndex := 5, descriptorIndex := 44, attributes := #[] }, { accessFlags := 1, nameIndex := 5, descriptorIndex := 158, attributes := #[] }, { accessFlags := 1, nameIndex := 28, descriptorIndex := 41, attributes := #[] }] 49 2 #[] #[{ accessFlags := 18, nameIndex := 17, descriptorIndex := 18, attributes := #[] }, { accessFlags := 18, nameIndex := 21, descriptorIndex := 22, attributes := #[] }, { accessFlags := 18, nameIndex := 25, descriptorIndex := 22, attributes := #[] }, { accessFlags := 18, nameIndex := 28, descriptorIndex := 22, attributes := #[] }, { accessFlags := 18, nameIndex := 31, descriptorIndex := 18, attributes := #[] }, { accessFlags := 18, nameIndex := 34, descriptorIndex := 22, attributes := #[] }, { accessFlags := 18, nameIndex := 37, descriptorIndex := 22, attributes := #[] }])
  fields := #[{ name := "safeZ", type := .double, accessFlags := 18, slot := 0, constantValue := 0 }, { name := "robots", type := (.object "java/util/List"), accessFlags := 18, slot := 1, constantValue := 0 }, { name := "feeders", type := (.object "java/util/List"), accessFlags := 18, slot := 2, constantValue := 0 }, { name := "areas", type := (.object "java/util/List"), accessFlags := 18, slot := 3, constantValue := 0 }, { name := "coupleS", type := .double, accessFlags := 18, slot := 4, constantValue := 0 }, { name := "grippers", type := (.object "java/util/List"), accessFlags := 18, slot := 5, constantValue := 0 }, { name := "ports", type := (.object "java/util/List"), accessFlags := 18, slot := 6, constantValue := 0 }]
  methods := #[k13m0, k13m1, k13m2]
  instanceTypes := #[.double, (.object "java/util/List"), (.object "java/util/List"), (.object "java/util/List"), .double, (.object "java/util/List"), (.object "java/util/List")]
  staticTypes := #[]
  resolved := Array.replicate 252 none
  statics := none }

def pool14 : Array CpInfo := pool [(2, .class_ 4), (1, u "java/lang/Object"), (0, u "<init>"), (0, u "()V"), (3, .class_ 11), (0, u "java/util/ImmutableCollections$List12"), (0, .class_ 13), (0, u "java/util/ImmutableCollections$ListN"), (0, .fieldref 12 15), (0, .nameAndType 16 17), (0, u "allowNulls"), (0, u "Z"), (0, .class_ 19), (0, u "java/util/List"), (0, .interfaceMethodref 21 22), (0, .class_ 23), (0, .nameAndType 24 25), (0, u "java/util/Collection"), (0, u "isEmpty"), (0, u "()Z"), (0, .interfaceMethodref 18 27), (0, .nameAndType 28 29), (0, u "of"), (0, u "()Ljava/util/List;"), (0, .interfaceMethodref 21 31), (0, .nameAndType 32 33), (0, u "toArray"), (0, u "()[Ljava/lang/Object;"), (0, .interfaceMethodref 18 35), (0, .nameAndType 28 36), (0, u "([Ljava/lang/Object;)Ljava/util/List;"), (0, .methodref 38 39), (0, .class_ 40), (0, .nameAndType 41 42), (0, u "java/util/Objects"), (0, u "requireNonNull"), (0, u "(Ljava/lang/Object;)Ljava/lang/Object;"), (0, .methodref 12 44), (0, .nameAndType 5 45), (0, u "([Ljava/lang/Object;Z)V"), (1, .class_ 49), (1, u "java/util/ImmutableCollections"), (0, u "$assertionsDisabled"), (5, u "[Ljava/lang/Object;"), (5, u "EMPTY_LIST"), (0, u "Ljava/util/ImmutableCollections$ListN;"), (8, u "EMPTY_LIST_NULLS"), (22, u "SALT32L"), (0, u "J"), (2, u "REVERSE"), (6, u "archivedObjects"), (2, u "EMPTY"), (0, u "Ljava/lang/Object;"), (0, .class_ 112), (0, u "java/util/ImmutableCollections$SetN"), (5, u "EMPTY_SET"), (0, u "Ljava/util/ImmutableCollections$SetN;"), (0, .class_ 121), (0, u "java/util/ImmutableCollections$MapN"), (3, u "EMPTY_MAP"), (0, u "Ljava/util/ImmutableCollections$MapN;"), (4, u "EXPAND_FACTOR"), (0, u "I"), (9, u "listCopy"), (0, u "(Ljava/util/Collection;)Ljava/util/List;"), (7, u "listFromArray"), (17, .class_ 170), (0, u "java/util/ImmutableCollections$MapN$MapNIterator"), (0, .class_ 172), (0, u "java/util/ImmutableCollections$MapN$1"), (0, .class_ 174), (0, u "java/util/ImmutableCollections$Map1"), (0, .class_ 176), (0, u "java/util/ImmutableCollections$AbstractImmutableMap"), (0, .class_ 178), (0, u "java/util/ImmutableCollections$SetN$SetNIterator"), (0, .class_ 180), (0, u "java/util/ImmutableCollections$Set12"), (0, .class_ 182), (0, u "java/util/ImmutableCollections$Set12$1"), (0, .class_ 184), (0, u "java/util/ImmutableCollections$AbstractImmutableSet"), (0, .class_ 186), (0, u "java/util/ImmutableCollections$SubList"), (0, .class_ 188), (0, u "java/util/ImmutableCollections$ListItr"), (0, .class_ 190), (0, u "java/util/ImmutableCollections$AbstractImmutableList"), (0, .class_ 192), (0, u "java/util/ImmutableCollections$AbstractImmutableCollection"), (0, .class_ 194), (0, u "java/util/ImmutableCollections$Access"), (0, .class_ 196), (0, u "java/util/ImmutableCollections$Access$1")] 16

def k14m0 : Method := { name := "<init>", desc := "()V", sig := { parameters := [], returnType := none }, accessFlags := 2, code := none }
def k14c1 : Code := { maxStack := 1, maxLocals := 2, code := jdk_56_method_3_code, exceptionTable := #[], attributes := #[] }
def k14m1 : Method := { name := "listCopy", desc := "(Ljava/util/Collection;)Ljava/util/List;", sig := { parameters := [(.object "java/util/Collection")], returnType := some (.object "java/util/List") }, accessFlags := 8, code := some k14c1 }
def k14c2 : Code := { maxStack := 4, maxLocals := 3, code := jdk_56_method_4_code, exceptionTable := #[], attributes := #[] }
def k14m2 : Method := { name := "listFromArray", desc := "([Ljava/lang/Object;)Ljava/util/List;", sig := { parameters := [(.array (.object "java/lang/Object"))], returnType := some (.object "java/util/List") }, accessFlags := 136, code := some k14c2 }
/-- java/util/ImmutableCollections -/
def k14 : Class := { plain "java/util/ImmutableCollections" (some 0) with
  accessFlags := 32
  interfaces := #[]
  cf := some (fileOf pool14 47 #[.nestMembers #[120, 169, 171, 173, 175, 111, 177, 179, 181, 183, 12, 10, 185, 187, 189, 191, 193, 195]] #[{ accessFlags := 2, nameIndex := 5, descriptorIndex := 6, attributes := #[] }, { accessFlags := 8, nameIndex := 142, descriptorIndex := 143, attributes := #[] }, { accessFlags := 136, nameIndex := 151, descriptorIndex := 36, attributes := #[] }] 32 2 #[] #[{ accessFlags := 26, nameIndex := 95, descriptorIndex := 96, attributes := #[] }, { accessFlags := 26, nameIndex := 99, descriptorIndex := 17, attributes := #[] }, { accessFlags := 10, nameIndex := 106, descriptorIndex := 56, attributes := #[] }, { accessFlags := 26, nameIndex := 109, descriptorIndex := 110, attributes := #[] }, { accessFlags := 24, nameIndex := 62, descriptorIndex := 63, attributes := #[] }, { accessFlags := 24, nameIndex := 72, descriptorIndex := 63, attributes := #[] }, { accessFlags := 24, nameIndex := 118, descriptorIndex := 119, attributes := #[] }, { accessFlags := 24, nameIndex := 125, descriptorIndex := 126, attributes := #[] }, { accessFlags := 24, nameIndex := 131, descriptorIndex := 132, attributes := #[] }, { accessFlags := 4120, nameIndex := 50, descriptorIndex := 17, attributes := #[] }])
  fields := #[{ name := "SALT32L", type := .long, accessFlags := 26, slot := 0, constantValue := 0 }, { name := "REVERSE", type := .boolean, accessFlags := 26, slot := 1, constantValue := 0 }, { name := "archivedObjects", type := (.array (.object "java/lang/Object")), accessFlags := 10, slot := 2, constantValue := 0 }, { name := "EMPTY", type := (.object "java/lang/Object"), accessFlags := 26, slot := 3, constantValue := 0 }, { name := "EMPTY_LIST", type := (.object "java/util/ImmutableCollections$ListN"), accessFlags := 24, slot := 4, constantValue := 0 }, { name := "EMPTY_LIST_NULLS", type := (.object "java/util/ImmutableCollections$ListN"), accessFlags := 24, slot := 5, constantValue := 0 }, { name := "EMPTY_SET", type := (.object "java/util/ImmutableCollections$SetN"), accessFlags := 24, slot := 6, constantValue := 0 }, { name := "EMPTY_MAP", type := (.object "java/util/ImmutableCollections$MapN"), accessFlags := 24, slot := 7, constantValue := 0 }, { name := "EXPAND_FACTOR", type := .int, accessFlags := 24, slot := 8, constantValue := 0 }, { name := "$assertionsDisabled", type := .boolean, accessFlags := 4120, slot := 9, constantValue := 0 }]
  methods := #[k14m0, k14m1, k14m2]
  instanceTypes := #[]
  staticTypes := #[.long, .boolean, (.array (.object "java/lang/Object")), (.object "java/lang/Object"), (.object "java/util/ImmutableCollections$ListN"), (.object "java/util/ImmutableCollections$ListN"), (.object "java/util/ImmutableCollections$SetN"), (.object "java/util/ImmutableCollections$MapN"), .int, .boolean]
  resolved := Array.replicate 213 none
  statics := some 1 }

def pool15 : Array CpInfo := pool [(1, .methodref 2 3), (0, .class_ 4), (0, .nameAndType 5 6), (0, u "java/util/AbstractCollection"), (0, u "<init>"), (0, u "()V"), (1, .class_ 10), (1, u "java/util/ImmutableCollections"), (2, .class_ 14), (0, u "java/util/ImmutableCollections$AbstractImmutableCollection")] 41

def k15c0 : Code := { maxStack := 1, maxLocals := 1, code := jdk_47_method_1_code, exceptionTable := #[], attributes := #[] }
def k15m0 : Method := { name := "<init>", desc := "()V", sig := { parameters := [], returnType := none }, accessFlags := 0, code := some k15c0 }
/-- java/util/ImmutableCollections$AbstractImmutableCollection -/
def k15 : Class := { plain "java/util/ImmutableCollections$AbstractImmutableCollection" (some 4) with
  accessFlags := 1056
  interfaces := #[]
  cf := some (fileOf pool15 13 #[.nestHost 8] #[{ accessFlags := 0, nameIndex := 5, descriptorIndex := 6, attributes := #[] }] 1056 2 #[] #[])
  fields := #[]
  methods := #[k15m0]
  instanceTypes := #[]
  staticTypes := #[]
  resolved := Array.replicate 56 none
  statics := none }

def pool16 : Array CpInfo := pool [(1, .methodref 2 3), (0, .class_ 4), (0, .nameAndType 5 6), (0, u "java/util/ImmutableCollections$AbstractImmutableCollection"), (0, u "<init>"), (0, u "()V"), (1, .class_ 10), (1, u "java/util/ImmutableCollections"), (2, .methodref 14 15), (0, .class_ 16), (0, .nameAndType 17 18), (0, u "java/util/ImmutableCollections$AbstractImmutableList"), (0, u "size"), (0, u "()I"), (42, .class_ 62), (0, u "java/util/ImmutableCollections$ListItr"), (0, .methodref 61 64), (0, .nameAndType 5 65), (0, u "(Ljava/util/List;I)V"), (11, .class_ 78), (0, u "java/util/List"), (2, u "iterator"), (0, u "()Ljava/util/Iterator;"), (41, .class_ 125), (0, u "java/util/RandomAccess")] 70

def k16c0 : Code := { maxStack := 1, maxLocals := 1, code := jdk_46_method_1_code, exceptionTable := #[], attributes := #[] }
def k16m0 : Method := { name := "<init>", desc := "()V", sig := { parameters := [], returnType := none }, accessFlags := 0, code := some k16c0 }
def k16c1 : Code := { maxStack := 4, maxLocals := 1, code := jdk_46_method_10_code, exceptionTable := #[], attributes := #[] }
def k16m1 : Method := { name := "iterator", desc := "()Ljava/util/Iterator;", sig := { parameters := [], returnType := some (.object "java/util/Iterator") }, accessFlags := 1, code := some k16c1 }
/-- java/util/ImmutableCollections$AbstractImmutableList -/
def k16 : Class := { plain "java/util/ImmutableCollections$AbstractImmutableList" (some 15) with
  accessFlags := 1056
  interfaces := #[6, 8]
  cf := some (fileOf pool16 14 #[.nestHost 8] #[{ accessFlags := 0, nameIndex := 5, descriptorIndex := 6, attributes := #[] }, { accessFlags := 1, nameIndex := 81, descriptorIndex := 82, attributes := #[] }] 1056 2 #[77, 124] #[])
  fields := #[]
  methods := #[k16m0, k16m1]
  instanceTypes := #[]
  staticTypes := #[]
  resolved := Array.replicate 196 none
  statics := none }

def pool17 : Array CpInfo := pool [(1, .methodref 2 3), (0, .class_ 4), (0, .nameAndType 5 6), (0, u "java/util/ImmutableCollections$AbstractImmutableList"), (0, u "<init>"), (0, u "()V"), (0, .methodref 8 9), (0, .class_ 10), (0, .nameAndType 11 12), (0, u "java/util/Objects"), (0, u "requireNonNull"), (0, u "(Ljava/lang/Object;)Ljava/lang/Object;"), (0, .fieldref 14 15), (0, .class_ 16), (0, .nameAndType 17 18), (0, u "java/util/ImmutableCollections$List12"), (0, u "e0"), (0, u "Ljava/lang/Object;"), (0, .fieldref 20 21), (0, .class_ 22), (0, .nameAndType 23 18), (0, u "java/util/ImmutableCollections"), (0, u "EMPTY"), (0, .fieldref 14 25), (0, .nameAndType 26 18), (0, u "e1"), (24, u "size"), (0, u "()I"), (17, .class_ 71), (0, u "java/io/Serializable"), (4, u "(Ljava/lang/Object;)V"), (8, u "(Ljava/lang/Object;Ljava/lang/Object;)V"), (4, u "get"), (0, u "(I)Ljava/lang/Object;")] 33

def k17c0 : Code := { maxStack := 2, maxLocals := 2, code := jdk_44_method_1_code, exceptionTable := #[], attributes := #[] }
def k17m0 : Method := { name := "<init>", desc := "(Ljava/lang/Object;)V", sig := { parameters := [(.object "java/lang/Object")], returnType := none }, accessFlags := 0, code := some k17c0 }
def k17c1 : Code := { maxStack := 2, maxLocals := 3, code := jdk_44_method_2_code, exceptionTable := #[], attributes := #[] }
def k17m1 : Method := { name := "<init>", desc := "(Ljava/lang/Object;Ljava/lang/Object;)V", sig := { parameters := [(.object "java/lang/Object"), (.object "java/lang/Object")], returnType := none }, accessFlags := 0, code := some k17c1 }
def k17c2 : Code := { maxStack := 2, maxLocals := 1, code := jdk_44_method_3_code, exceptionTable := #[], attributes := #[] }
def k17m2 : Method := { name := "size", desc := "()I", sig := { parameters := [], returnType := some .int }, accessFlags := 1, code := some k17c2 }
def k17c3 : Code := { maxStack := 2, maxLocals := 2, code := jdk_44_method_5_code, exceptionTable := #[], attributes := #[] }
def k17m3 : Method := { name := "get", desc := "(I)Ljava/lang/Object;", sig := { parameters := [.int], returnType := some (.object "java/lang/Object") }, accessFlags := 1, code := some k17c3 }
/-- java/util/ImmutableCollections$List12 -/
def k17 : Class := { plain "java/util/ImmutableCollections$List12" (some 16) with
  accessFlags := 48
  interfaces := #[10]
  cf := some (fileOf pool17 14 #[.nestHost 20] #[{ accessFlags := 0, nameIndex := 5, descriptorIndex := 76, attributes := #[] }, { accessFlags := 0, nameIndex := 5, descriptorIndex := 85, attributes := #[] }, { accessFlags := 1, nameIndex := 51, descriptorIndex := 52, attributes := #[] }, { accessFlags := 1, nameIndex := 90, descriptorIndex := 91, attributes := #[] }] 48 2 #[70] #[{ accessFlags := 18, nameIndex := 17, descriptorIndex := 18, attributes := #[] }, { accessFlags := 18, nameIndex := 26, descriptorIndex := 18, attributes := #[] }])
  fields := #[{ name := "e0", type := (.object "java/lang/Object"), accessFlags := 18, slot := 0, constantValue := 0 }, { name := "e1", type := (.object "java/lang/Object"), accessFlags := 18, slot := 1, constantValue := 0 }]
  methods := #[k17m0, k17m1, k17m2, k17m3]
  instanceTypes := #[(.object "java/lang/Object"), (.object "java/lang/Object")]
  staticTypes := #[]
  resolved := Array.replicate 125 none
  statics := none }

def pool18 : Array CpInfo := pool [(1, .methodref 2 3), (0, .class_ 4), (0, .nameAndType 5 6), (0, u "java/util/ImmutableCollections$AbstractImmutableList"), (0, u "<init>"), (0, u "()V"), (0, .fieldref 8 9), (0, .class_ 10), (0, .nameAndType 11 12), (0, u "java/util/ImmutableCollections$ListN"), (0, u "elements"), (0, u "[Ljava/lang/Object;"), (0, .fieldref 8 14), (0, .nameAndType 15 16), (0, u "allowNulls"), (0, u "Z"), (42, .class_ 60), (0, u "java/io/Serializable"), (4, u "([Ljava/lang/Object;Z)V"), (11, u "size"), (0, u "()I"), (0, u "get"), (0, u "(I)Ljava/lang/Object;"), (33, .class_ 115), (0, u "java/util/ImmutableCollections")] 3

def k18c0 : Code := { maxStack := 2, maxLocals := 3, code := jdk_45_method_1_code, exceptionTable := #[], attributes := #[] }
def k18m0 : Method := { name := "<init>", desc := "([Ljava/lang/Object;Z)V", sig := { parameters := [(.array (.object "java/lang/Object")), .boolean], returnType := none }, accessFlags := 2, code := some k18c0 }
def k18c1 : Code := { maxStack := 1, maxLocals := 1, code := jdk_45_method_3_code, exceptionTable := #[], attributes := #[] }
def k18m1 : Method := { name := "size", desc := "()I", sig := { parameters := [], returnType := some .int }, accessFlags := 1, code := some k18c1 }
def k18c2 : Code := { maxStack := 2, maxLocals := 2, code := jdk_45_method_4_code, exceptionTable := #[], attributes := #[] }
def k18m2 : Method := { name := "get", desc := "(I)Ljava/lang/Object;", sig := { parameters := [.int], returnType := some (.object "java/lang/Object") }, accessFlags := 1, code := some k18c2 }
/-- java/util/ImmutableCollections$ListN -/
def k18 : Class := { plain "java/util/ImmutableCollections$ListN" (some 16) with
  accessFlags := 48
  interfaces := #[10]
  cf := some (fileOf pool18 8 #[.nestHost 114] #[{ accessFlags := 2, nameIndex := 5, descriptorIndex := 65, attributes := #[] }, { accessFlags := 1, nameIndex := 77, descriptorIndex := 78, attributes := #[] }, { accessFlags := 1, nameIndex := 79, descriptorIndex := 80, attributes := #[] }] 48 2 #[59] #[{ accessFlags := 18, nameIndex := 11, descriptorIndex := 12, attributes := #[] }, { accessFlags := 18, nameIndex := 15, descriptorIndex := 16, attributes := #[] }])
  fields := #[{ name := "elements", type := (.array (.object "java/lang/Object")), accessFlags := 18, slot := 0, constantValue := 0 }, { name := "allowNulls", type := .boolean, accessFlags := 18, slot := 1, constantValue := 0 }]
  methods := #[k18m0, k18m1, k18m2]
  instanceTypes := #[(.array (.object "java/lang/Object")), .boolean]
  staticTypes := #[]
  resolved := Array.replicate 119 none
  statics := none }

def pool19 : Array CpInfo := pool [(1, .methodref 2 3), (0, .class_ 4), (0, .nameAndType 5 6), (0, u "java/lang/Object"), (0, u "<init>"), (0, u "()V"), (0, .class_ 8), (0, u "java/util/ArrayList"), (0, .methodref 7 3), (0, .fieldref 11 12), (0, .class_ 13), (0, .nameAndType 14 15), (0, u "com/example/zellwerk/zellwerk/service/Holdings"), (0, u "ended"), (0, u "Ljava/util/List;"), (0, .fieldref 11 17), (0, .nameAndType 18 19), (0, u "cell"), (0, u "Lcom/example/zellwerk/zellwerk/model/Cell;"), (0, .methodref 21 22), (0, .class_ 23), (0, .nameAndType 24 25), (0, u "com/example/zellwerk/zellwerk/model/Cell"), (0, u "areas"), (0, u "()Ljava/util/List;"), (0, .interfaceMethodref 27 28), (0, .class_ 29), (0, .nameAndType 30 31), (0, u "java/util/List"), (0, u "size"), (0, u "()I"), (0, .fieldref 11 33), (0, .nameAndType 34 35), (0, u "holder"), (0, u "[I"), (0, .fieldref 11 37), (0, .nameAndType 38 39), (0, u "until"), (0, u "[D"), (0, .fieldref 11 41), (0, .nameAndType 42 39), (0, u "since"), (0, .methodref 44 45), (0, .class_ 46), (0, .nameAndType 47 48), (0, u "java/util/Arrays"), (0, u "fill"), (0, u "([II)V"), (0, .invokeDynamic 0 50), (0, .nameAndType 51 52), (0, u "accept"), (0, u "(Lcom/example/zellwerk/zellwerk/service/Holdings;)Ljava/util/function/Consumer;"), (0, .interfaceMethodref 27 54), (0, .nameAndType 55 56), (0, u "forEach"), (0, u "(Ljava/util/function/Consumer;)V"), (22, u "()Z"), (23, .class_ 104), (0, u "com/example/zellwerk/zellwerk/service/Holdings$Claim"), (9, .interfaceMethodref 27 115), (0, .nameAndType 116 117), (0, u "add"), (0, u "(Ljava/lang/Object;)Z"), (104, u "(Lcom/example/zellwerk/zellwerk/model/Cell;)V"), (2, u "any"), (20, u "lambda$new$0"), (0, u "(Lcom/example/zellwerk/zellwerk/model/Area;)V"), (4, .methodType 253), (0, u "(Ljava/lang/Object;)V"), (0, .methodHandle 5 255), (0, .methodref 11 256), (0, .nameAndType 246 247), (0, .methodType 247), (14, .methodHandle 6 273), (0, .methodref 274 275), (0, .class_ 276), (0, .nameAndType 277 278), (0, u "java/lang/invoke/LambdaMetafactory"), (0, u "metafactory"), (0, u "(Ljava/lang/invoke/MethodHandles$Lookup;Ljava/lang/String;Ljava/lang/invoke/MethodType;Ljava/lang/invoke/MethodType;Ljava/lang/invoke/MethodHandle;Ljava/lang/invoke/MethodType;)Ljava/lang/invoke/CallSite;")] 14

def k19c0 : Code := { maxStack := 3, maxLocals := 2, code := prog_48_method_1_code, exceptionTable := #[], attributes := #[] }
def k19m0 : Method := { name := "<init>", desc := "(Lcom/example/zellwerk/zellwerk/model/Cell;)V", sig := { parameters := [(.object "com/example/zellwerk/zellwerk/model/Cell")], returnType := none }, accessFlags := 0, code := some k19c0 }
def k19c1 : Code := { maxStack := 1, maxLocals := 1, code := prog_48_method_2_code, exceptionTable := #[], attributes := #[] }
def k19m1 : Method := { name := "any", desc := "()Z", sig := { parameters := [], returnType := some .boolean }, accessFlags := 0, code := some k19c1 }
def k19c2 : Code := { maxStack := 3, maxLocals := 2, code := prog_48_method_12_code, exceptionTable := #[], attributes := #[] }
def k19m2 : Method := { name := "lambda$new$0", desc := "(Lcom/example/zellwerk/zellwerk/model/Area;)V", sig := { parameters := [(.object "com/example/zellwerk/zellwerk/model/Area")], returnType := none }, accessFlags := 4098, code := some k19c2 }
/-- com/example/zellwerk/zellwerk/service/Holdings -/
def k19 : Class := { plain "com/example/zellwerk/zellwerk/service/Holdings" (some 0) with
  accessFlags := 48
  interfaces := #[]
  cf := some (fileOf pool19 11 #[.nestMembers #[103], .bootstrapMethods #[⟨272, #[252, 254, 257]⟩, ⟨0, #[]⟩, ⟨0, #[]⟩, ⟨0, #[]⟩]] #[{ accessFlags := 0, nameIndex := 5, descriptorIndex := 222, attributes := #[] }, { accessFlags := 0, nameIndex := 225, descriptorIndex := 79, attributes := #[] }, { accessFlags := 4098, nameIndex := 246, descriptorIndex := 247, attributes := #[] }] 48 2 #[] #[{ accessFlags := 18, nameIndex := 18, descriptorIndex := 19, attributes := #[] }, { accessFlags := 18, nameIndex := 34, descriptorIndex := 35, attributes := #[] }, { accessFlags := 18, nameIndex := 38, descriptorIndex := 39, attributes := #[] }, { accessFlags := 18, nameIndex := 42, descriptorIndex := 39, attributes := #[] }, { accessFlags := 18, nameIndex := 14, descriptorIndex := 15, attributes := #[] }])
  fields := #[{ name := "cell", type := (.object "com/example/zellwerk/zellwerk/model/Cell"), accessFlags := 18, slot := 0, constantValue := 0 }, { name := "holder", type := (.array .int), accessFlags := 18, slot := 1, constantValue := 0 }, { name := "until", type := (.array .double), accessFlags := 18, slot := 2, constantValue := 0 }, { name := "since", type := (.array .double), accessFlags := 18, slot := 3, constantValue := 0 }, { name := "ended", type := (.object "java/util/List"), accessFlags := 18, slot := 4, constantValue := 0 }]
  methods := #[k19m0, k19m1, k19m2]
  instanceTypes := #[(.object "com/example/zellwerk/zellwerk/model/Cell"), (.array .int), (.array .double), (.array .double), (.object "java/util/List")]
  staticTypes := #[]
  resolved := Array.replicate 293 none
  callSites := [(0, 78, .makes 45)]
  statics := none }

def pool20 : Array CpInfo := pool [(2, .class_ 4), (1, u "java/lang/Object"), (0, u "<init>"), (0, u "()V"), (7, .class_ 16), (1, u "java/util/Arrays"), (57, .class_ 76), (1, u "java/util/Arrays$NaturalOrder"), (9, .methodref 2 87), (0, .nameAndType 88 89), (0, u "getClass"), (0, u "()Ljava/lang/Class;"), (20, .class_ 111), (0, u "[Ljava/lang/Object;"), (1, .class_ 115), (1, u "java/util/Arrays$LegacyMergeSort"), (1, u "Z"), (32, .methodref 151 152), (0, .class_ 153), (0, .nameAndType 154 155), (0, u "java/lang/System"), (0, u "arraycopy"), (0, u "(Ljava/lang/Object;ILjava/lang/Object;II)V"), (144, .methodref 14 301), (0, .nameAndType 302 303), (0, u "copyOf"), (0, u "([Ljava/lang/Object;ILjava/lang/Class;)[Ljava/lang/Object;"), (0, .methodref 305 306), (0, .class_ 307), (0, .nameAndType 308 309), (0, u "java/lang/Math"), (0, u "min"), (0, u "(II)I"), (65, .class_ 376), (0, u "java/util/Arrays$ArrayList"), (68, u "$assertionsDisabled"), (269, u "MIN_ARRAY_SORT_GRAN"), (0, u "I"), (2, u "INSERTIONSORT_THRESHOLD"), (120, u "fill"), (4, u "([II)V"), (14, u "([Ljava/lang/Object;I)[Ljava/lang/Object;"), (114, .class_ 976), (0, u "java/util/Arrays$ArrayItr")] 52

def k20m0 : Method := { name := "<init>", desc := "()V", sig := { parameters := [], returnType := none }, accessFlags := 2, code := none }
def k20c1 : Code := { maxStack := 3, maxLocals := 4, code := jdk_65_method_103_code, exceptionTable := #[], attributes := #[] }
def k20m1 : Method := { name := "fill", desc := "([II)V", sig := { parameters := [(.array .int), .int], returnType := none }, accessFlags := 9, code := some k20c1 }
def k20c2 : Code := { maxStack := 3, maxLocals := 2, code := jdk_65_method_119_code, exceptionTable := #[], attributes := #[] }
def k20m2 : Method := { name := "copyOf", desc := "([Ljava/lang/Object;I)[Ljava/lang/Object;", sig := { parameters := [(.array (.object "java/lang/Object")), .int], returnType := some (.array (.object "java/lang/Object")) }, accessFlags := 9, code := some k20c2 }
def k20c3 : Code := { maxStack := 6, maxLocals := 4, code := jdk_65_method_120_code, exceptionTable := #[], attributes := #[] }
def k20m3 : Method := { name := "copyOf", desc := "([Ljava/lang/Object;ILjava/lang/Class;)[Ljava/lang/Object;", sig := { parameters := [(.array (.object "java/lang/Object")), .int, (.object "java/lang/Class")], returnType := some (.array (.object "java/lang/Object")) }, accessFlags := 9, code := some k20c3 }
/-- java/util/Arrays -/
def k20 : Class := { plain "java/util/Arrays" (some 0) with
  accessFlags := 49
  interfaces := #[]
  cf := some (fileOf pool20 14 #[.nestMembers #[975, 375, 113, 74]] #[{ accessFlags := 2, nameIndex := 5, descriptorIndex := 6, attributes := #[] }, { accessFlags := 9, nameIndex := 840, descriptorIndex := 845, attributes := #[] }, { accessFlags := 9, nameIndex := 302, descriptorIndex := 860, attributes := #[] }, { accessFlags := 9, nameIndex := 302, descriptorIndex := 303, attributes := #[] }] 49 2 #[] #[{ accessFlags := 26, nameIndex := 715, descriptorIndex := 716, attributes := #[] }, { accessFlags := 26, nameIndex := 719, descriptorIndex := 716, attributes := #[] }, { accessFlags := 4120, nameIndex := 445, descriptorIndex := 117, attributes := #[] }])
  fields := #[{ name := "MIN_ARRAY_SORT_GRAN", type := .int, accessFlags := 26, slot := 0, constantValue := 0 }, { name := "INSERTIONSORT_THRESHOLD", type := .int, accessFlags := 26, slot := 1, constantValue := 0 }, { name := "$assertionsDisabled", type := .boolean, accessFlags := 4120, slot := 2, constantValue := 0 }]
  methods := #[k20m0, k20m1, k20m2, k20m3]
  instanceTypes := #[]
  staticTypes := #[.int, .int, .boolean]
  resolved := Array.replicate 1029 none
  statics := none }

def pool21 : Array CpInfo := pool [(9, u "accept"), (2, .class_ 14), (1, u "java/util/function/Consumer"), (0, u "(Ljava/lang/Object;)V"), (0, .class_ 17), (0, u "java/lang/Object")] 41

def k21m0 : Method := { name := "accept", desc := "(Ljava/lang/Object;)V", sig := { parameters := [(.object "java/lang/Object")], returnType := none }, accessFlags := 1025, code := none }
/-- java/util/function/Consumer -/
def k21 : Class := { plain "java/util/function/Consumer" (some 0) with
  accessFlags := 1537
  interfaces := #[]
  cf := some (fileOf pool21 12 #[] #[{ accessFlags := 1025, nameIndex := 9, descriptorIndex := 15, attributes := #[] }] 1537 16 #[] #[])
  fields := #[]
  methods := #[k21m0]
  instanceTypes := #[]
  staticTypes := #[]
  resolved := Array.replicate 59 none
  statics := none }

def pool22 : Array CpInfo := pool [(2, .class_ 4), (1, u "java/lang/Object"), (0, u "<init>"), (0, u "()V"), (35, .class_ 44), (1, u "java/util/Objects"), (0, u "requireNonNull"), (0, u "(Ljava/lang/Object;)Ljava/lang/Object;")] 137

def k22m0 : Method := { name := "<init>", desc := "()V", sig := { parameters := [], returnType := none }, accessFlags := 2, code := none }
def k22c1 : Code := { maxStack := 2, maxLocals := 1, code := jdk_31_method_10_code, exceptionTable := #[], attributes := #[] }
def k22m1 : Method := { name := "requireNonNull", desc := "(Ljava/lang/Object;)Ljava/lang/Object;", sig := { parameters := [(.object "java/lang/Object")], returnType := some (.object "java/lang/Object") }, accessFlags := 9, code := some k22c1 }
/-- java/util/Objects -/
def k22 : Class := { plain "java/util/Objects" (some 0) with
  accessFlags := 49
  interfaces := #[]
  cf := some (fileOf pool22 42 #[] #[{ accessFlags := 2, nameIndex := 5, descriptorIndex := 6, attributes := #[] }, { accessFlags := 9, nameIndex := 45, descriptorIndex := 46, attributes := #[] }] 49 2 #[] #[])
  fields := #[]
  methods := #[k22m0, k22m1]
  instanceTypes := #[]
  staticTypes := #[]
  resolved := Array.replicate 184 none
  statics := none }

def pool23 : Array CpInfo := pool [(16, .class_ 18), (1, u "java/util/Iterator"), (0, u "hasNext"), (0, u "()Z"), (2, u "next"), (0, u "()Ljava/lang/Object;"), (6, .class_ 32), (0, u "java/lang/Object")] 20

def k23m0 : Method := { name := "hasNext", desc := "()Z", sig := { parameters := [], returnType := some .boolean }, accessFlags := 1025, code := none }
def k23m1 : Method := { name := "next", desc := "()Ljava/lang/Object;", sig := { parameters := [], returnType := some (.object "java/lang/Object") }, accessFlags := 1025, code := none }
/-- java/util/Iterator -/
def k23 : Class := { plain "java/util/Iterator" (some 0) with
  accessFlags := 1537
  interfaces := #[]
  cf := some (fileOf pool23 16 #[] #[{ accessFlags := 1025, nameIndex := 19, descriptorIndex := 20, attributes := #[] }, { accessFlags := 1025, nameIndex := 23, descriptorIndex := 24, attributes := #[] }] 1537 31 #[] #[])
  fields := #[]
  methods := #[k23m0, k23m1]
  instanceTypes := #[]
  staticTypes := #[]
  resolved := Array.replicate 53 none
  statics := none }

def pool24 : Array CpInfo := pool [(1, .class_ 2), (0, u "java/util/ListIterator"), (0, .class_ 4), (0, u "java/lang/Object"), (0, .class_ 6), (0, u "java/util/Iterator")] 20

/-- java/util/ListIterator -/
def k24 : Class := { plain "java/util/ListIterator" (some 0) with
  accessFlags := 1537
  interfaces := #[23]
  cf := some (fileOf pool24 1 #[] #[] 1537 3 #[5] #[])
  fields := #[]
  methods := #[]
  instanceTypes := #[]
  staticTypes := #[]
  resolved := Array.replicate 27 none
  statics := none }

def pool25 : Array CpInfo := pool [(1, .methodref 2 3), (0, .class_ 4), (0, .nameAndType 5 6), (0, u "java/lang/Object"), (0, u "<init>"), (0, u "()V"), (0, .fieldref 8 9), (0, .class_ 10), (0, .nameAndType 11 12), (0, u "java/util/ImmutableCollections$ListItr"), (0, u "list"), (0, u "Ljava/util/List;"), (0, .fieldref 8 14), (0, .nameAndType 15 16), (0, u "size"), (0, u "I"), (0, .fieldref 8 18), (0, .nameAndType 19 16), (0, u "cursor"), (0, .fieldref 8 21), (0, .nameAndType 22 23), (0, u "isListIterator"), (0, u "Z"), (0, .interfaceMethodref 25 26), (0, .class_ 27), (0, .nameAndType 28 29), (0, u "java/util/List"), (0, u "get"), (0, u "(I)Ljava/lang/Object;"), (6, .class_ 38), (1, u "java/util/ImmutableCollections"), (2, .class_ 42), (0, u "java/util/ListIterator"), (4, u "(Ljava/util/List;I)V"), (11, u "hasNext"), (0, u "()Z"), (1, u "next"), (0, u "()Ljava/lang/Object;")] 22

def k25c0 : Code := { maxStack := 2, maxLocals := 3, code := jdk_53_method_1_code, exceptionTable := #[], attributes := #[] }
def k25m0 : Method := { name := "<init>", desc := "(Ljava/util/List;I)V", sig := { parameters := [(.object "java/util/List"), .int], returnType := none }, accessFlags := 0, code := some k25c0 }
def k25c1 : Code := { maxStack := 2, maxLocals := 1, code := jdk_53_method_3_code, exceptionTable := #[], attributes := #[] }
def k25m1 : Method := { name := "hasNext", desc := "()Z", sig := { parameters := [], returnType := some .boolean }, accessFlags := 1, code := some k25c1 }
def k25c2 : Code := { maxStack := 3, maxLocals := 3, code := jdk_53_method_4_code, exceptionTable := #[{ startPc := 0, endPc := 24, handlerPc := 25, catchType := 30 }], attributes := #[] }
def k25m2 : Method := { name := "next", desc := "()Ljava/lang/Object;", sig := { parameters := [], returnType := some (.object "java/lang/Object") }, accessFlags := 1, code := some k25c2 }
/-- java/util/ImmutableCollections$ListItr -/
def k25 : Class := { plain "java/util/ImmutableCollections$ListItr" (some 0) with
  accessFlags := 48
  interfaces := #[24]
  cf := some (fileOf pool25 8 #[.nestHost 36] #[{ accessFlags := 0, nameIndex := 5, descriptorIndex := 47, attributes := #[] }, { accessFlags := 1, nameIndex := 59, descriptorIndex := 60, attributes := #[] }, { accessFlags := 1, nameIndex := 62, descriptorIndex := 63, attributes := #[] }] 48 2 #[41] #[{ accessFlags := 18, nameIndex := 11, descriptorIndex := 12, attributes := #[] }, { accessFlags := 18, nameIndex := 15, descriptorIndex := 16, attributes := #[] }, { accessFlags := 18, nameIndex := 22, descriptorIndex := 23, attributes := #[] }, { accessFlags := 2, nameIndex := 19, descriptorIndex := 16, attributes := #[] }])
  fields := #[{ name := "list", type := (.object "java/util/List"), accessFlags := 18, slot := 0, constantValue := 0 }, { name := "size", type := .int, accessFlags := 18, slot := 1, constantValue := 0 }, { name := "isListIterator", type := .boolean, accessFlags := 18, slot := 2, constantValue := 0 }, { name := "cursor", type := .int, accessFlags := 2, slot := 3, constantValue := 0 }]
  methods := #[k25m0, k25m1, k25m2]
  instanceTypes := #[(.object "java/util/List"), .int, .boolean, .int]
  staticTypes := #[]
  resolved := Array.replicate 86 none
  statics := none }

def pool26 : Array CpInfo := pool [(1, .methodref 2 3), (0, .class_ 4), (0, .nameAndType 5 6), (0, u "java/lang/Record"), (0, u "<init>"), (0, u "()V"), (0, .fieldref 8 9), (0, .class_ 10), (0, .nameAndType 11 12), (0, u "com/example/zellwerk/zellwerk/model/Area"), (0, u "name"), (0, u "Ljava/lang/String;"), (0, .fieldref 8 14), (0, .nameAndType 15 16), (0, u "minX"), (0, u "D"), (0, .fieldref 8 18), (0, .nameAndType 19 16), (0, u "maxX"), (0, .fieldref 8 21), (0, .nameAndType 22 16), (0, u "minY"), (0, .fieldref 8 24), (0, .nameAndType 25 16), (0, u "maxY"), (0, .fieldref 8 27), (0, .nameAndType 28 29), (0, u "retreatOf"), (0, u "Ljava/util/Optional;"), (41, .class_ 72), (0, u "com/example/zellwerk/zellwerk/model/Area$Stretch"), (21, u "(Ljava/lang/String;DDDDLjava/util/Optional;)V")] 44

def k26c0 : Code := { maxStack := 3, maxLocals := 11, code := prog_17_method_1_code, exceptionTable := #[], attributes := #[] }
def k26m0 : Method := { name := "<init>", desc := "(Ljava/lang/String;DDDDLjava/util/Optional;)V", sig := { parameters := [(.object "java/lang/String"), .double, .double, .double, .double, (.object "java/util/Optional")], returnType := none }, accessFlags := 1, code := some k26c0 }
/-- com/example/zellwerk/zellwerk/model/Area -/
def k26 : Class := { plain "com/example/zellwerk/zellwerk/model/Area" (some 12) with
  accessFlags := 49
  interfaces := #[]
  cf := some (fileOf pool26 8 #[.nestMembers #[71]] #[{ accessFlags := 1, nameIndex := 5, descriptorIndex := 94, attributes := #[] }] 49 2 #[] #[{ accessFlags := 18, nameIndex := 11, descriptorIndex := 12, attributes := #[] }, { accessFlags := 18, nameIndex := 15, descriptorIndex := 16, attributes := #[] }, { accessFlags := 18, nameIndex := 19, descriptorIndex := 16, attributes := #[] }, { accessFlags := 18, nameIndex := 22, descriptorIndex := 16, attributes := #[] }, { accessFlags := 18, nameIndex := 25, descriptorIndex := 16, attributes := #[] }, { accessFlags := 18, nameIndex := 28, descriptorIndex := 29, attributes := #[] }])
  fields := #[{ name := "name", type := (.object "java/lang/String"), accessFlags := 18, slot := 0, constantValue := 0 }, { name := "minX", type := .double, accessFlags := 18, slot := 1, constantValue := 0 }, { name := "maxX", type := .double, accessFlags := 18, slot := 2, constantValue := 0 }, { name := "minY", type := .double, accessFlags := 18, slot := 3, constantValue := 0 }, { name := "maxY", type := .double, accessFlags := 18, slot := 4, constantValue := 0 }, { name := "retreatOf", type := (.object "java/util/Optional"), accessFlags := 18, slot := 5, constantValue := 0 }]
  methods := #[k26m0]
  instanceTypes := #[(.object "java/lang/String"), .double, .double, .double, .double, (.object "java/util/Optional")]
  staticTypes := #[]
  resolved := Array.replicate 139 none
  statics := none }

def pool27 : Array CpInfo := pool [(1, .class_ 2), (0, u "java/lang/Comparable"), (0, .class_ 4), (0, u "java/lang/Object")] 7

/-- java/lang/Comparable -/
def k27 : Class := { plain "java/lang/Comparable" (some 0) with
  accessFlags := 1537
  interfaces := #[]
  cf := some (fileOf pool27 1 #[] #[] 1537 3 #[] #[])
  fields := #[]
  methods := #[]
  instanceTypes := #[]
  staticTypes := #[]
  resolved := Array.replicate 12 none
  statics := none }

def pool28 : Array CpInfo := pool [(2, .class_ 4), (1, u "java/lang/CharSequence"), (42, .class_ 48), (0, u "java/lang/CharSequence$1CodePointIterator"), (10, .class_ 60), (0, u "java/lang/CharSequence$1CharIterator"), (5, .class_ 67), (0, u "java/lang/Object")] 63

/-- java/lang/CharSequence -/
def k28 : Class := { plain "java/lang/CharSequence" (some 0) with
  accessFlags := 1537
  interfaces := #[]
  cf := some (fileOf pool28 2 #[.nestMembers #[47, 59]] #[] 1537 66 #[] #[])
  fields := #[]
  methods := #[]
  instanceTypes := #[]
  staticTypes := #[]
  resolved := Array.replicate 131 none
  statics := none }

def pool29 : Array CpInfo := pool [(1, .class_ 2), (0, u "java/lang/constant/Constable"), (0, .class_ 4), (0, u "java/lang/Object")] 6

/-- java/lang/constant/Constable -/
def k29 : Class := { plain "java/lang/constant/Constable" (some 0) with
  accessFlags := 1537
  interfaces := #[]
  cf := some (fileOf pool29 1 #[] #[] 1537 3 #[] #[])
  fields := #[]
  methods := #[]
  instanceTypes := #[]
  staticTypes := #[]
  resolved := Array.replicate 11 none
  statics := none }

def pool30 : Array CpInfo := pool [(1, .class_ 2), (0, u "java/lang/constant/ConstantDesc"), (0, .class_ 4), (0, u "java/lang/Object")] 32

/-- java/lang/constant/ConstantDesc -/
def k30 : Class := { plain "java/lang/constant/ConstantDesc" (some 0) with
  accessFlags := 1537
  interfaces := #[]
  cf := some (fileOf pool30 1 #[] #[] 1537 3 #[] #[])
  fields := #[]
  methods := #[]
  instanceTypes := #[]
  staticTypes := #[]
  resolved := Array.replicate 37 none
  statics := none }

def pool31 : Array CpInfo := pool [(1, .methodref 2 3), (0, .class_ 4), (0, .nameAndType 5 6), (0, u "java/lang/Object"), (0, u "<init>"), (0, u "()V"), (2, .fieldref 10 11), (0, .class_ 12), (0, .nameAndType 13 14), (0, u "java/lang/String"), (0, u "value"), (0, u "[B"), (0, .fieldref 10 16), (0, .nameAndType 17 18), (0, u "coder"), (0, u "B"), (2, u "hash"), (0, u "I"), (2, u "hashIsZero"), (0, u "Z"), (11, .fieldref 10 39), (0, .nameAndType 40 26), (0, u "COMPACT_STRINGS"), (12, u "toBytes"), (53, .class_ 109), (1, u "java/lang/StringLatin1"), (99, .methodref 10 210), (0, .nameAndType 5 211), (0, u "([BB)V"), (157, u "(C)Z"), (205, .class_ 576), (0, u "java/lang/CharSequence"), (22, u "CASE_INSENSITIVE_ORDER"), (0, u "Ljava/util/Comparator;"), (181, u "valueOf"), (0, u "(C)Ljava/lang/String;"), (231, .methodref 107 1016), (0, .nameAndType 1017 369), (0, u "canEncode"), (0, .methodref 107 1019), (0, .nameAndType 53 1020), (0, u "(C)[B"), (80, u "serialPersistentFields"), (0, u "[Ljava/io/ObjectStreamField;"), (0, .class_ 1104), (0, u "java/lang/String$CaseInsensitiveComparator"), (1, .class_ 1107), (0, u "java/io/Serializable"), (0, .class_ 1109), (0, u "java/lang/Comparable"), (0, .class_ 1111), (0, u "java/lang/constant/Constable"), (0, .class_ 1113), (0, u "java/lang/constant/ConstantDesc"), (2, u "serialVersionUID"), (0, u "J"), (3, u "REPL"), (0, u "C"), (2, u "LATIN1"), (1, u "UTF16")] 323

def k31m0 : Method := { name := "<init>", desc := "()V", sig := { parameters := [], returnType := none }, accessFlags := 1, code := none }
def k31c1 : Code := { maxStack := 4, maxLocals := 1, code := jdk_42_method_139_code, exceptionTable := #[], attributes := #[] }
def k31m1 : Method := { name := "valueOf", desc := "(C)Ljava/lang/String;", sig := { parameters := [.char], returnType := some (.object "java/lang/String") }, accessFlags := 9, code := some k31c1 }
def k31c2 : Code := { maxStack := 2, maxLocals := 3, code := jdk_42_method_151_code, exceptionTable := #[], attributes := #[] }
def k31m2 : Method := { name := "<init>", desc := "([BB)V", sig := { parameters := [(.array .byte), .byte], returnType := none }, accessFlags := 0, code := some k31c2 }
/-- java/lang/String -/
def k31 : Class := { plain "java/lang/String" (some 0) with
  accessFlags := 49
  interfaces := #[10, 27, 28, 29, 30]
  cf := some (fileOf pool31 10 #[.nestMembers #[1103]] #[{ accessFlags := 1, nameIndex := 5, descriptorIndex := 6, attributes := #[] }, { accessFlags := 9, nameIndex := 782, descriptorIndex := 783, attributes := #[] }, { accessFlags := 0, nameIndex := 5, descriptorIndex := 211, attributes := #[] }] 49 2 #[1106, 1108, 575, 1110, 1112] #[{ accessFlags := 18, nameIndex := 13, descriptorIndex := 14, attributes := #[] }, { accessFlags := 18, nameIndex := 17, descriptorIndex := 18, attributes := #[] }, { accessFlags := 2, nameIndex := 21, descriptorIndex := 22, attributes := #[] }, { accessFlags := 2, nameIndex := 25, descriptorIndex := 26, attributes := #[] }, { accessFlags := 26, nameIndex := 1116, descriptorIndex := 1117, attributes := #[] }, { accessFlags := 24, nameIndex := 40, descriptorIndex := 26, attributes := #[] }, { accessFlags := 26, nameIndex := 1101, descriptorIndex := 1102, attributes := #[] }, { accessFlags := 26, nameIndex := 1121, descriptorIndex := 1122, attributes := #[] }, { accessFlags := 25, nameIndex := 599, descriptorIndex := 600, attributes := #[] }, { accessFlags := 24, nameIndex := 1125, descriptorIndex := 18, attributes := #[] }, { accessFlags := 24, nameIndex := 1127, descriptorIndex := 18, attributes := #[] }])
  fields := #[{ name := "value", type := (.array .byte), accessFlags := 18, slot := 0, constantValue := 0 }, { name := "coder", type := .byte, accessFlags := 18, slot := 1, constantValue := 0 }, { name := "hash", type := .int, accessFlags := 2, slot := 2, constantValue := 0 }, { name := "hashIsZero", type := .boolean, accessFlags := 2, slot := 3, constantValue := 0 }, { name := "serialVersionUID", type := .long, accessFlags := 26, slot := 0, constantValue := 0 }, { name := "COMPACT_STRINGS", type := .boolean, accessFlags := 24, slot := 1, constantValue := 0 }, { name := "serialPersistentFields", type := (.array (.object "java/io/ObjectStreamField")), accessFlags := 26, slot := 2, constantValue := 0 }, { name := "REPL", type := .char, accessFlags := 26, slot := 3, constantValue := 0 }, { name := "CASE_INSENSITIVE_ORDER", type := (.object "java/util/Comparator"), accessFlags := 25, slot := 4, constantValue := 0 }, { name := "LATIN1", type := .byte, accessFlags := 24, slot := 5, constantValue := 0 }, { name := "UTF16", type := .byte, accessFlags := 24, slot := 6, constantValue := 0 }]
  methods := #[k31m0, k31m1, k31m2]
  instanceTypes := #[(.array .byte), .byte, .int, .boolean]
  staticTypes := #[.long, .boolean, (.array (.object "java/io/ObjectStreamField")), .char, (.object "java/util/Comparator"), .byte, .byte]
  resolved := Array.replicate 1451 none
  statics := some 2 }

def pool32 : Array CpInfo := pool [(4, .class_ 6), (1, u "java/lang/Object"), (0, u "<init>"), (0, u "()V"), (5, .class_ 16), (1, u "java/lang/StringLatin1"), (73, u "canEncode"), (14, u "(C)Z"), (15, u "$assertionsDisabled"), (0, u "Z"), (98, .class_ 223), (1, u "java/lang/StringLatin1$LinesSpliterator"), (156, u "toBytes"), (1, u "(C)[B"), (7, .class_ 391), (0, u "java/lang/StringLatin1$CharsSpliterator")] 3

def k32m0 : Method := { name := "<init>", desc := "()V", sig := { parameters := [], returnType := none }, accessFlags := 0, code := none }
def k32c1 : Code := { maxStack := 2, maxLocals := 1, code := jdk_43_method_3_code, exceptionTable := #[], attributes := #[] }
def k32m1 : Method := { name := "canEncode", desc := "(C)Z", sig := { parameters := [.char], returnType := some .boolean }, accessFlags := 9, code := some k32c1 }
def k32c2 : Code := { maxStack := 4, maxLocals := 1, code := jdk_43_method_46_code, exceptionTable := #[], attributes := #[] }
def k32m2 : Method := { name := "toBytes", desc := "(C)[B", sig := { parameters := [.char], returnType := some (.array .byte) }, accessFlags := 9, code := some k32c2 }
/-- java/lang/StringLatin1 -/
def k32 : Class := { plain "java/lang/StringLatin1" (some 0) with
  accessFlags := 48
  interfaces := #[]
  cf := some (fileOf pool32 14 #[.nestMembers #[390, 221]] #[{ accessFlags := 0, nameIndex := 7, descriptorIndex := 8, attributes := #[] }, { accessFlags := 9, nameIndex := 90, descriptorIndex := 105, attributes := #[] }, { accessFlags := 9, nameIndex := 380, descriptorIndex := 382, attributes := #[] }] 48 4 #[] #[{ accessFlags := 4120, nameIndex := 121, descriptorIndex := 122, attributes := #[] }])
  fields := #[{ name := "$assertionsDisabled", type := .boolean, accessFlags := 4120, slot := 0, constantValue := 0 }]
  methods := #[k32m0, k32m1, k32m2]
  instanceTypes := #[]
  staticTypes := #[.boolean]
  resolved := Array.replicate 395 none
  statics := none }

def pool33 : Array CpInfo := pool [(1, .class_ 2), (0, u "java/lang/Math"), (1, .class_ 6), (1, u "java/lang/Object"), (0, u "<init>"), (0, u "()V"), (89, .class_ 100), (1, u "java/lang/Math$RandomNumberGeneratorHolder"), (71, u "negativeZeroFloatBits"), (0, u "J"), (2, u "negativeZeroDoubleBits"), (21, u "max"), (2, u "min"), (43, u "$assertionsDisabled"), (0, u "Z"), (88, u "(II)I"), (2, u "twoToTheDoubleScaleDown"), (0, u "D"), (4, u "twoToTheDoubleScaleUp"), (9, u "E"), (3, u "PI"), (2, u "TAU"), (2, u "DEGREES_TO_RADIANS"), (0, u "RADIANS_TO_DEGREES")] 94

def k33m0 : Method := { name := "<init>", desc := "()V", sig := { parameters := [], returnType := none }, accessFlags := 2, code := none }
def k33c1 : Code := { maxStack := 2, maxLocals := 2, code := jdk_29_method_65_code, exceptionTable := #[], attributes := #[] }
def k33m1 : Method := { name := "max", desc := "(II)I", sig := { parameters := [.int, .int], returnType := some .int }, accessFlags := 9, code := some k33c1 }
def k33c2 : Code := { maxStack := 2, maxLocals := 2, code := jdk_29_method_69_code, exceptionTable := #[], attributes := #[] }
def k33m2 : Method := { name := "min", desc := "(II)I", sig := { parameters := [.int, .int], returnType := some .int }, accessFlags := 9, code := some k33c2 }
/-- java/lang/Math -/
def k33 : Class := { plain "java/lang/Math" (some 0) with
  accessFlags := 49
  interfaces := #[]
  cf := some (fileOf pool33 1 #[.nestMembers #[98]] #[{ accessFlags := 2, nameIndex := 7, descriptorIndex := 8, attributes := #[] }, { accessFlags := 9, nameIndex := 198, descriptorIndex := 335, attributes := #[] }, { accessFlags := 9, nameIndex := 201, descriptorIndex := 335, attributes := #[] }] 49 4 #[] #[{ accessFlags := 25, nameIndex := 354, descriptorIndex := 339, attributes := #[] }, { accessFlags := 25, nameIndex := 358, descriptorIndex := 339, attributes := #[] }, { accessFlags := 25, nameIndex := 361, descriptorIndex := 339, attributes := #[] }, { accessFlags := 26, nameIndex := 364, descriptorIndex := 339, attributes := #[] }, { accessFlags := 26, nameIndex := 365, descriptorIndex := 339, attributes := #[] }, { accessFlags := 26, nameIndex := 172, descriptorIndex := 173, attributes := #[] }, { accessFlags := 26, nameIndex := 176, descriptorIndex := 173, attributes := #[] }, { accessFlags := 8, nameIndex := 344, descriptorIndex := 339, attributes := #[] }, { accessFlags := 8, nameIndex := 338, descriptorIndex := 339, attributes := #[] }, { accessFlags := 4120, nameIndex := 245, descriptorIndex := 246, attributes := #[] }])
  fields := #[{ name := "E", type := .double, accessFlags := 25, slot := 0, constantValue := 0 }, { name := "PI", type := .double, accessFlags := 25, slot := 1, constantValue := 0 }, { name := "TAU", type := .double, accessFlags := 25, slot := 2, constantValue := 0 }, { name := "DEGREES_TO_RADIANS", type := .double, accessFlags := 26, slot := 3, constantValue := 0 }, { name := "RADIANS_TO_DEGREES", type := .double, accessFlags := 26, slot := 4, constantValue := 0 }, { name := "negativeZeroFloatBits", type := .long, accessFlags := 26, slot := 5, constantValue := 0 }, { name := "negativeZeroDoubleBits", type := .long, accessFlags := 26, slot := 6, constantValue := 0 }, { name := "twoToTheDoubleScaleUp", type := .double, accessFlags := 8, slot := 7, constantValue := 0 }, { name := "twoToTheDoubleScaleDown", type := .double, accessFlags := 8, slot := 8, constantValue := 0 }, { name := "$assertionsDisabled", type := .boolean, accessFlags := 4120, slot := 9, constantValue := 0 }]
  methods := #[k33m0, k33m1, k33m2]
  instanceTypes := #[]
  staticTypes := #[.double, .double, .double, .double, .double, .long, .long, .double, .double, .boolean]
  resolved := Array.replicate 460 none
  statics := none }

def pool34 : Array CpInfo := pool [(2, .class_ 4), (1, u "java/lang/Object"), (0, u "<init>"), (0, u "()V"), (1, .class_ 10), (1, u "java/lang/System"), (0, u "allowSecurityManager"), (0, u "I"), (16, u "cons"), (0, u "Ljava/io/Console;"), (77, .class_ 110), (1, u "java/lang/System$CallersHolder"), (43, u "initialErrStream"), (0, u "Ljava/io/PrintStream;"), (19, u "security"), (0, u "Ljava/lang/SecurityManager;"), (31, .class_ 209), (0, u "java/lang/System$1"), (7, u "props"), (0, u "Ljava/util/Properties;"), (2, u "lineSeparator"), (0, u "Ljava/lang/String;"), (96, .class_ 321), (1, u "java/lang/System$LoggerFinder"), (5, .class_ 328), (0, u "java/lang/System$Logger"), (67, u "err"), (2, u "out"), (91, u "notSupportedJnuEncoding"), (15, u "in"), (17, u "initialIn"), (0, u "Ljava/io/InputStream;"), (35, u "bootLayer"), (0, u "Ljava/lang/ModuleLayer;"), (99, .class_ 664), (0, u "java/lang/System$2"), (9, u "NEVER"), (2, u "MAYBE"), (49, u "arraycopy"), (0, u "(Ljava/lang/Object;ILjava/lang/Object;II)V"), (72, .class_ 802), (0, u "java/lang/System$Logger$Level")] 31

def k34m0 : Method := { name := "<init>", desc := "()V", sig := { parameters := [], returnType := none }, accessFlags := 2, code := none }
def k34m1 : Method := { name := "arraycopy", desc := "(Ljava/lang/Object;ILjava/lang/Object;II)V", sig := { parameters := [(.object "java/lang/Object"), .int, (.object "java/lang/Object"), .int, .int], returnType := none }, accessFlags := 265, code := none }
/-- java/lang/System -/
def k34 : Class := { plain "java/lang/System" (some 0) with
  accessFlags := 49
  interfaces := #[]
  cf := some (fileOf pool34 8 #[.nestMembers #[319, 327, 801, 108, 663, 208]] #[{ accessFlags := 2, nameIndex := 5, descriptorIndex := 6, attributes := #[] }, { accessFlags := 265, nameIndex := 727, descriptorIndex := 728, attributes := #[] }] 49 2 #[] #[{ accessFlags := 25, nameIndex := 507, descriptorIndex := 526, attributes := #[] }, { accessFlags := 25, nameIndex := 399, descriptorIndex := 155, attributes := #[] }, { accessFlags := 25, nameIndex := 396, descriptorIndex := 155, attributes := #[] }, { accessFlags := 10, nameIndex := 525, descriptorIndex := 526, attributes := #[] }, { accessFlags := 26, nameIndex := 674, descriptorIndex := 12, attributes := #[] }, { accessFlags := 26, nameIndex := 677, descriptorIndex := 12, attributes := #[] }, { accessFlags := 10, nameIndex := 11, descriptorIndex := 12, attributes := #[] }, { accessFlags := 74, nameIndex := 175, descriptorIndex := 176, attributes := #[] }, { accessFlags := 10, nameIndex := 491, descriptorIndex := 222, attributes := #[] }, { accessFlags := 74, nameIndex := 29, descriptorIndex := 30, attributes := #[] }, { accessFlags := 74, nameIndex := 154, descriptorIndex := 155, attributes := #[] }, { accessFlags := 10, nameIndex := 217, descriptorIndex := 218, attributes := #[] }, { accessFlags := 10, nameIndex := 221, descriptorIndex := 222, attributes := #[] }, { accessFlags := 8, nameIndex := 562, descriptorIndex := 563, attributes := #[] }])
  fields := #[{ name := "in", type := (.object "java/io/InputStream"), accessFlags := 25, slot := 0, constantValue := 0 }, { name := "out", type := (.object "java/io/PrintStream"), accessFlags := 25, slot := 1, constantValue := 0 }, { name := "err", type := (.object "java/io/PrintStream"), accessFlags := 25, slot := 2, constantValue := 0 }, { name := "initialIn", type := (.object "java/io/InputStream"), accessFlags := 10, slot := 3, constantValue := 0 }, { name := "NEVER", type := .int, accessFlags := 26, slot := 4, constantValue := 0 }, { name := "MAYBE", type := .int, accessFlags := 26, slot := 5, constantValue := 0 }, { name := "allowSecurityManager", type := .int, accessFlags := 10, slot := 6, constantValue := 0 }, { name := "security", type := (.object "java/lang/SecurityManager"), accessFlags := 74, slot := 7, constantValue := 0 }, { name := "notSupportedJnuEncoding", type := (.object "java/lang/String"), accessFlags := 10, slot := 8, constantValue := 0 }, { name := "cons", type := (.object "java/io/Console"), accessFlags := 74, slot := 9, constantValue := 0 }, { name := "initialErrStream", type := (.object "java/io/PrintStream"), accessFlags := 74, slot := 10, constantValue := 0 }, { name := "props", type := (.object "java/util/Properties"), accessFlags := 10, slot := 11, constantValue := 0 }, { name := "lineSeparator", type := (.object "java/lang/String"), accessFlags := 10, slot := 12, constantValue := 0 }, { name := "bootLayer", type := (.object "java/lang/ModuleLayer"), accessFlags := 8, slot := 13, constantValue := 0 }]
  methods := #[k34m0, k34m1]
  instanceTypes := #[]
  staticTypes := #[(.object "java/io/InputStream"), (.object "java/io/PrintStream"), (.object "java/io/PrintStream"), (.object "java/io/InputStream"), .int, .int, .int, (.object "java/lang/SecurityManager"), (.object "java/lang/String"), (.object "java/io/Console"), (.object "java/io/PrintStream"), (.object "java/util/Properties"), (.object "java/lang/String"), (.object "java/lang/ModuleLayer")]
  resolved := Array.replicate 834 none
  statics := none }

def pool35 : Array CpInfo := pool [(2, .class_ 4), (1, u "java/lang/Object"), (0, u "<init>"), (0, u "()V"), (17, .class_ 26), (1, u "jdk/internal/util/Preconditions"), (28, .class_ 56), (0, u "jdk/internal/util/Preconditions$4"), (57, .class_ 115), (0, u "jdk/internal/util/Preconditions$1"), (7, u "SIOOBE_FORMATTER"), (0, u "Ljava/util/function/BiFunction;"), (0, .class_ 126), (0, u "jdk/internal/util/Preconditions$2"), (3, u "AIOOBE_FORMATTER"), (0, .class_ 132), (0, u "jdk/internal/util/Preconditions$3"), (3, u "IOOBE_FORMATTER")] 57

def k35m0 : Method := { name := "<init>", desc := "()V", sig := { parameters := [], returnType := none }, accessFlags := 1, code := none }
/-- jdk/internal/util/Preconditions -/
def k35 : Class := { plain "jdk/internal/util/Preconditions" (some 0) with
  accessFlags := 33
  interfaces := #[]
  cf := some (fileOf pool35 24 #[.nestMembers #[55, 131, 125, 114]] #[{ accessFlags := 1, nameIndex := 5, descriptorIndex := 6, attributes := #[] }] 33 2 #[] #[{ accessFlags := 25, nameIndex := 123, descriptorIndex := 124, attributes := #[] }, { accessFlags := 25, nameIndex := 130, descriptorIndex := 124, attributes := #[] }, { accessFlags := 25, nameIndex := 136, descriptorIndex := 124, attributes := #[] }])
  fields := #[{ name := "SIOOBE_FORMATTER", type := (.object "java/util/function/BiFunction"), accessFlags := 25, slot := 0, constantValue := 0 }, { name := "AIOOBE_FORMATTER", type := (.object "java/util/function/BiFunction"), accessFlags := 25, slot := 1, constantValue := 0 }, { name := "IOOBE_FORMATTER", type := (.object "java/util/function/BiFunction"), accessFlags := 25, slot := 2, constantValue := 0 }]
  methods := #[k35m0]
  instanceTypes := #[]
  staticTypes := #[(.object "java/util/function/BiFunction"), (.object "java/util/function/BiFunction"), (.object "java/util/function/BiFunction")]
  resolved := Array.replicate 194 none
  statics := some 3 }

def pool36 : Array CpInfo := pool [(9, u "<init>"), (6, .class_ 18), (1, u "java/lang/Object"), (0, u "()V"), (1, .class_ 23), (1, u "jdk/internal/util/ArraysSupport"), (0, u "LOG2_ARRAY_LONG_INDEX_SCALE"), (0, u "I"), (2, u "U"), (0, u "Ljdk/internal/misc/Unsafe;"), (8, u "BIG_ENDIAN"), (0, u "Z"), (8, u "LOG2_BYTE_BIT_SIZE"), (4, u "LOG2_ARRAY_INT_INDEX_SCALE"), (54, u "JLA"), (0, u "Ljdk/internal/access/JavaLangAccess;"), (11, u "LOG2_ARRAY_BOOLEAN_INDEX_SCALE"), (9, u "LOG2_ARRAY_BYTE_INDEX_SCALE"), (5, u "LOG2_ARRAY_CHAR_INDEX_SCALE"), (5, u "LOG2_ARRAY_SHORT_INDEX_SCALE"), (18, u "LOG2_ARRAY_FLOAT_INDEX_SCALE"), (24, u "LOG2_ARRAY_DOUBLE_INDEX_SCALE"), (89, u "T_BOOLEAN"), (2, u "T_CHAR"), (1, u "T_FLOAT"), (1, u "T_DOUBLE"), (1, u "T_BYTE"), (1, u "T_SHORT"), (1, u "T_INT"), (1, u "T_LONG"), (1, u "SOFT_MAX_ARRAY_LENGTH")] 83

def k36m0 : Method := { name := "<init>", desc := "()V", sig := { parameters := [], returnType := none }, accessFlags := 2, code := none }
/-- jdk/internal/util/ArraysSupport -/
def k36 : Class := { plain "jdk/internal/util/ArraysSupport" (some 0) with
  accessFlags := 33
  interfaces := #[]
  cf := some (fileOf pool36 21 #[] #[{ accessFlags := 2, nameIndex := 9, descriptorIndex := 19, attributes := #[] }] 33 16 #[] #[{ accessFlags := 24, nameIndex := 28, descriptorIndex := 29, attributes := #[] }, { accessFlags := 26, nameIndex := 38, descriptorIndex := 39, attributes := #[] }, { accessFlags := 25, nameIndex := 121, descriptorIndex := 25, attributes := #[] }, { accessFlags := 25, nameIndex := 131, descriptorIndex := 25, attributes := #[] }, { accessFlags := 25, nameIndex := 137, descriptorIndex := 25, attributes := #[] }, { accessFlags := 25, nameIndex := 143, descriptorIndex := 25, attributes := #[] }, { accessFlags := 25, nameIndex := 53, descriptorIndex := 25, attributes := #[] }, { accessFlags := 25, nameIndex := 24, descriptorIndex := 25, attributes := #[] }, { accessFlags := 25, nameIndex := 162, descriptorIndex := 25, attributes := #[] }, { accessFlags := 25, nameIndex := 187, descriptorIndex := 25, attributes := #[] }, { accessFlags := 26, nameIndex := 48, descriptorIndex := 25, attributes := #[] }, { accessFlags := 25, nameIndex := 277, descriptorIndex := 25, attributes := #[] }, { accessFlags := 25, nameIndex := 280, descriptorIndex := 25, attributes := #[] }, { accessFlags := 25, nameIndex := 282, descriptorIndex := 25, attributes := #[] }, { accessFlags := 25, nameIndex := 284, descriptorIndex := 25, attributes := #[] }, { accessFlags := 25, nameIndex := 286, descriptorIndex := 25, attributes := #[] }, { accessFlags := 25, nameIndex := 288, descriptorIndex := 25, attributes := #[] }, { accessFlags := 25, nameIndex := 290, descriptorIndex := 25, attributes := #[] }, { accessFlags := 25, nameIndex := 292, descriptorIndex := 25, attributes := #[] }, { accessFlags := 26, nameIndex := 108, descriptorIndex := 109, attributes := #[] }, { accessFlags := 25, nameIndex := 294, descriptorIndex := 25, attributes := #[] }])
  fields := #[{ name := "U", type := (.object "jdk/internal/misc/Unsafe"), accessFlags := 24, slot := 0, constantValue := 0 }, { name := "BIG_ENDIAN", type := .boolean, accessFlags := 26, slot := 1, constantValue := 0 }, { name := "LOG2_ARRAY_BOOLEAN_INDEX_SCALE", type := .int, accessFlags := 25, slot := 2, constantValue := 0 }, { name := "LOG2_ARRAY_BYTE_INDEX_SCALE", type := .int, accessFlags := 25, slot := 3, constantValue := 0 }, { name := "LOG2_ARRAY_CHAR_INDEX_SCALE", type := .int, accessFlags := 25, slot := 4, constantValue := 0 }, { name := "LOG2_ARRAY_SHORT_INDEX_SCALE", type := .int, accessFlags := 25, slot := 5, constantValue := 0 }, { name := "LOG2_ARRAY_INT_INDEX_SCALE", type := .int, accessFlags := 25, slot := 6, constantValue := 0 }, { name := "LOG2_ARRAY_LONG_INDEX_SCALE", type := .int, accessFlags := 25, slot := 7, constantValue := 0 }, { name := "LOG2_ARRAY_FLOAT_INDEX_SCALE", type := .int, accessFlags := 25, slot := 8, constantValue := 0 }, { name := "LOG2_ARRAY_DOUBLE_INDEX_SCALE", type := .int, accessFlags := 25, slot := 9, constantValue := 0 }, { name := "LOG2_BYTE_BIT_SIZE", type := .int, accessFlags := 26, slot := 10, constantValue := 0 }, { name := "T_BOOLEAN", type := .int, accessFlags := 25, slot := 11, constantValue := 0 }, { name := "T_CHAR", type := .int, accessFlags := 25, slot := 12, constantValue := 0 }, { name := "T_FLOAT", type := .int, accessFlags := 25, slot := 13, constantValue := 0 }, { name := "T_DOUBLE", type := .int, accessFlags := 25, slot := 14, constantValue := 0 }, { name := "T_BYTE", type := .int, accessFlags := 25, slot := 15, constantValue := 0 }, { name := "T_SHORT", type := .int, accessFlags := 25, slot := 16, constantValue := 0 }, { name := "T_INT", type := .int, accessFlags := 25, slot := 17, constantValue := 0 }, { name := "T_LONG", type := .int, accessFlags := 25, slot := 18, constantValue := 0 }, { name := "JLA", type := (.object "jdk/internal/access/JavaLangAccess"), accessFlags := 26, slot := 19, constantValue := 0 }, { name := "SOFT_MAX_ARRAY_LENGTH", type := .int, accessFlags := 25, slot := 20, constantValue := 0 }]
  methods := #[k36m0]
  instanceTypes := #[]
  staticTypes := #[(.object "jdk/internal/misc/Unsafe"), .boolean, .int, .int, .int, .int, .int, .int, .int, .int, .int, .int, .int, .int, .int, .int, .int, .int, .int, (.object "jdk/internal/access/JavaLangAccess"), .int]
  resolved := Array.replicate 378 none
  statics := none }

/-- the primitive byte -/
def k37 : Class := { plain "byte" none with kind := .primitive 'B', accessFlags := 0x411 }
/-- [B -/
def k38 : Class := { plain "[B" (some 0) with kind := .array 37 .byte, interfaces := #[9, 10], accessFlags := 1041 }

/-- the primitive double -/
def k39 : Class := { plain "double" none with kind := .primitive 'D', accessFlags := 0x411 }
/-- [D -/
def k40 : Class := { plain "[D" (some 0) with kind := .array 39 .double, interfaces := #[9, 10], accessFlags := 1041 }

/-- the primitive int -/
def k41 : Class := { plain "int" none with kind := .primitive 'I', accessFlags := 0x411 }
/-- [I -/
def k42 : Class := { plain "[I" (some 0) with kind := .array 41 .int, interfaces := #[9, 10], accessFlags := 1041 }

/-- [Ljava/lang/Object; -/
def k43 : Class := { plain "[Ljava/lang/Object;" (some 0) with kind := .array 0 (.object "java/lang/Object"), interfaces := #[9, 10], accessFlags := 1041, mirror := some 4 }

/-- java/lang/Class, with no field -/
def k44 : Class := { plain "java/lang/Class" (some 0) with accessFlags := 49 }

def classes0 : Array Class := #[k0, k1, k2, k3, k4, k5, k6, k7, k8, k9, k10, k11, k12, k13, k14, k15, k16, k17, k18, k19, k20, k21, k22, k23, k24, k25, k26, k27, k28, k29, k30, k31, k32, k33, k34, k35, k36, k37, k38, k39, k40, k41, k42, k43, k44]
/-- the class that the rule has made for the site at 78 of com/example/zellwerk/zellwerk/service/Holdings.<init> -/
def k45 : Class := Jvm.LamKit.madeRec { classes := classes0 } "com/example/zellwerk/zellwerk/service/Holdings" (Jvm.Lambda.Shape.mk "java/util/function/Consumer" "accept" (Jvm.ClassFile.MethodDescriptor.mk ([(Jvm.ClassFile.FieldType.object "java/lang/Object")] : List Jvm.ClassFile.FieldType) (Option.none : Option Jvm.ClassFile.FieldType)) ([(Jvm.ClassFile.FieldType.object "com/example/zellwerk/zellwerk/service/Holdings")] : List Jvm.ClassFile.FieldType) (5 : Nat) "com/example/zellwerk/zellwerk/service/Holdings" "lambda$new$0" (Jvm.ClassFile.MethodDescriptor.mk ([(Jvm.ClassFile.FieldType.object "com/example/zellwerk/zellwerk/model/Area")] : List Jvm.ClassFile.FieldType) (Option.none : Option Jvm.ClassFile.FieldType)) false (Jvm.ClassFile.MethodDescriptor.mk ([(Jvm.ClassFile.FieldType.object "com/example/zellwerk/zellwerk/model/Area")] : List Jvm.ClassFile.FieldType) (Option.none : Option Jvm.ClassFile.FieldType))) 45

def heap : Heap := #[{ cls := 11, slots := #[.long 0, .int 0, .ref 7, .ref 8], vm := .statics 11 },
  { cls := 14, slots := #[.long 0, .int 0, .null, .ref 9, .ref 6, .null, .null, .null, .int 0, .int 1], vm := .statics 14 },
  { cls := 31, slots := #[.long 0, .int 1, .null, .int 0, .null, .int 0, .int 0], vm := .statics 31 },
  { cls := 35, slots := #[.null, .null, .null], vm := .statics 35 },
  { cls := 44, slots := #[], vm := .mirror 43 },
  { cls := 43, slots := #[], vm := .none },
  { cls := 18, slots := #[.ref 5, .int 0], vm := .none },
  { cls := 43, slots := #[], vm := .none },
  { cls := 43, slots := #[], vm := .none },
  { cls := 0, slots := #[], vm := .none }]
def classes : Array Class := #[k0, k1, k2, k3, k4, k5, k6, k7, k8, k9, k10, k11, k12, k13, k14, k15, k16, k17, k18, k19, k20, k21, k22, k23, k24, k25, k26, k27, k28, k29, k30, k31, k32, k33, k34, k35, k36, k37, k38, k39, k40, k41, k42, k43, k44, k45]
def interned : List (Array UInt16 × Addr) := []
def slotsUsed : Nat := 26
def theMethod : MethodId := ⟨1, 1⟩
def args0 : Array Value := #[.int 2, .int 5, .int 3, .int 7]
def aboutOver (below : List Frame) : State where
  vm := { classes := classes, interned := interned.toArray }
  heap := heap
  slotsUsed := slotsUsed
  threads := #[{ frames := .invoking theMethod args0 :: below }]
def below0 : List Frame := [.native { method := ⟨0, 0⟩, args := #[] }]
def about1 : State := aboutOver below0
def p0 : Program := .bare "" "" ""
def e0 : Env := launch0.env 0 0 0
theorem w_frames : about1.frames = Frame.invoking theMethod args0 :: below0 := rfl
set_option maxRecDepth 65536 in
theorem w_args : argsFit about1.vm theMethod args0 = true := by decide +kernel
set_option maxRecDepth 65536 in
theorem w_heap : heapFits about1 = true := by decide +kernel
set_option maxRecDepth 65536 in
theorem w_runnable : about1.curStatus? = some .runnable := by decide +kernel
set_option maxRecDepth 65536 in
theorem w_alone : about1.alone = true := by decide +kernel
set_option maxRecDepth 65536 in
theorem w_named : about1.methodNamed? x = some theMethod := by decide +kernel
set_option maxRecDepth 65536 in
theorem w_hears : about1.hears theMethod below0 = true := by decide +kernel
set_option maxRecDepth 65536 in
theorem w_ripe : about1.ripe theMethod args0 below0 = true := by decide +kernel
theorem w_running : about1.status = .running := rfl
set_option maxRecDepth 65536 in
theorem w_room : about1.hasRoom e0.platform room_1 = true :=
  launch0.hasRoom_least _ room_1 (by decide +kernel) (by decide +kernel) (by decide +kernel) (by decide +kernel) (by decide +kernel) (by decide +kernel)
theorem allAtoms_all (ts : List Jvm.Cond) (a : Array Jvm.Value) (st : Jvm.State) : (allAtoms ts).before a st = ts.all (fun c => c.before a st) := by
  induction ts with
  | nil => rfl
  | cons c t ih =>
    show (Jvm.Cond.and c (allAtoms t)).before a st = _
    rw [Jvm.Cond.before_and, ih, List.all_cons]
def words1 : List Jvm.Cond := Jvm.Cond.code x code maxLocals ret :: tables_1
/-- a 'code' word, met by the world's own term for the bytes: nothing is compared byte by byte -/
theorem code_word {y : MethodName} {bytes : ByteArray} {mx : Nat} {rt : Option FieldType} {a : Array Value} {s : State} {m : MethodId} {meth : Method} {c : Code} (h1 : s.methodNamed? y = some m) (h2 : s.vm.method? m = some meth) (h3 : meth.code = some c) (h4 : c.code = bytes)
    (h5 : (c.maxLocals == mx && c.exceptionTable.isEmpty && decide (c.maxStack ≤ mostOperands) && decide (meth.sig.returnType = rt) && !meth.locks && decide (parseMethodDescriptor y.desc = some meth.sig)) = true) : (Jvm.Cond.code y bytes mx rt).before a s = true := by
  simp only [Bool.and_eq_true, beq_iff_eq, Bool.not_eq_true', decide_eq_true_eq] at h5
  obtain ⟨⟨⟨⟨⟨g1, g2⟩, g3⟩, g4⟩, g5⟩, g6⟩ := h5
  simp [Cond.before, Cond.holds, Cond.value, h1, h2, h3, h4, g1, g2, g3, g4, g5, g6]
def isCode : Jvm.Cond → Bool
  | .code _ _ _ _ => true
  | _ => false
theorem all_split {L : List Jvm.Cond} {P : Jvm.Cond → Bool} (h1 : L.all (fun c => isCode c || P c) = true) (h2 : ∀ c ∈ L.filter isCode, P c = true) : L.all P = true := by
  refine List.all_eq_true.mpr fun c hc => ?_
  have h := List.all_eq_true.mp h1 c hc
  rcases Bool.eq_false_or_eq_true (isCode c) with hi | hi
  · exact h2 c (List.mem_filter.mpr ⟨hc, hi⟩)
  · simpa [hi] using h
set_option maxRecDepth 65536 in
theorem w_c0 : (Jvm.Cond.code x code maxLocals ret).before args0 about1 = true := code_word (m := ⟨1, 1⟩) (meth := k1m1) (c := k1c1) (by decide +kernel) rfl rfl rfl (by decide +kernel)
set_option maxRecDepth 65536 in
theorem w_c1 : (Jvm.Cond.code ({ cls := "java/util/ArrayList", name := "<init>", desc := "()V" } : Jvm.MethodName) jdk_38_method_2_code (1 : Nat) (Option.none : Option Jvm.ClassFile.FieldType)).before args0 about1 = true := code_word (m := ⟨11, 0⟩) (meth := k11m0) (c := k11c0) (by decide +kernel) rfl rfl rfl (by decide +kernel)
set_option maxRecDepth 65536 in
theorem w_c2 : (Jvm.Cond.code ({ cls := "java/util/AbstractList", name := "<init>", desc := "()V" } : Jvm.MethodName) jdk_39_method_1_code (1 : Nat) (Option.none : Option Jvm.ClassFile.FieldType)).before args0 about1 = true := code_word (m := ⟨7, 0⟩) (meth := k7m0) (c := k7c0) (by decide +kernel) rfl rfl rfl (by decide +kernel)
set_option maxRecDepth 65536 in
theorem w_c3 : (Jvm.Cond.code ({ cls := "java/util/AbstractCollection", name := "<init>", desc := "()V" } : Jvm.MethodName) jdk_22_method_1_code (1 : Nat) (Option.none : Option Jvm.ClassFile.FieldType)).before args0 about1 = true := code_word (m := ⟨4, 0⟩) (meth := k4m0) (c := k4c0) (by decide +kernel) rfl rfl rfl (by decide +kernel)
set_option maxRecDepth 65536 in
theorem w_c4 : (Jvm.Cond.code ({ cls := "java/lang/Object", name := "<init>", desc := "()V" } : Jvm.MethodName) object_method_1_code (1 : Nat) (Option.none : Option Jvm.ClassFile.FieldType)).before args0 about1 = true := code_word (m := ⟨0, 0⟩) (meth := k0m0) (c := k0c0) (by decide +kernel) rfl rfl rfl (by decide +kernel)
set_option maxRecDepth 65536 in
theorem w_c5 : (Jvm.Cond.code ({ cls := "com/example/zellwerk/zellwerk/model/Cell", name := "<init>", desc := "(DLjava/util/List;Ljava/util/List;Ljava/util/List;)V" } : Jvm.MethodName) prog_24_method_2_code (6 : Nat) (Option.none : Option Jvm.ClassFile.FieldType)).before args0 about1 = true := code_word (m := ⟨13, 1⟩) (meth := k13m1) (c := k13c1) (by decide +kernel) rfl rfl rfl (by decide +kernel)
set_option maxRecDepth 65536 in
theorem w_c6 : (Jvm.Cond.code ({ cls := "java/util/List", name := "of", desc := "()Ljava/util/List;" } : Jvm.MethodName) jdk_40_method_36_code (0 : Nat) (Option.some (Jvm.ClassFile.FieldType.object "java/util/List"))).before args0 about1 = true := code_word (m := ⟨6, 3⟩) (meth := k6m3) (c := k6c3) (by decide +kernel) rfl rfl rfl (by decide +kernel)
set_option maxRecDepth 65536 in
theorem w_c7 : (Jvm.Cond.code ({ cls := "com/example/zellwerk/zellwerk/model/Cell", name := "<init>", desc := "(DLjava/util/List;Ljava/util/List;Ljava/util/List;DLjava/util/List;Ljava/util/List;)V" } : Jvm.MethodName) prog_24_method_1_code (10 : Nat) (Option.none : Option Jvm.ClassFile.FieldType)).before args0 about1 = true := code_word (m := ⟨13, 0⟩) (meth := k13m0) (c := k13c0) (by decide +kernel) rfl rfl rfl (by decide +kernel)
set_option maxRecDepth 65536 in
theorem w_c8 : (Jvm.Cond.code ({ cls := "java/lang/Record", name := "<init>", desc := "()V" } : Jvm.MethodName) jdk_30_method_1_code (1 : Nat) (Option.none : Option Jvm.ClassFile.FieldType)).before args0 about1 = true := code_word (m := ⟨12, 0⟩) (meth := k12m0) (c := k12c0) (by decide +kernel) rfl rfl rfl (by decide +kernel)
set_option maxRecDepth 65536 in
theorem w_c9 : (Jvm.Cond.code ({ cls := "java/util/List", name := "copyOf", desc := "(Ljava/util/Collection;)Ljava/util/List;" } : Jvm.MethodName) jdk_40_method_48_code (1 : Nat) (Option.some (Jvm.ClassFile.FieldType.object "java/util/List"))).before args0 about1 = true := code_word (m := ⟨6, 5⟩) (meth := k6m5) (c := k6c5) (by decide +kernel) rfl rfl rfl (by decide +kernel)
set_option maxRecDepth 65536 in
theorem w_c10 : (Jvm.Cond.code ({ cls := "java/util/ImmutableCollections", name := "listCopy", desc := "(Ljava/util/Collection;)Ljava/util/List;" } : Jvm.MethodName) jdk_56_method_3_code (2 : Nat) (Option.some (Jvm.ClassFile.FieldType.object "java/util/List"))).before args0 about1 = true := code_word (m := ⟨14, 1⟩) (meth := k14m1) (c := k14c1) (by decide +kernel) rfl rfl rfl (by decide +kernel)
set_option maxRecDepth 65536 in
theorem w_c11 : (Jvm.Cond.code ({ cls := "java/util/ArrayList", name := "isEmpty", desc := "()Z" } : Jvm.MethodName) jdk_38_method_9_code (1 : Nat) (Option.some Jvm.ClassFile.FieldType.boolean)).before args0 about1 = true := code_word (m := ⟨11, 3⟩) (meth := k11m3) (c := k11c3) (by decide +kernel) rfl rfl rfl (by decide +kernel)
set_option maxRecDepth 65536 in
theorem w_c12 : (Jvm.Cond.code ({ cls := "com/example/zellwerk/zellwerk/service/Holdings", name := "<init>", desc := "(Lcom/example/zellwerk/zellwerk/model/Cell;)V" } : Jvm.MethodName) prog_48_method_1_code (2 : Nat) (Option.none : Option Jvm.ClassFile.FieldType)).before args0 about1 = true := code_word (m := ⟨19, 0⟩) (meth := k19m0) (c := k19c0) (by decide +kernel) rfl rfl rfl (by decide +kernel)
set_option maxRecDepth 65536 in
theorem w_c13 : (Jvm.Cond.code ({ cls := "com/example/zellwerk/zellwerk/model/Cell", name := "areas", desc := "()Ljava/util/List;" } : Jvm.MethodName) prog_24_method_13_code (1 : Nat) (Option.some (Jvm.ClassFile.FieldType.object "java/util/List"))).before args0 about1 = true := code_word (m := ⟨13, 2⟩) (meth := k13m2) (c := k13c2) (by decide +kernel) rfl rfl rfl (by decide +kernel)
set_option maxRecDepth 65536 in
theorem w_c14 : (Jvm.Cond.code ({ cls := "java/util/ImmutableCollections$ListN", name := "size", desc := "()I" } : Jvm.MethodName) jdk_45_method_3_code (1 : Nat) (Option.some Jvm.ClassFile.FieldType.int)).before args0 about1 = true := code_word (m := ⟨18, 1⟩) (meth := k18m1) (c := k18c1) (by decide +kernel) rfl rfl rfl (by decide +kernel)
set_option maxRecDepth 65536 in
theorem w_c15 : (Jvm.Cond.code ({ cls := "java/util/Arrays", name := "fill", desc := "([II)V" } : Jvm.MethodName) jdk_65_method_103_code (4 : Nat) (Option.none : Option Jvm.ClassFile.FieldType)).before args0 about1 = true := code_word (m := ⟨20, 1⟩) (meth := k20m1) (c := k20c1) (by decide +kernel) rfl rfl rfl (by decide +kernel)
set_option maxRecDepth 65536 in
theorem w_c16 : (Jvm.Cond.code ({ cls := "java/lang/Iterable", name := "forEach", desc := "(Ljava/util/function/Consumer;)V" } : Jvm.MethodName) jdk_27_method_2_code (4 : Nat) (Option.none : Option Jvm.ClassFile.FieldType)).before args0 about1 = true := code_word (m := ⟨2, 1⟩) (meth := k2m1) (c := k2c1) (by decide +kernel) rfl rfl rfl (by decide +kernel)
set_option maxRecDepth 65536 in
theorem w_c17 : (Jvm.Cond.code ({ cls := "java/util/Objects", name := "requireNonNull", desc := "(Ljava/lang/Object;)Ljava/lang/Object;" } : Jvm.MethodName) jdk_31_method_10_code (1 : Nat) (Option.some (Jvm.ClassFile.FieldType.object "java/lang/Object"))).before args0 about1 = true := code_word (m := ⟨22, 1⟩) (meth := k22m1) (c := k22c1) (by decide +kernel) rfl rfl rfl (by decide +kernel)
set_option maxRecDepth 65536 in
theorem w_c18 : (Jvm.Cond.code ({ cls := "java/util/ImmutableCollections$AbstractImmutableList", name := "iterator", desc := "()Ljava/util/Iterator;" } : Jvm.MethodName) jdk_46_method_10_code (1 : Nat) (Option.some (Jvm.ClassFile.FieldType.object "java/util/Iterator"))).before args0 about1 = true := code_word (m := ⟨16, 1⟩) (meth := k16m1) (c := k16c1) (by decide +kernel) rfl rfl rfl (by decide +kernel)
set_option maxRecDepth 65536 in
theorem w_c19 : (Jvm.Cond.code ({ cls := "java/util/ImmutableCollections$ListItr", name := "<init>", desc := "(Ljava/util/List;I)V" } : Jvm.MethodName) jdk_53_method_1_code (3 : Nat) (Option.none : Option Jvm.ClassFile.FieldType)).before args0 about1 = true := code_word (m := ⟨25, 0⟩) (meth := k25m0) (c := k25c0) (by decide +kernel) rfl rfl rfl (by decide +kernel)
set_option maxRecDepth 65536 in
theorem w_c20 : (Jvm.Cond.code ({ cls := "java/util/ImmutableCollections$ListItr", name := "hasNext", desc := "()Z" } : Jvm.MethodName) jdk_53_method_3_code (1 : Nat) (Option.some Jvm.ClassFile.FieldType.boolean)).before args0 about1 = true := code_word (m := ⟨25, 1⟩) (meth := k25m1) (c := k25c1) (by decide +kernel) rfl rfl rfl (by decide +kernel)
set_option maxRecDepth 65536 in
theorem w_c21 : (Jvm.Cond.code ({ cls := "com/example/zellwerk/zellwerk/service/Holdings", name := "any", desc := "()Z" } : Jvm.MethodName) prog_48_method_2_code (1 : Nat) (Option.some Jvm.ClassFile.FieldType.boolean)).before args0 about1 = true := code_word (m := ⟨19, 1⟩) (meth := k19m1) (c := k19c1) (by decide +kernel) rfl rfl rfl (by decide +kernel)
set_option maxRecDepth 65536 in
theorem w_c22 : (Jvm.Cond.code ({ cls := "java/lang/String", name := "valueOf", desc := "(C)Ljava/lang/String;" } : Jvm.MethodName) jdk_42_method_139_code (1 : Nat) (Option.some (Jvm.ClassFile.FieldType.object "java/lang/String"))).before args0 about1 = true := code_word (m := ⟨31, 1⟩) (meth := k31m1) (c := k31c1) (by decide +kernel) rfl rfl rfl (by decide +kernel)
set_option maxRecDepth 65536 in
theorem w_c23 : (Jvm.Cond.code ({ cls := "java/lang/StringLatin1", name := "canEncode", desc := "(C)Z" } : Jvm.MethodName) jdk_43_method_3_code (1 : Nat) (Option.some Jvm.ClassFile.FieldType.boolean)).before args0 about1 = true := code_word (m := ⟨32, 1⟩) (meth := k32m1) (c := k32c1) (by decide +kernel) rfl rfl rfl (by decide +kernel)
set_option maxRecDepth 65536 in
theorem w_c24 : (Jvm.Cond.code ({ cls := "java/lang/StringLatin1", name := "toBytes", desc := "(C)[B" } : Jvm.MethodName) jdk_43_method_46_code (1 : Nat) (Option.some (Jvm.ClassFile.FieldType.array Jvm.ClassFile.FieldType.byte))).before args0 about1 = true := code_word (m := ⟨32, 2⟩) (meth := k32m2) (c := k32c2) (by decide +kernel) rfl rfl rfl (by decide +kernel)
set_option maxRecDepth 65536 in
theorem w_c25 : (Jvm.Cond.code ({ cls := "java/lang/String", name := "<init>", desc := "([BB)V" } : Jvm.MethodName) jdk_42_method_151_code (3 : Nat) (Option.none : Option Jvm.ClassFile.FieldType)).before args0 about1 = true := code_word (m := ⟨31, 2⟩) (meth := k31m2) (c := k31c2) (by decide +kernel) rfl rfl rfl (by decide +kernel)
set_option maxRecDepth 65536 in
theorem w_c26 : (Jvm.Cond.code ({ cls := "com/example/zellwerk/zellwerk/model/Area", name := "<init>", desc := "(Ljava/lang/String;DDDDLjava/util/Optional;)V" } : Jvm.MethodName) prog_17_method_1_code (11 : Nat) (Option.none : Option Jvm.ClassFile.FieldType)).before args0 about1 = true := code_word (m := ⟨26, 0⟩) (meth := k26m0) (c := k26c0) (by decide +kernel) rfl rfl rfl (by decide +kernel)
set_option maxRecDepth 65536 in
theorem w_c27 : (Jvm.Cond.code ({ cls := "java/util/ArrayList", name := "add", desc := "(Ljava/lang/Object;)Z" } : Jvm.MethodName) jdk_38_method_25_code (2 : Nat) (Option.some Jvm.ClassFile.FieldType.boolean)).before args0 about1 = true := code_word (m := ⟨11, 6⟩) (meth := k11m6) (c := k11c6) (by decide +kernel) rfl rfl rfl (by decide +kernel)
set_option maxRecDepth 65536 in
theorem w_c28 : (Jvm.Cond.code ({ cls := "java/util/ArrayList", name := "add", desc := "(Ljava/lang/Object;[Ljava/lang/Object;I)V" } : Jvm.MethodName) jdk_38_method_24_code (4 : Nat) (Option.none : Option Jvm.ClassFile.FieldType)).before args0 about1 = true := code_word (m := ⟨11, 5⟩) (meth := k11m5) (c := k11c5) (by decide +kernel) rfl rfl rfl (by decide +kernel)
set_option maxRecDepth 65536 in
theorem w_c29 : (Jvm.Cond.code ({ cls := "java/util/ArrayList", name := "grow", desc := "()[Ljava/lang/Object;" } : Jvm.MethodName) jdk_38_method_7_code (1 : Nat) (Option.some (Jvm.ClassFile.FieldType.array (Jvm.ClassFile.FieldType.object "java/lang/Object")))).before args0 about1 = true := code_word (m := ⟨11, 2⟩) (meth := k11m2) (c := k11c2) (by decide +kernel) rfl rfl rfl (by decide +kernel)
set_option maxRecDepth 65536 in
theorem w_c30 : (Jvm.Cond.code ({ cls := "java/util/ArrayList", name := "grow", desc := "(I)[Ljava/lang/Object;" } : Jvm.MethodName) jdk_38_method_6_code (4 : Nat) (Option.some (Jvm.ClassFile.FieldType.array (Jvm.ClassFile.FieldType.object "java/lang/Object")))).before args0 about1 = true := code_word (m := ⟨11, 1⟩) (meth := k11m1) (c := k11c1) (by decide +kernel) rfl rfl rfl (by decide +kernel)
set_option maxRecDepth 65536 in
theorem w_c31 : (Jvm.Cond.code ({ cls := "java/lang/Math", name := "max", desc := "(II)I" } : Jvm.MethodName) jdk_29_method_65_code (2 : Nat) (Option.some Jvm.ClassFile.FieldType.int)).before args0 about1 = true := code_word (m := ⟨33, 1⟩) (meth := k33m1) (c := k33c1) (by decide +kernel) rfl rfl rfl (by decide +kernel)
set_option maxRecDepth 65536 in
theorem w_c32 : (Jvm.Cond.code ({ cls := "java/util/ArrayList", name := "toArray", desc := "()[Ljava/lang/Object;" } : Jvm.MethodName) jdk_38_method_16_code (1 : Nat) (Option.some (Jvm.ClassFile.FieldType.array (Jvm.ClassFile.FieldType.object "java/lang/Object")))).before args0 about1 = true := code_word (m := ⟨11, 4⟩) (meth := k11m4) (c := k11c4) (by decide +kernel) rfl rfl rfl (by decide +kernel)
set_option maxRecDepth 65536 in
theorem w_c33 : (Jvm.Cond.code ({ cls := "java/util/Arrays", name := "copyOf", desc := "([Ljava/lang/Object;I)[Ljava/lang/Object;" } : Jvm.MethodName) jdk_65_method_119_code (2 : Nat) (Option.some (Jvm.ClassFile.FieldType.array (Jvm.ClassFile.FieldType.object "java/lang/Object")))).before args0 about1 = true := code_word (m := ⟨20, 2⟩) (meth := k20m2) (c := k20c2) (by decide +kernel) rfl rfl rfl (by decide +kernel)
set_option maxRecDepth 65536 in
theorem w_c34 : (Jvm.Cond.code ({ cls := "java/util/Arrays", name := "copyOf", desc := "([Ljava/lang/Object;ILjava/lang/Class;)[Ljava/lang/Object;" } : Jvm.MethodName) jdk_65_method_120_code (4 : Nat) (Option.some (Jvm.ClassFile.FieldType.array (Jvm.ClassFile.FieldType.object "java/lang/Object")))).before args0 about1 = true := code_word (m := ⟨20, 3⟩) (meth := k20m3) (c := k20c3) (by decide +kernel) rfl rfl rfl (by decide +kernel)
set_option maxRecDepth 65536 in
theorem w_c35 : (Jvm.Cond.code ({ cls := "java/lang/Math", name := "min", desc := "(II)I" } : Jvm.MethodName) jdk_29_method_69_code (2 : Nat) (Option.some Jvm.ClassFile.FieldType.int)).before args0 about1 = true := code_word (m := ⟨33, 2⟩) (meth := k33m2) (c := k33c2) (by decide +kernel) rfl rfl rfl (by decide +kernel)
set_option maxRecDepth 65536 in
theorem w_c36 : (Jvm.Cond.code ({ cls := "java/util/List", name := "of", desc := "([Ljava/lang/Object;)Ljava/util/List;" } : Jvm.MethodName) jdk_40_method_47_code (2 : Nat) (Option.some (Jvm.ClassFile.FieldType.object "java/util/List"))).before args0 about1 = true := code_word (m := ⟨6, 4⟩) (meth := k6m4) (c := k6c4) (by decide +kernel) rfl rfl rfl (by decide +kernel)
set_option maxRecDepth 65536 in
theorem w_c37 : (Jvm.Cond.code ({ cls := "java/util/ImmutableCollections", name := "listFromArray", desc := "([Ljava/lang/Object;)Ljava/util/List;" } : Jvm.MethodName) jdk_56_method_4_code (3 : Nat) (Option.some (Jvm.ClassFile.FieldType.object "java/util/List"))).before args0 about1 = true := code_word (m := ⟨14, 2⟩) (meth := k14m2) (c := k14c2) (by decide +kernel) rfl rfl rfl (by decide +kernel)
set_option maxRecDepth 65536 in
theorem w_c38 : (Jvm.Cond.code ({ cls := "java/util/ImmutableCollections$ListN", name := "<init>", desc := "([Ljava/lang/Object;Z)V" } : Jvm.MethodName) jdk_45_method_1_code (3 : Nat) (Option.none : Option Jvm.ClassFile.FieldType)).before args0 about1 = true := code_word (m := ⟨18, 0⟩) (meth := k18m0) (c := k18c0) (by decide +kernel) rfl rfl rfl (by decide +kernel)
set_option maxRecDepth 65536 in
theorem w_c39 : (Jvm.Cond.code ({ cls := "java/util/ImmutableCollections$AbstractImmutableList", name := "<init>", desc := "()V" } : Jvm.MethodName) jdk_46_method_1_code (1 : Nat) (Option.none : Option Jvm.ClassFile.FieldType)).before args0 about1 = true := code_word (m := ⟨16, 0⟩) (meth := k16m0) (c := k16c0) (by decide +kernel) rfl rfl rfl (by decide +kernel)
set_option maxRecDepth 65536 in
theorem w_c40 : (Jvm.Cond.code ({ cls := "java/util/ImmutableCollections$AbstractImmutableCollection", name := "<init>", desc := "()V" } : Jvm.MethodName) jdk_47_method_1_code (1 : Nat) (Option.none : Option Jvm.ClassFile.FieldType)).before args0 about1 = true := code_word (m := ⟨15, 0⟩) (meth := k15m0) (c := k15c0) (by decide +kernel) rfl rfl rfl (by decide +kernel)
set_option maxRecDepth 65536 in
theorem w_c41 : (Jvm.Cond.code ({ cls := "java/util/ImmutableCollections$ListN", name := "get", desc := "(I)Ljava/lang/Object;" } : Jvm.MethodName) jdk_45_method_4_code (2 : Nat) (Option.some (Jvm.ClassFile.FieldType.object "java/lang/Object"))).before args0 about1 = true := code_word (m := ⟨18, 2⟩) (meth := k18m2) (c := k18c2) (by decide +kernel) rfl rfl rfl (by decide +kernel)
set_option maxRecDepth 65536 in
theorem w_c42 : (Jvm.Cond.code ({ cls := "com/example/zellwerk/zellwerk/service/Holdings", name := "lambda$new$0", desc := "(Lcom/example/zellwerk/zellwerk/model/Area;)V" } : Jvm.MethodName) prog_48_method_12_code (2 : Nat) (Option.none : Option Jvm.ClassFile.FieldType)).before args0 about1 = true := code_word (m := ⟨19, 2⟩) (meth := k19m2) (c := k19c2) (by decide +kernel) rfl rfl rfl (by decide +kernel)
set_option maxRecDepth 65536 in
theorem w_c43 : (Jvm.Cond.code ({ cls := "java/util/ImmutableCollections$List12", name := "<init>", desc := "(Ljava/lang/Object;Ljava/lang/Object;)V" } : Jvm.MethodName) jdk_44_method_2_code (3 : Nat) (Option.none : Option Jvm.ClassFile.FieldType)).before args0 about1 = true := code_word (m := ⟨17, 1⟩) (meth := k17m1) (c := k17c1) (by decide +kernel) rfl rfl rfl (by decide +kernel)
set_option maxRecDepth 65536 in
theorem w_c44 : (Jvm.Cond.code ({ cls := "java/util/ImmutableCollections$List12", name := "size", desc := "()I" } : Jvm.MethodName) jdk_44_method_3_code (1 : Nat) (Option.some Jvm.ClassFile.FieldType.int)).before args0 about1 = true := code_word (m := ⟨17, 2⟩) (meth := k17m2) (c := k17c2) (by decide +kernel) rfl rfl rfl (by decide +kernel)
set_option maxRecDepth 65536 in
theorem w_c45 : (Jvm.Cond.code ({ cls := "java/util/ImmutableCollections$List12", name := "get", desc := "(I)Ljava/lang/Object;" } : Jvm.MethodName) jdk_44_method_5_code (2 : Nat) (Option.some (Jvm.ClassFile.FieldType.object "java/lang/Object"))).before args0 about1 = true := code_word (m := ⟨17, 3⟩) (meth := k17m3) (c := k17c3) (by decide +kernel) rfl rfl rfl (by decide +kernel)
set_option maxRecDepth 65536 in
theorem w_c46 : (Jvm.Cond.code ({ cls := "java/util/ImmutableCollections$List12", name := "<init>", desc := "(Ljava/lang/Object;)V" } : Jvm.MethodName) jdk_44_method_1_code (2 : Nat) (Option.none : Option Jvm.ClassFile.FieldType)).before args0 about1 = true := code_word (m := ⟨17, 0⟩) (meth := k17m0) (c := k17c0) (by decide +kernel) rfl rfl rfl (by decide +kernel)
def codes1 : List Jvm.Cond := [Jvm.Cond.code x code maxLocals ret, Jvm.Cond.code ({ cls := "java/util/ArrayList", name := "<init>", desc := "()V" } : Jvm.MethodName) jdk_38_method_2_code (1 : Nat) (Option.none : Option Jvm.ClassFile.FieldType), Jvm.Cond.code ({ cls := "java/util/AbstractList", name := "<init>", desc := "()V" } : Jvm.MethodName) jdk_39_method_1_code (1 : Nat) (Option.none : Option Jvm.ClassFile.FieldType), Jvm.Cond.code ({ cls := "java/util/AbstractCollection", name := "<init>", desc := "()V" } : Jvm.MethodName) jdk_22_method_1_code (1 : Nat) (Option.none : Option Jvm.ClassFile.FieldType), Jvm.Cond.code ({ cls := "java/lang/Object", name := "<init>", desc := "()V" } : Jvm.MethodName) object_method_1_code (1 : Nat) (Option.none : Option Jvm.ClassFile.FieldType), Jvm.Cond.code ({ cls := "com/example/zellwerk/zellwerk/model/Cell", name := "<init>", desc := "(DLjava/util/List;Ljava/util/List;Ljava/util/List;)V" } : Jvm.MethodName) prog_24_method_2_code (6 : Nat) (Option.none : Option Jvm.ClassFile.FieldType), Jvm.Cond.code ({ cls := "java/util/List", name := "of", desc := "()Ljava/util/List;" } : Jvm.MethodName) jdk_40_method_36_code (0 : Nat) (Option.some (Jvm.ClassFile.FieldType.object "java/util/List")), Jvm.Cond.code ({ cls := "com/example/zellwerk/zellwerk/model/Cell", name := "<init>", desc := "(DLjava/util/List;Ljava/util/List;Ljava/util/List;DLjava/util/List;Ljava/util/List;)V" } : Jvm.MethodName) prog_24_method_1_code (10 : Nat) (Option.none : Option Jvm.ClassFile.FieldType), Jvm.Cond.code ({ cls := "java/lang/Record", name := "<init>", desc := "()V" } : Jvm.MethodName) jdk_30_method_1_code (1 : Nat) (Option.none : Option Jvm.ClassFile.FieldType), Jvm.Cond.code ({ cls := "java/util/List", name := "copyOf", desc := "(Ljava/util/Collection;)Ljava/util/List;" } : Jvm.MethodName) jdk_40_method_48_code (1 : Nat) (Option.some (Jvm.ClassFile.FieldType.object "java/util/List")), Jvm.Cond.code ({ cls := "java/util/ImmutableCollections", name := "listCopy", desc := "(Ljava/util/Collection;)Ljava/util/List;" } : Jvm.MethodName) jdk_56_method_3_code (2 : Nat) (Option.some (Jvm.ClassFile.FieldType.object "java/util/List")), Jvm.Cond.code ({ cls := "java/util/ArrayList", name := "isEmpty", desc := "()Z" } : Jvm.MethodName) jdk_38_method_9_code (1 : Nat) (Option.some Jvm.ClassFile.FieldType.boolean), Jvm.Cond.code ({ cls := "com/example/zellwerk/zellwerk/service/Holdings", name := "<init>", desc := "(Lcom/example/zellwerk/zellwerk/model/Cell;)V" } : Jvm.MethodName) prog_48_method_1_code (2 : Nat) (Option.none : Option Jvm.ClassFile.FieldType), Jvm.Cond.code ({ cls := "com/example/zellwerk/zellwerk/model/Cell", name := "areas", desc := "()Ljava/util/List;" } : Jvm.MethodName) prog_24_method_13_code (1 : Nat) (Option.some (Jvm.ClassFile.FieldType.object "java/util/List")), Jvm.Cond.code ({ cls := "java/util/ImmutableCollections$ListN", name := "size", desc := "()I" } : Jvm.MethodName) jdk_45_method_3_code (1 : Nat) (Option.some Jvm.ClassFile.FieldType.int), Jvm.Cond.code ({ cls := "java/util/Arrays", name := "fill", desc := "([II)V" } : Jvm.MethodName) jdk_65_method_103_code (4 : Nat) (Option.none : Option Jvm.ClassFile.FieldType), Jvm.Cond.code ({ cls := "java/lang/Iterable", name := "forEach", desc := "(Ljava/util/function/Consumer;)V" } : Jvm.MethodName) jdk_27_method_2_code (4 : Nat) (Option.none : Option Jvm.ClassFile.FieldType), Jvm.Cond.code ({ cls := "java/util/Objects", name := "requireNonNull", desc := "(Ljava/lang/Object;)Ljava/lang/Object;" } : Jvm.MethodName) jdk_31_method_10_code (1 : Nat) (Option.some (Jvm.ClassFile.FieldType.object "java/lang/Object")), Jvm.Cond.code ({ cls := "java/util/ImmutableCollections$AbstractImmutableList", name := "iterator", desc := "()Ljava/util/Iterator;" } : Jvm.MethodName) jdk_46_method_10_code (1 : Nat) (Option.some (Jvm.ClassFile.FieldType.object "java/util/Iterator")), Jvm.Cond.code ({ cls := "java/util/ImmutableCollections$ListItr", name := "<init>", desc := "(Ljava/util/List;I)V" } : Jvm.MethodName) jdk_53_method_1_code (3 : Nat) (Option.none : Option Jvm.ClassFile.FieldType), Jvm.Cond.code ({ cls := "java/util/ImmutableCollections$ListItr", name := "hasNext", desc := "()Z" } : Jvm.MethodName) jdk_53_method_3_code (1 : Nat) (Option.some Jvm.ClassFile.FieldType.boolean), Jvm.Cond.code ({ cls := "com/example/zellwerk/zellwerk/service/Holdings", name := "any", desc := "()Z" } : Jvm.MethodName) prog_48_method_2_code (1 : Nat) (Option.some Jvm.ClassFile.FieldType.boolean), Jvm.Cond.code ({ cls := "java/lang/String", name := "valueOf", desc := "(C)Ljava/lang/String;" } : Jvm.MethodName) jdk_42_method_139_code (1 : Nat) (Option.some (Jvm.ClassFile.FieldType.object "java/lang/String")), Jvm.Cond.code ({ cls := "java/lang/StringLatin1", name := "canEncode", desc := "(C)Z" } : Jvm.MethodName) jdk_43_method_3_code (1 : Nat) (Option.some Jvm.ClassFile.FieldType.boolean), Jvm.Cond.code ({ cls := "java/lang/StringLatin1", name := "toBytes", desc := "(C)[B" } : Jvm.MethodName) jdk_43_method_46_code (1 : Nat) (Option.some (Jvm.ClassFile.FieldType.array Jvm.ClassFile.FieldType.byte)), Jvm.Cond.code ({ cls := "java/lang/String", name := "<init>", desc := "([BB)V" } : Jvm.MethodName) jdk_42_method_151_code (3 : Nat) (Option.none : Option Jvm.ClassFile.FieldType), Jvm.Cond.code ({ cls := "com/example/zellwerk/zellwerk/model/Area", name := "<init>", desc := "(Ljava/lang/String;DDDDLjava/util/Optional;)V" } : Jvm.MethodName) prog_17_method_1_code (11 : Nat) (Option.none : Option Jvm.ClassFile.FieldType), Jvm.Cond.code ({ cls := "java/util/ArrayList", name := "add", desc := "(Ljava/lang/Object;)Z" } : Jvm.MethodName) jdk_38_method_25_code (2 : Nat) (Option.some Jvm.ClassFile.FieldType.boolean), Jvm.Cond.code ({ cls := "java/util/ArrayList", name := "add", desc := "(Ljava/lang/Object;[Ljava/lang/Object;I)V" } : Jvm.MethodName) jdk_38_method_24_code (4 : Nat) (Option.none : Option Jvm.ClassFile.FieldType), Jvm.Cond.code ({ cls := "java/util/ArrayList", name := "grow", desc := "()[Ljava/lang/Object;" } : Jvm.MethodName) jdk_38_method_7_code (1 : Nat) (Option.some (Jvm.ClassFile.FieldType.array (Jvm.ClassFile.FieldType.object "java/lang/Object"))), Jvm.Cond.code ({ cls := "java/util/ArrayList", name := "grow", desc := "(I)[Ljava/lang/Object;" } : Jvm.MethodName) jdk_38_method_6_code (4 : Nat) (Option.some (Jvm.ClassFile.FieldType.array (Jvm.ClassFile.FieldType.object "java/lang/Object"))), Jvm.Cond.code ({ cls := "java/lang/Math", name := "max", desc := "(II)I" } : Jvm.MethodName) jdk_29_method_65_code (2 : Nat) (Option.some Jvm.ClassFile.FieldType.int), Jvm.Cond.code ({ cls := "java/util/ArrayList", name := "toArray", desc := "()[Ljava/lang/Object;" } : Jvm.MethodName) jdk_38_method_16_code (1 : Nat) (Option.some (Jvm.ClassFile.FieldType.array (Jvm.ClassFile.FieldType.object "java/lang/Object"))), Jvm.Cond.code ({ cls := "java/util/Arrays", name := "copyOf", desc := "([Ljava/lang/Object;I)[Ljava/lang/Object;" } : Jvm.MethodName) jdk_65_method_119_code (2 : Nat) (Option.some (Jvm.ClassFile.FieldType.array (Jvm.ClassFile.FieldType.object "java/lang/Object"))), Jvm.Cond.code ({ cls := "java/util/Arrays", name := "copyOf", desc := "([Ljava/lang/Object;ILjava/lang/Class;)[Ljava/lang/Object;" } : Jvm.MethodName) jdk_65_method_120_code (4 : Nat) (Option.some (Jvm.ClassFile.FieldType.array (Jvm.ClassFile.FieldType.object "java/lang/Object"))), Jvm.Cond.code ({ cls := "java/lang/Math", name := "min", desc := "(II)I" } : Jvm.MethodName) jdk_29_method_69_code (2 : Nat) (Option.some Jvm.ClassFile.FieldType.int), Jvm.Cond.code ({ cls := "java/util/List", name := "of", desc := "([Ljava/lang/Object;)Ljava/util/List;" } : Jvm.MethodName) jdk_40_method_47_code (2 : Nat) (Option.some (Jvm.ClassFile.FieldType.object "java/util/List")), Jvm.Cond.code ({ cls := "java/util/ImmutableCollections", name := "listFromArray", desc := "([Ljava/lang/Object;)Ljava/util/List;" } : Jvm.MethodName) jdk_56_method_4_code (3 : Nat) (Option.some (Jvm.ClassFile.FieldType.object "java/util/List")), Jvm.Cond.code ({ cls := "java/util/ImmutableCollections$ListN", name := "<init>", desc := "([Ljava/lang/Object;Z)V" } : Jvm.MethodName) jdk_45_method_1_code (3 : Nat) (Option.none : Option Jvm.ClassFile.FieldType), Jvm.Cond.code ({ cls := "java/util/ImmutableCollections$AbstractImmutableList", name := "<init>", desc := "()V" } : Jvm.MethodName) jdk_46_method_1_code (1 : Nat) (Option.none : Option Jvm.ClassFile.FieldType), Jvm.Cond.code ({ cls := "java/util/ImmutableCollections$AbstractImmutableCollection", name := "<init>", desc := "()V" } : Jvm.MethodName) jdk_47_method_1_code (1 : Nat) (Option.none : Option Jvm.ClassFile.FieldType), Jvm.Cond.code ({ cls := "java/util/ImmutableCollections$ListN", name := "get", desc := "(I)Ljava/lang/Object;" } : Jvm.MethodName) jdk_45_method_4_code (2 : Nat) (Option.some (Jvm.ClassFile.FieldType.object "java/lang/Object")), Jvm.Cond.code ({ cls := "com/example/zellwerk/zellwerk/service/Holdings", name := "lambda$new$0", desc := "(Lcom/example/zellwerk/zellwerk/model/Area;)V" } : Jvm.MethodName) prog_48_method_12_code (2 : Nat) (Option.none : Option Jvm.ClassFile.FieldType), Jvm.Cond.code ({ cls := "java/util/ImmutableCollections$List12", name := "<init>", desc := "(Ljava/lang/Object;Ljava/lang/Object;)V" } : Jvm.MethodName) jdk_44_method_2_code (3 : Nat) (Option.none : Option Jvm.ClassFile.FieldType), Jvm.Cond.code ({ cls := "java/util/ImmutableCollections$List12", name := "size", desc := "()I" } : Jvm.MethodName) jdk_44_method_3_code (1 : Nat) (Option.some Jvm.ClassFile.FieldType.int), Jvm.Cond.code ({ cls := "java/util/ImmutableCollections$List12", name := "get", desc := "(I)Ljava/lang/Object;" } : Jvm.MethodName) jdk_44_method_5_code (2 : Nat) (Option.some (Jvm.ClassFile.FieldType.object "java/lang/Object")), Jvm.Cond.code ({ cls := "java/util/ImmutableCollections$List12", name := "<init>", desc := "(Ljava/lang/Object;)V" } : Jvm.MethodName) jdk_44_method_1_code (2 : Nat) (Option.none : Option Jvm.ClassFile.FieldType)]
set_option maxRecDepth 65536 in
theorem codes_eq : words1.filter isCode = codes1 := rfl
theorem w_codes : ∀ c ∈ words1.filter isCode, c.before args0 about1 = true := by
  rw [codes_eq]
  intro c hc
  simp only [codes1, List.mem_cons, List.not_mem_nil, or_false] at hc
  rcases hc with rfl | rfl | rfl | rfl | rfl | rfl | rfl | rfl | rfl | rfl | rfl | rfl | rfl | rfl | rfl | rfl | rfl | rfl | rfl | rfl | rfl | rfl | rfl | rfl | rfl | rfl | rfl | rfl | rfl | rfl | rfl | rfl | rfl | rfl | rfl | rfl | rfl | rfl | rfl | rfl | rfl | rfl | rfl | rfl | rfl | rfl | rfl
  · exact w_c0
  · exact w_c1
  · exact w_c2
  · exact w_c3
  · exact w_c4
  · exact w_c5
  · exact w_c6
  · exact w_c7
  · exact w_c8
  · exact w_c9
  · exact w_c10
  · exact w_c11
  · exact w_c12
  · exact w_c13
  · exact w_c14
  · exact w_c15
  · exact w_c16
  · exact w_c17
  · exact w_c18
  · exact w_c19
  · exact w_c20
  · exact w_c21
  · exact w_c22
  · exact w_c23
  · exact w_c24
  · exact w_c25
  · exact w_c26
  · exact w_c27
  · exact w_c28
  · exact w_c29
  · exact w_c30
  · exact w_c31
  · exact w_c32
  · exact w_c33
  · exact w_c34
  · exact w_c35
  · exact w_c36
  · exact w_c37
  · exact w_c38
  · exact w_c39
  · exact w_c40
  · exact w_c41
  · exact w_c42
  · exact w_c43
  · exact w_c44
  · exact w_c45
  · exact w_c46
set_option maxRecDepth 65536 in
theorem w_t1 : (words1.take 24).all (fun c => isCode c || c.before args0 about1) = true := by decide +kernel
set_option maxRecDepth 65536 in
theorem w_t2 : ((words1.drop 24).take 24).all (fun c => isCode c || c.before args0 about1) = true := by decide +kernel
set_option maxRecDepth 65536 in
theorem w_t3 : (((words1.drop 24).drop 24).take 24).all (fun c => isCode c || c.before args0 about1) = true := by decide +kernel
set_option maxRecDepth 65536 in
theorem w_t4 : ((((words1.drop 24).drop 24).drop 24).take 24).all (fun c => isCode c || c.before args0 about1) = true := by decide +kernel
set_option maxRecDepth 65536 in
theorem w_t5 : (((((words1.drop 24).drop 24).drop 24).drop 24).take 24).all (fun c => isCode c || c.before args0 about1) = true := by decide +kernel
set_option maxRecDepth 65536 in
theorem w_t6 : ((((((words1.drop 24).drop 24).drop 24).drop 24).drop 24).take 24).all (fun c => isCode c || c.before args0 about1) = true := by decide +kernel
set_option maxRecDepth 65536 in
theorem w_t7 : (((((((words1.drop 24).drop 24).drop 24).drop 24).drop 24).drop 24).take 24).all (fun c => isCode c || c.before args0 about1) = true := by decide +kernel
set_option maxRecDepth 65536 in
theorem w_t8 : ((((((((words1.drop 24).drop 24).drop 24).drop 24).drop 24).drop 24).drop 24).take 24).all (fun c => isCode c || c.before args0 about1) = true := by decide +kernel
set_option maxRecDepth 65536 in
theorem w_t9 : (((((((((words1.drop 24).drop 24).drop 24).drop 24).drop 24).drop 24).drop 24).drop 24).take 24).all (fun c => isCode c || c.before args0 about1) = true := by decide +kernel
set_option maxRecDepth 65536 in
theorem w_t10 : ((((((((((words1.drop 24).drop 24).drop 24).drop 24).drop 24).drop 24).drop 24).drop 24).drop 24).take 24).all (fun c => isCode c || c.before args0 about1) = true := by decide +kernel
set_option maxRecDepth 65536 in
theorem w_t11 : (((((((((((words1.drop 24).drop 24).drop 24).drop 24).drop 24).drop 24).drop 24).drop 24).drop 24).drop 24).take 24).all (fun c => isCode c || c.before args0 about1) = true := by decide +kernel
set_option maxRecDepth 65536 in
theorem w_t12 : ((((((((((((words1.drop 24).drop 24).drop 24).drop 24).drop 24).drop 24).drop 24).drop 24).drop 24).drop 24).drop 24).take 24).all (fun c => isCode c || c.before args0 about1) = true := by decide +kernel
set_option maxRecDepth 65536 in
theorem w_t13 : (((((((((((((words1.drop 24).drop 24).drop 24).drop 24).drop 24).drop 24).drop 24).drop 24).drop 24).drop 24).drop 24).drop 24).take 24).all (fun c => isCode c || c.before args0 about1) = true := by decide +kernel
set_option maxRecDepth 65536 in
theorem w_t14 : ((((((((((((((words1.drop 24).drop 24).drop 24).drop 24).drop 24).drop 24).drop 24).drop 24).drop 24).drop 24).drop 24).drop 24).drop 24).take 24).all (fun c => isCode c || c.before args0 about1) = true := by decide +kernel
set_option maxRecDepth 65536 in
theorem w_t15 : (((((((((((((((words1.drop 24).drop 24).drop 24).drop 24).drop 24).drop 24).drop 24).drop 24).drop 24).drop 24).drop 24).drop 24).drop 24).drop 24).take 24).all (fun c => isCode c || c.before args0 about1) = true := by decide +kernel
set_option maxRecDepth 65536 in
theorem w_t16 : ((((((((((((((((words1.drop 24).drop 24).drop 24).drop 24).drop 24).drop 24).drop 24).drop 24).drop 24).drop 24).drop 24).drop 24).drop 24).drop 24).drop 24).take 24).all (fun c => isCode c || c.before args0 about1) = true := by decide +kernel
set_option maxRecDepth 65536 in
theorem w_t17 : ((((((((((((((((words1.drop 24).drop 24).drop 24).drop 24).drop 24).drop 24).drop 24).drop 24).drop 24).drop 24).drop 24).drop 24).drop 24).drop 24).drop 24).drop 24).all (fun c => isCode c || c.before args0 about1) = true := by decide +kernel
theorem w_tables : (allAtoms (Jvm.Cond.code x code maxLocals ret :: tables_1)).before args0 about1 = true := by
  rw [allAtoms_all]
  show words1.all (fun c => c.before args0 about1) = true
  refine all_split ?_ w_codes
  rw [← List.take_append_drop 24 words1, List.all_append, w_t1, ← List.take_append_drop 24 (words1.drop 24), List.all_append, w_t2, ← List.take_append_drop 24 ((words1.drop 24).drop 24), List.all_append, w_t3, ← List.take_append_drop 24 (((words1.drop 24).drop 24).drop 24), List.all_append, w_t4, ← List.take_append_drop 24 ((((words1.drop 24).drop 24).drop 24).drop 24), List.all_append, w_t5, ← List.take_append_drop 24 (((((words1.drop 24).drop 24).drop 24).drop 24).drop 24), List.all_append, w_t6, ← List.take_append_drop 24 ((((((words1.drop 24).drop 24).drop 24).drop 24).drop 24).drop 24), List.all_append, w_t7, ← List.take_append_drop 24 (((((((words1.drop 24).drop 24).drop 24).drop 24).drop 24).drop 24).drop 24), List.all_append, w_t8, ← List.take_append_drop 24 ((((((((words1.drop 24).drop 24).drop 24).drop 24).drop 24).drop 24).drop 24).drop 24), List.all_append, w_t9, ← List.take_append_drop 24 (((((((((words1.drop 24).drop 24).drop 24).drop 24).drop 24).drop 24).drop 24).drop 24).drop 24), List.all_append, w_t10, ← List.take_append_drop 24 ((((((((((words1.drop 24).drop 24).drop 24).drop 24).drop 24).drop 24).drop 24).drop 24).drop 24).drop 24), List.all_append, w_t11, ← List.take_append_drop 24 (((((((((((words1.drop 24).drop 24).drop 24).drop 24).drop 24).drop 24).drop 24).drop 24).drop 24).drop 24).drop 24), List.all_append, w_t12, ← List.take_append_drop 24 ((((((((((((words1.drop 24).drop 24).drop 24).drop 24).drop 24).drop 24).drop 24).drop 24).drop 24).drop 24).drop 24).drop 24), List.all_append, w_t13, ← List.take_append_drop 24 (((((((((((((words1.drop 24).drop 24).drop 24).drop 24).drop 24).drop 24).drop 24).drop 24).drop 24).drop 24).drop 24).drop 24).drop 24), List.all_append, w_t14, ← List.take_append_drop 24 ((((((((((((((words1.drop 24).drop 24).drop 24).drop 24).drop 24).drop 24).drop 24).drop 24).drop 24).drop 24).drop 24).drop 24).drop 24).drop 24), List.all_append, w_t15, ← List.take_append_drop 24 (((((((((((((((words1.drop 24).drop 24).drop 24).drop 24).drop 24).drop 24).drop 24).drop 24).drop 24).drop 24).drop 24).drop 24).drop 24).drop 24).drop 24), List.all_append, w_t16, w_t17]
  rfl
set_option maxRecDepth 65536 in
theorem w_rest : rest_1_c.before args0 about1 = true := by decide +kernel
set_option maxRecDepth 65536 in
theorem w_case : (Jvm.Cond.and given_1 narrow_1).before args0 about1 = true := by decide +kernel
theorem w_applies : (headSpec (Jvm.Cond.code x code maxLocals ret :: tables_1) room_1).applies x e0.platform about1 = true :=
  (Spec.applies_iff w_frames).mpr ⟨w_running, w_runnable, w_alone, w_named, w_hears, w_ripe, w_room, w_tables⟩
theorem atStart : AtStart classFile x code maxLocals ret World_1 tables_1 room_1 Calls_1 rest_1 Pre_1 launch0 p0 e0 about1 theMethod args0 below0 :=
  ⟨lists_1, trivial, launch0.admits_env _ _ _, launch0.least_env, fairChoices_fair.cas, fairChoices_fair.clock, w_frames, w_args, w_heap, w_applies, ⟨⟨43, k43, 4, by decide +kernel, rfl, rfl, _, rfl, rfl⟩, trivial⟩, w_rest, w_case⟩
end start1
theorem witness_1 : WitnessClaimed_1 := ⟨start1.p0, start1.e0, start1.about1, start1.theMethod, start1.args0, start1.below0, start1.atStart⟩
end Jvm.Pilot.@@N@@
