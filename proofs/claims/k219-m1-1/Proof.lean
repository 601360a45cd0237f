import JvmDerived
import JvmDerived.Pilot.@@N@@Statement
import JvmDerived.Pilot.@@N@@Code
set_option linter.unusedVariables false
set_option linter.unusedSimpArgs false
set_option maxRecDepth 65536
set_option maxHeartbeats 20000000
namespace Jvm.Pilot.@@N@@
open Jvm Jvm.ClassFile Sem Op Lib Jvm.Free Jvm.Stand Jvm.LawKit Jvm.RoadKit Bundle Jvm.Pilot.@@N@@.Jvm.D
section OwnKit
variable {p : Program} {l : Launch} {e : Env} {R : Room} {s : State} {m : MethodId} {args : Array Value} {below : List Frame} {meth : Method} {c : Code} {T : State} {locs : List Loc} {cells slots : Nat} {Z : State} {a0 : Array Value} {h0 : Heap}
/-- from this state the run comes to the end of the invocation, and there P holds -/
def own_G (p : Program) (e : Env) (below : List Frame) (P : Outcome → State → Prop) (st : State) : Prop :=
  ∃ (u : State) (o : Outcome), Steps p.tables e below st u ∧ u.status = .running ∧ Ended u below o ∧ P o u
theorem own_via {P : Outcome → State → Prop} {st st' : State} (k : ∀ t, Steps p.tables e below st' t → Steps p.tables e below st t) (h : own_G p e below P st') : own_G p e below P st := by
  obtain ⟨u, o, h1, h2⟩ := h
  exact ⟨u, o, k _ h1, h2⟩
/-- what a contract says of the end -/
def own_P (s : State) (Q : Option Value → Heap → List Loc → Prop) (k n : Nat) : Outcome → State → Prop := fun o u => ∃ v L, o = .returned v ∧ Q v u.heap L ∧ FrameEnd s o u L k n
/-- it returns w and leaves the heap as it was -/
def own_Q (w : Value) (h0 : Heap) : Option Value → Heap → List Loc → Prop := fun v h L => v = some w ∧ L = [] ∧ h = h0
/-- a contract -/
def own_C (l : Launch) (Z : State) (y : MethodName) (bytes : ByteArray) (maxL : Nat) (ret : Option FieldType) (ws : List Jvm.Cond) (rm : Room) (as : Array Value) (h0 : Heap) (Q : Option Value → Heap → List Loc → Prop) : Prop :=
  MetFree l y (head1 (Jvm.Cond.code y bytes maxL ret :: ws) rm) (fun a U => a = as ∧ Z.Warmed39 U.vm ∧ U.heap = h0) (fun _ _ _ _ _ => True) (fun _ U o U' => ∃ v L, o = .returned v ∧ Q v U'.heap L ∧ FrameEnd U o U' L rm.cells rm.slots)
theorem own_ret {v : Option Value} {Q : Option Value → Heap → List Loc → Prop} {k n : Nat} {st : State} (X : Stand p l e R s m args below meth c T locs cells slots) (hv : meth.sig.returnType = none → v = none) (hlocks : meth.locks = false)
    (hst : ∀ fs, (∀ (f : JFrame) (acts : List Action), f.method = m → f.locked = none → f.entered = [] → (doReturn e (T.setTop f) acts v).1 = T.setFrames fs) → Steps p.tables e below st (T.setFrames fs))
    (hQ : Q v T.heap locs) (hk : cells ≤ k) (hn : slots ≤ n) : own_G p e below (own_P s Q k n) st := by
  obtain ⟨fs, hr, hrun, hended, hW, hsame⟩ := X.leave (v := v) hv hlocks
  exact ⟨_, _, hst fs hr, hrun, hended, _, _, rfl, hQ, ⟨_, rfl⟩, hW, hsame.mono hk hn⟩
theorem own_retI {Q : Option Value → Heap → List Loc → Prop} {k n : Nat} (X : Stand p l e R s m args below meth c T locs cells slots) (hx : p.tables.exec = Jvm.exec) {pc : Nat} {Ls : Array Slot} {z : Int32} {rest : List Value} (hret : meth.sig.returnType = some .int) (hlocks : meth.locks = false) (hd : decode c.code pc = .ok (.ireturn, 1))
    (hQ : Q (some (.int z)) T.heap locs) (hk : cells ≤ k) (hn : slots ≤ n) : own_G p e below (own_P s Q k n) (T.setTop (mkF m pc Ls (.int z :: rest))) := by
  refine own_ret X (fun h => by rw [hret] at h; cases h) hlocks (fun fs hr => ?_) hQ hk hn
  have hm' : T.vm.method? m = some meth := X.method'
  have hn : narrow .int (.int z) = .int z := rfl
  show Steps p.tables e below (T.setTop { method := m, pc := pc, locals := Ls, stack := _ :: rest, locked := none }) _
  jvm_step X.here [X.here.top, hx, hd, hm', hret, hn]
  first | (intro acts; rw [hr _ acts rfl rfl rfl]) | rw [hr _ _ rfl rfl rfl]
  exact Steps.refl _
theorem own_retN {Q : Option Value → Heap → List Loc → Prop} {k n : Nat} {t : FieldType} (X : Stand p l e R s m args below meth c T locs cells slots) (hx : p.tables.exec = Jvm.exec) {pc : Nat} {Ls : Array Slot} {z : Int32} {rest : List Value} (hret : meth.sig.returnType = some t) (ht : t = .boolean ∨ t = .byte ∨ t = .char ∨ t = .short) (hlocks : meth.locks = false) (hd : decode c.code pc = .ok (.ireturn, 1))
    (hQ : Q (some (.int (nar t z))) T.heap locs) (hk : cells ≤ k) (hn : slots ≤ n) : own_G p e below (own_P s Q k n) (T.setTop (mkF m pc Ls (.int z :: rest))) :=
  own_ret X (fun h => by rw [hret] at h; cases h) hlocks (fun fs hr => retN X hx hret ht hd hr) hQ hk hn
theorem own_retV {Q : Option Value → Heap → List Loc → Prop} {k n : Nat} (X : Stand p l e R s m args below meth c T locs cells slots) (hx : p.tables.exec = Jvm.exec) {pc : Nat} {Ls : Array Slot} (hret : meth.sig.returnType = none) (hlocks : meth.locks = false) (hd : decode c.code pc = .ok (.return_, 1))
    (hQ : Q none T.heap locs) (hk : cells ≤ k) (hn : slots ≤ n) : own_G p e below (own_P s Q k n) (T.setTop (mkF m pc Ls [])) :=
  own_ret X (fun _ => rfl) hlocks (fun fs hr => X.returnOut hx hret hd hr) hQ hk hn
theorem own_retA {Q : Option Value → Heap → List Loc → Prop} {k n : Nat} {t : FieldType} {v : Value} (X : Stand p l e R s m args below meth c T locs cells slots) (hx : p.tables.exec = Jvm.exec) {pc : Nat} {Ls : Array Slot} {rest : List Value} (hret : meth.sig.returnType = some t) (ht : t.isReference = true) (hv : v.isRef = true) (hlocks : meth.locks = false) (hd : decode c.code pc = .ok (.areturn, 1))
    (hQ : Q (some v) T.heap locs) (hk : cells ≤ k) (hn : slots ≤ n) : own_G p e below (own_P s Q k n) (T.setTop (mkF m pc Ls (v :: rest))) := by
  refine own_ret X (fun h => by rw [hret] at h; cases h) hlocks (fun fs hr => ?_) hQ hk hn
  have hm' : T.vm.method? m = some meth := X.method'
  show Steps p.tables e below (T.setTop { method := m, pc := pc, locals := Ls, stack := _ :: rest, locked := none }) _
  jvm_step X.here [X.here.top, hx, hd, hm', hret, ht, hv]
  first | (intro acts; rw [hr _ acts rfl rfl rfl]) | rw [hr _ _ rfl rfl rfl]
  exact Steps.refl _
/-- a static method by its contract -/
theorem own_callS {own : String} {index : Nat} {y : MethodName} {bytes : ByteArray} {maxL W : Nat} {ret : Option FieldType} {rm : Room} {as : Array Value} {Q : Option Value → Heap → List Loc → Prop}
    (X : Stand p l e R s m args below meth c T locs cells slots) (hx : p.tables.exec = Jvm.exec) (hZ : Z.Warmed39 s.vm) (hown : s.vm.findClass own = some m.cls)
    (w1 : (Jvm.Cond.methodLink own index y).before a0 Z = true) (w2 : (Jvm.Cond.static y).before a0 Z = true) (w3 : (Jvm.Cond.initialized y.cls).before a0 Z = true) (w4 : (Jvm.Cond.code y bytes maxL ret).before a0 Z = true)
    (hy : y.cls ≠ "java/lang/invoke/MethodHandle" ∧ y.cls ≠ "java/lang/invoke/VarHandle") (hM : own_C l Z y bytes maxL ret [] rm as h0 Q)
    (hf : rm.frames + 1 ≤ R.frames) (hl : W + (maxL + 11) + rm.locals ≤ R.locals) (hcc : cells + rm.cells ≤ R.cells) (hss : slots + rm.slots ≤ R.slots) (e0 : T.heap = h0)
    {pc : Nat} {Ls : Array Slot} {st argsL rest : List Value} (hsize : Ls.size = c.maxLocals) (hlen : ∀ sig, parseMethodDescriptor y.desc = some sig → argsL.length = sig.parameters.length) (has : argsL.toArray = as)
    (hst : st = argsL.reverse ++ rest) (hW : 2 * 0 + (rest.map fun v => v.category).sum ≤ W) (hd : decode c.code pc = .ok (.invokestatic index, 3)) :
    ∃ (v : Option Value) (T' : State) (L : List Loc), Stand p l e R s m args below meth c T' (locs ++ L) (cells + rm.cells) (slots + rm.slots) ∧ Q v T'.heap L ∧
      ∀ target, Steps p.tables e below (T'.setTop (mkF m (pc + 3) Ls (v.toList ++ rest))) target → Steps p.tables e below (T.setTop (mkF m pc Ls st)) target := by
  obtain ⟨v, _, ⟨T', L', k', n'⟩, -, X', ⟨Lc, hQ, h1, h2, h3⟩, stp⟩ := Jvm.LawKit.callS X hx (y := y) hown (mvT hZ w1) (mvT hZ w2) (mvT hZ w3) (mvT hZ w4) hy
    (backOf (W := W) hM hZ w4 w3 hf hl) (g := mkF m pc Ls st) rfl hsize (argsL := argsL) (rest := rest) hlen hst hW hd (fun _ _ => ⟨has, e0, hcc, hss⟩)
  dsimp only [Pt.U, Pt.locs, Pt.cells, Pt.slots] at X' h1 h2 h3 stp hQ
  subst h1 h2 h3
  exact ⟨v, T', Lc, X', hQ, stp⟩
/-- a static method that leaves the heap as it was -/
theorem own_callP {own : String} {index : Nat} {y : MethodName} {bytes : ByteArray} {maxL W : Nat} {ret : Option FieldType} {rm : Room} {as : Array Value} {w : Value}
    (X : Stand p l e R s m args below meth c T locs cells slots) (hx : p.tables.exec = Jvm.exec) (hZ : Z.Warmed39 s.vm) (hown : s.vm.findClass own = some m.cls)
    (w1 : (Jvm.Cond.methodLink own index y).before a0 Z = true) (w2 : (Jvm.Cond.static y).before a0 Z = true) (w3 : (Jvm.Cond.initialized y.cls).before a0 Z = true) (w4 : (Jvm.Cond.code y bytes maxL ret).before a0 Z = true)
    (hy : y.cls ≠ "java/lang/invoke/MethodHandle" ∧ y.cls ≠ "java/lang/invoke/VarHandle") (hM : own_C l Z y bytes maxL ret [] rm as h0 (own_Q w h0))
    (hf : rm.frames + 1 ≤ R.frames) (hl : W + (maxL + 11) + rm.locals ≤ R.locals) (hrc : rm.cells = 0) (hrs : rm.slots = 0) (hcc : cells + rm.cells ≤ R.cells) (hss : slots + rm.slots ≤ R.slots) (e0 : T.heap = h0)
    {pc : Nat} {Ls : Array Slot} {st argsL rest : List Value} (hsize : Ls.size = c.maxLocals) (hlen : ∀ sig, parseMethodDescriptor y.desc = some sig → argsL.length = sig.parameters.length) (has : argsL.toArray = as)
    (hst : st = argsL.reverse ++ rest) (hW : 2 * 0 + (rest.map fun v => v.category).sum ≤ W) (hd : decode c.code pc = .ok (.invokestatic index, 3)) :
    ∃ (T' : State), Stand p l e R s m args below meth c T' locs cells slots ∧ T'.heap = h0 ∧
      ∀ target, Steps p.tables e below (T'.setTop (mkF m (pc + 3) Ls (w :: rest))) target → Steps p.tables e below (T.setTop (mkF m pc Ls st)) target := by
  obtain ⟨v, T', L, X', ⟨rfl, rfl, hh⟩, stp⟩ := own_callS X hx hZ hown w1 w2 w3 w4 hy hM hf hl hcc hss e0 hsize hlen has hst hW hd
  rw [List.append_nil, hrc, hrs] at X'
  exact ⟨T', X', hh, stp⟩
end OwnKit
section OwnHeap
variable {p : Program} {l : Launch} {e : Env} {R : Room} {s : State} {m : MethodId} {args : Array Value} {below : List Frame} {meth : Method} {c : Code} {T : State} {locs : List Loc} {cells slots : Nat} {Z : State} {a0 : Array Value} {h0 h : Heap} {n0 : Nat}
/-- the writes lie at or above n0, and q says the rest -/
def own_W (n0 : Nat) (q : Option Value → Heap → Prop) : Option Value → Heap → List Loc → Prop := fun v h L => Fr n0 L ∧ q v h
theorem own_newA (X : Stand p l e R s m args below meth c T locs cells slots) (hx : p.tables.exec = Jvm.exec) (hZ : Z.Warmed39 s.vm) {aty : ArrayType} (w : (Jvm.Cond.arrayClass (newarray.typeOf aty)).before a0 Z = true) (eT : T.heap = h) {pc : Nat} {Ls : Array Slot} (hd : decode c.code pc = .ok (.newarray aty, 2)) {n : Int32} {rest : List Value}
    (hn : ¬ n < 0) {cap : Nat} (hcap : n.toNatClampNeg ≤ cap) (hb : cap * 8 ≤ 536870912) (hc : cells + 1 ≤ R.cells) (hl : slots + cap ≤ R.slots) (len : Nat) {ad : String} (had : "[" ++ (newarray.typeOf aty).toString = ad) :
    ∃ T' h' k a, Stand p l e R s m args below meth c T' locs (cells + 1) (slots + cap) ∧ T'.heap = h' ∧ Ext h h' ∧ a = h.size ∧ Arv Z h' a k (newarray.typeOf aty) n (List.replicate len (defaultValue (newarray.typeOf aty))) (defaultValue (newarray.typeOf aty)) ∧ Exa Z h' a ad ∧
      ∀ target, Steps p.tables e below (T'.setTop (mkF m (pc + 2) Ls (.ref a :: rest))) target → Steps p.tables e below (T.setTop (mkF m pc Ls (.int n :: rest))) target := by
  obtain ⟨T', h', k, X', e', E, A, Ex, st⟩ := newPE X hx hZ w eT (g := mkF m pc Ls (.int n :: rest)) rfl hd rfl hn hcap hb hc hl had
  exact ⟨T', h', k, h.size, X', e', E, rfl, (Arv.new A hn).pad (fun i => by have := pad_rep [] (defaultValue (newarray.typeOf aty)) len i; rwa [List.nil_append] at this), Ex, st⟩
theorem own_stI (X : Stand p l e R s m args below meth c T locs cells slots) (N : Fr n0 locs) (hx : p.tables.exec = Jvm.exec) (hZ : Z.Warmed39 s.vm) (eT : T.heap = h) {a : Addr} {k : ClassId} {z : Int32} {vs : List Value} {d : Value} (V : Arv Z h a k .int z vs d) (ga : n0 ≤ a) {j x : Int32} {i : Nat} (hj : ¬ j < 0 ∧ j < z) (hi : j.toNatClampNeg = i) (hl : i < vs.length)
    {pc : Nat} {Ls : Array Slot} {rest : List Value} (hd : decode c.code pc = .ok (.iastore, 1)) :
    ∃ T' h' L', Stand p l e R s m args below meth c T' L' cells slots ∧ Fr n0 L' ∧ T'.heap = h' ∧ Wr h h' a i (.int x) ∧ Arv Z h' a k .int z (vs.set i (.int x)) d ∧
      ∀ target, Steps p.tables e below (T'.setTop (mkF m (pc + 1) Ls rest)) target → Steps p.tables e below (T.setTop (mkF m pc Ls (.int x :: .int j :: .ref a :: rest))) target := by
  obtain ⟨cl, Ar, q, S, Nn, H, G⟩ := V
  obtain ⟨T', h', X', e', W, st⟩ := stI X hx hZ eT Ar (j := j) (x := x) (inb_of S hj) (g := mkF m pc Ls (.int x :: .int j :: .ref a :: rest)) rfl rfl hd
  subst hi
  exact ⟨T', h', _, X', Fr.snoc X' N ga, e', W, Arv.set Ar q S Nn H G rfl W _ rfl hl, st⟩
theorem own_ldI (X : Stand p l e R s m args below meth c T locs cells slots) (hx : p.tables.exec = Jvm.exec) (hZ : Z.Warmed39 s.vm) (eT : T.heap = h) {a : Addr} {k : ClassId} {z : Int32} {vs : List Value} {d v : Value} (V : Arv Z h a k .int z vs d) {j : Int32} (hj : ¬ j < 0 ∧ j < z) (hv : vs.getD j.toNatClampNeg d = v)
    {pc : Nat} {Ls : Array Slot} {rest : List Value} (hd : decode c.code pc = .ok (.iaload, 1)) (target : State) (hr : Steps p.tables e below (T.setTop (mkF m (pc + 1) Ls (v :: rest))) target) : Steps p.tables e below (T.setTop (mkF m pc Ls (.int j :: .ref a :: rest))) target := by
  obtain ⟨cl, Ar, q, S, Nn, H, G⟩ := V
  have hin := inb_of S hj
  refine X.iaload hx (j := j) (v := v) (by rw [eT]; exact Ar.1) (State.isArrayOf_alike hZ.alike Ar.2.1) Ar.2.2 hin ?_ (g := mkF m pc Ls (.int j :: .ref a :: rest)) rfl rfl hd _ hr
  rw [H _ (Nat.lt_of_not_le fun q => hin (Or.inr q)), hv]
theorem own_len (X : Stand p l e R s m args below meth c T locs cells slots) (hx : p.tables.exec = Jvm.exec) (hZ : Z.Warmed39 s.vm) (eT : T.heap = h) {a : Addr} {k : ClassId} {ty : FieldType} {z : Int32} {vs : List Value} {d : Value} (V : Arv Z h a k ty z vs d)
    {pc : Nat} {Ls : Array Slot} {rest : List Value} (hd : decode c.code pc = .ok (.arraylength, 1)) (target : State) (hr : Steps p.tables e below (T.setTop (mkF m (pc + 1) Ls (.int z :: rest))) target) : Steps p.tables e below (T.setTop (mkF m pc Ls (.ref a :: rest))) target := by
  obtain ⟨cl, Ar, q, S, Nn, H, G⟩ := V
  refine X.arraylength hx (by rw [eT]; exact Ar.1) (State.isArrayOf_alike hZ.alike Ar.2.1) (g := mkF m pc Ls (.ref a :: rest)) rfl rfl hd _ ?_
  rw [len_of S Nn]
  exact hr
/-- an array cloned -/
theorem own_clone (X : Stand p l e R s m args below meth c T locs cells slots) (hx : p.tables.exec = Jvm.exec) (hZ : Z.Warmed39 s.vm) {own ad : String} {index : Nat} (hown : s.vm.findClass own = some m.cls)
    (w1 : (Jvm.Cond.methodLink own index ⟨ad, "clone", "()Ljava/lang/Object;"⟩).before a0 Z = true) (w2 : (Jvm.Cond.sameMethod ad "java/lang/Object" "clone" "()Ljava/lang/Object;").before a0 Z = true) (w3 : (Jvm.Cond.native ⟨"java/lang/Object", "clone", "()Ljava/lang/Object;"⟩).before a0 Z = true)
    (w4 : (Jvm.Cond.instanceMethod ⟨"java/lang/Object", "clone", "()Ljava/lang/Object;"⟩).before a0 Z = true) (w5 : (Jvm.Cond.selects ad ⟨ad, "clone", "()Ljava/lang/Object;"⟩ ⟨"java/lang/Object", "clone", "()Ljava/lang/Object;"⟩).before a0 Z = true) (w6 : (Jvm.Cond.castable ad "java/lang/Cloneable").before a0 Z = true)
    (eT : T.heap = h) {a : Addr} {k : ClassId} {ty : FieldType} {z : Int32} {vs : List Value} {dv : Value} (F : Arv Z h a k ty z vs dv) (E : Exa Z h a ad) {pc : Nat} {Ls : Array Slot} {rest : List Value} (hsize : Ls.size = c.maxLocals) (hd : decode c.code pc = .ok (.invokevirtual index, 3))
    (hf : 1 ≤ R.frames) {W cap : Nat} (hW : 2 * 0 + (rest.map fun v => v.category).sum ≤ W) (hl : W + 14 ≤ R.locals) (hcap : z.toNatClampNeg ≤ cap) (hc : cells + 1 ≤ R.cells) (hsl : slots + cap ≤ R.slots) :
    ∃ T' h' b, Stand p l e R s m args below meth c T' locs (cells + 1) (slots + cap) ∧ T'.heap = h' ∧ Ext h h' ∧ b = h.size ∧ Arv Z h' b k ty z vs dv ∧ Exa Z h' b ad ∧
      ∀ target, Steps p.tables e below (T'.setTop (mkF m (pc + 3) Ls (.ref b :: rest))) target → Steps p.tables e below (T.setTop (mkF m pc Ls (.ref a :: rest))) target := by
  obtain ⟨T', h', X', e', ex, V, E', st⟩ := cloneH X hx hZ hown w1 w2 w3 w4 w5 w6 eT F.arh E (g := mkF m pc Ls (.ref a :: rest)) rfl hsize rfl hd hf hW hl hcap hc hsl
  exact ⟨T', h', h.size, X', e', ex, rfl, V, E', st⟩
/-- a field written -/
theorem own_putF (X : Stand p l e R s m args below meth c T locs cells slots) (N : Fr n0 locs) (hx : p.tables.exec = Jvm.exec) (hZ : Z.Warmed39 s.vm) {own O n d C : String} {index kk : Nat} {ty : FieldType} (hown : s.vm.findClass own = some m.cls) (w : (Jvm.Cond.fieldLink own index O n d).before a0 Z = true)
    (eT : T.heap = h) {a : Addr} {v old : Value} (F : Fld Z h a O n d old) (E : Exa Z h a C) (L : (Jvm.Cond.lays C O n d).before a0 Z = true ∨ ((Jvm.Cond.laysFinal C O n d).before a0 Z = true ∧ own = O ∧ meth.name = "<init>")) (wi : (Jvm.Cond.instantiable C kk).before a0 Z = true) (ga : n0 ≤ a)
    (hty : parseFieldDescriptor d = some ty) (hn : narrow ty v = v) (hf : fits ty v = true) {pc : Nat} {Ls : Array Slot} {rest : List Value} (hd : decode c.code pc = .ok (.putfield index, 3)) :
    ∃ T' h' L', Stand p l e R s m args below meth c T' L' cells slots ∧ Fr n0 L' ∧ T'.heap = h' ∧ Wr h h' a (Jvm.RoadKit.slotOf Z O n d) v ∧ Fld Z h' a O n d v ∧
      ∀ target, Steps p.tables e below (T'.setTop (mkF m (pc + 3) Ls rest)) target → Steps p.tables e below (T.setTop (mkF m pc Ls (v :: .ref a :: rest))) target := by
  obtain ⟨T', h', X', e', W, st⟩ := putF X hx hZ hown (host := "") (Or.inl w) Via.refl eT F E L wi hty hn hf (g := mkF m pc Ls (v :: .ref a :: rest)) rfl rfl hd
  exact ⟨T', h', _, X', Fr.snoc X' N ga, e', W, F.same W, st⟩
/-- new -/
theorem own_newO (X : Stand p l e R s m args below meth c T locs cells slots) (hx : p.tables.exec = Jvm.exec) (hZ : Z.Warmed39 s.vm) {own C : String} {index n : Nat} (hown : s.vm.findClass own = some m.cls) (w : (Jvm.Cond.classLink own index C).before a0 Z = true) (wi : (Jvm.Cond.instantiable C n).before a0 Z = true) (wz : (Jvm.Cond.initialized C).before a0 Z = true) (eT : T.heap = h)
    {pc : Nat} {Ls : Array Slot} {rest : List Value} (hd : decode c.code pc = .ok (.new index, 3)) (hc : cells + 1 ≤ R.cells) (hl : slots + n ≤ R.slots) :
    ∃ T' h' a, Stand p l e R s m args below meth c T' locs (cells + 1) (slots + n) ∧ T'.heap = h' ∧ Ext h h' ∧ a = h.size ∧ Exa Z h' a C ∧ (∀ {O nm d : String} {ty : FieldType}, Laid Z a0 C O nm d → parseFieldDescriptor d = some ty → Fld Z h' a O nm d (defaultValue ty)) ∧
      ∀ target, Steps p.tables e below (T'.setTop (mkF m (pc + 3) Ls (.ref a :: rest))) target → Steps p.tables e below (T.setTop (mkF m pc Ls rest)) target := by
  obtain ⟨T', h', X', e', E, A, D, -, st⟩ := newO X hx hZ hown w wi wz eT (g := mkF m pc Ls rest) rfl hd hc hl
  exact ⟨T', h', h.size, X', e', E, rfl, A, D, st⟩
/-- a static method that may write and make -/
theorem own_callSW {own : String} {index : Nat} {y : MethodName} {bytes : ByteArray} {maxL W : Nat} {ret : Option FieldType} {rm : Room} {as : Array Value} {q : Option Value → Heap → Prop}
    (X : Stand p l e R s m args below meth c T locs cells slots) (N : Fr n0 locs) (hx : p.tables.exec = Jvm.exec) (hZ : Z.Warmed39 s.vm) (hown : s.vm.findClass own = some m.cls)
    (w1 : (Jvm.Cond.methodLink own index y).before a0 Z = true) (w2 : (Jvm.Cond.static y).before a0 Z = true) (w3 : (Jvm.Cond.initialized y.cls).before a0 Z = true) (w4 : (Jvm.Cond.code y bytes maxL ret).before a0 Z = true)
    (hy : y.cls ≠ "java/lang/invoke/MethodHandle" ∧ y.cls ≠ "java/lang/invoke/VarHandle") (hM : own_C l Z y bytes maxL ret [] rm as h (own_W n0 q))
    (hf : rm.frames + 1 ≤ R.frames) (hl : W + (maxL + 11) + rm.locals ≤ R.locals) (hcc : cells + rm.cells ≤ R.cells) (hss : slots + rm.slots ≤ R.slots) (e0 : T.heap = h)
    {pc : Nat} {Ls : Array Slot} {st argsL rest : List Value} (hsize : Ls.size = c.maxLocals) (hlen : ∀ sig, parseMethodDescriptor y.desc = some sig → argsL.length = sig.parameters.length) (has : argsL.toArray = as)
    (hst : st = argsL.reverse ++ rest) (hW : 2 * 0 + (rest.map fun v => v.category).sum ≤ W) (hd : decode c.code pc = .ok (.invokestatic index, 3)) :
    ∃ (v : Option Value) (T' : State) (h' : Heap) (L' : List Loc), Stand p l e R s m args below meth c T' L' (cells + rm.cells) (slots + rm.slots) ∧ Fr n0 L' ∧ T'.heap = h' ∧ q v h' ∧
      ∀ target, Steps p.tables e below (T'.setTop (mkF m (pc + 3) Ls (v.toList ++ rest))) target → Steps p.tables e below (T.setTop (mkF m pc Ls st)) target := by
  obtain ⟨v, T', L, X', ⟨N', hq⟩, stp⟩ := own_callS X hx hZ hown w1 w2 w3 w4 hy hM hf hl hcc hss e0 hsize hlen has hst hW hd
  exact ⟨v, T', _, _, X', N.app N', rfl, hq, stp⟩
/-- an instance method that leaves the heap as it was -/
theorem own_callVP {own C : String} {index : Nat} {y z : MethodName} {bytes : ByteArray} {maxL W : Nat} {ret : Option FieldType} {rm : Room} {as : Array Value} {w : Value} {a : Addr}
    (X : Stand p l e R s m args below meth c T locs cells slots) (hx : p.tables.exec = Jvm.exec) (hZ : Z.Warmed39 s.vm) (hown : s.vm.findClass own = some m.cls)
    (w1 : (Jvm.Cond.methodLink own index y).before a0 Z = true) (w2 : (Jvm.Cond.declares y).before a0 Z = true) (hnf : NotFace s y) (ws : (Jvm.Cond.selects C y z).before a0 Z = true) (wi : (Jvm.Cond.instanceMethod z).before a0 Z = true) (w3 : (Jvm.Cond.initialized z.cls).before a0 Z = true) (w4 : (Jvm.Cond.code z bytes maxL ret).before a0 Z = true)
    (hy : y.cls ≠ "java/lang/invoke/MethodHandle" ∧ y.cls ≠ "java/lang/invoke/VarHandle") (hM : own_C l Z z bytes maxL ret [] rm as h (own_Q w h))
    (hf : rm.frames + 1 ≤ R.frames) (hl : W + (maxL + 11) + rm.locals ≤ R.locals) (hrc : rm.cells = 0) (hrs : rm.slots = 0) (hcc : cells + rm.cells ≤ R.cells) (hss : slots + rm.slots ≤ R.slots) (e0 : T.heap = h) (E : Exa Z h a C)
    {pc : Nat} {Ls : Array Slot} {st argsL rest : List Value} (hsize : Ls.size = c.maxLocals) (hlen : ∀ sig, parseMethodDescriptor y.desc = some sig → argsL.length = sig.parameters.length) (has : (Value.ref a :: argsL).toArray = as)
    (hst : st = argsL.reverse ++ .ref a :: rest) (hW : 2 * 0 + (rest.map fun v => v.category).sum ≤ W) (hd : decode c.code pc = .ok (.invokevirtual index, 3)) :
    ∃ (T' : State), Stand p l e R s m args below meth c T' locs cells slots ∧ T'.heap = h ∧
      ∀ target, Steps p.tables e below (T'.setTop (mkF m (pc + 3) Ls (w :: rest))) target → Steps p.tables e below (T.setTop (mkF m pc Ls st)) target := by
  obtain ⟨cq, kq, qa, qb, qc⟩ := isOf hZ e0 E
  obtain ⟨v, _, ⟨T', L', k', n'⟩, -, X', ⟨Lc, ⟨rfl, rfl, hh⟩, h1, h2, h3⟩, stp⟩ := X.virtualBack hx (y := y) (z := z) hown (mvT hZ w1) (mvT hZ w2) hnf (mvT hZ ws) (mvT hZ wi) hy
    (backOf (W := W) hM hZ w4 w3 hf hl) qa qc (g := mkF m pc Ls st) rfl hsize (Steps.refl _) (argsL := argsL) (rest := rest) hlen hst hW hd (fun _ _ => ⟨has, e0, hcc, hss⟩)
  dsimp only [Pt.U, Pt.locs, Pt.cells, Pt.slots] at X' h1 h2 h3 stp hh
  subst h1 h2 h3
  rw [List.append_nil, hrc, hrs] at X'
  exact ⟨T', X', hh, fun t k => stp.trans k⟩
theorem own_ke {h h' : Heap} (K : Keep h h' []) : Ext h h' := ⟨K.1, fun a c q => K.2.1 a c q (by simp)⟩
end OwnHeap
/-- own_G, told by its parts -/
abbrev own_H {p : Program} {e : Env} {below : List Frame} {P : Outcome → State → Prop} {m : MethodId} (T : State) (pc : Nat) (Ls : Array Slot) (st : List Value) : Prop := own_G p e below P (T.setTop (mkF m pc Ls st))
section OwnThird
variable {p : Program} {l : Launch} {e : Env} {R : Room} {s : State} {m : MethodId} {args : Array Value} {below : List Frame} {meth : Method} {c : Code} {T : State} {locs : List Loc} {cells slots : Nat} {Z : State} {a0 : Array Value} {h0 h : Heap} {n0 : Nat}
theorem own_u {a0 : Array Value} {Z : State} (hw : ∀ d ∈ tables_1, d.before a0 Z = true) {d : Jvm.Cond} (i : Nat) (h : tables_1[i]? = some d) : d.before a0 Z = true := hw _ (List.mem_of_getElem? h)
/-- int arrays at places that aren't literals -/
def own_set (L : List Int32) (j x : Int32) : List Int32 := L.set j.toNatClampNeg x
def own_get (L : List Int32) (j : Int32) : Int32 := L.getD j.toNatClampNeg 0
def own_take (L : List Int32) (n : Nat) : List Int32 := (List.range n).map fun i => L.getD i 0
def own_in (L : List Int32) (j z : Int32) : Prop := (¬ j < 0 ∧ j < z) ∧ j.toNatClampNeg < L.length
instance (L : List Int32) (j z : Int32) : Decidable (own_in L j z) := by unfold own_in; infer_instance
theorem own_getD (L : List Int32) (i : Nat) : (L.map Value.int).getD i (.int 0) = .int (L.getD i 0) := by
  simp only [List.getD_eq_getElem?_getD, List.getElem?_map]
  cases L[i]? <;> rfl
theorem own_stS (X : Stand p l e R s m args below meth c T locs cells slots) (N : Fr n0 locs) (hx : p.tables.exec = Jvm.exec) (hZ : Z.Warmed39 s.vm) (eT : T.heap = h) {a : Addr} {k : ClassId} {z : Int32} {L : List Int32} {d : Value} (V : Arv Z h a k .int z (L.map Value.int) d) (ga : n0 ≤ a) {j x : Int32} (hj : own_in L j z)
    {pc : Nat} {Ls : Array Slot} {rest : List Value} (hd : decode c.code pc = .ok (.iastore, 1)) :
    ∃ T' h' L', Stand p l e R s m args below meth c T' L' cells slots ∧ Fr n0 L' ∧ T'.heap = h' ∧ Wr h h' a j.toNatClampNeg (.int x) ∧ Arv Z h' a k .int z ((own_set L j x).map Value.int) d ∧
      ∀ target, Steps p.tables e below (T'.setTop (mkF m (pc + 1) Ls rest)) target → Steps p.tables e below (T.setTop (mkF m pc Ls (.int x :: .int j :: .ref a :: rest))) target := by
  have r := own_stI X N hx hZ eT V ga (x := x) hj.1 rfl (by rw [List.length_map]; exact hj.2) (Ls := Ls) (rest := rest) hd
  have q : (own_set L j x).map Value.int = (L.map Value.int).set j.toNatClampNeg (.int x) := by simp [own_set, List.map_set]
  rw [q]; exact r
theorem own_ldS (X : Stand p l e R s m args below meth c T locs cells slots) (hx : p.tables.exec = Jvm.exec) (hZ : Z.Warmed39 s.vm) (eT : T.heap = h) {a : Addr} {k : ClassId} {z : Int32} {L : List Int32} (V : Arv Z h a k .int z (L.map Value.int) (.int 0)) {j : Int32} (hj : ¬ j < 0 ∧ j < z)
    {pc : Nat} {Ls : Array Slot} {rest : List Value} (hd : decode c.code pc = .ok (.iaload, 1)) (target : State) (hr : Steps p.tables e below (T.setTop (mkF m (pc + 1) Ls (.int (own_get L j) :: rest))) target) : Steps p.tables e below (T.setTop (mkF m pc Ls (.int j :: .ref a :: rest))) target :=
  own_ldI X hx hZ eT V hj (own_getD L _) hd target hr
theorem own_nfw {W k : Nat} (h : W + 40 ≤ k) : W + (nativeFrameWords "java/lang/System" "arraycopy" 5 + 11) ≤ k := by
  have : nativeFrameWords "java/lang/System" "arraycopy" 5 + 11 ≤ 40 := by decide
  omega
/-- arraycopy of the first n ints into a fresh array of n -/
theorem own_cp (X : Stand p l e R s m args below meth c T locs cells slots) (N : Fr n0 locs) (hx : p.tables.exec = Jvm.exec) (hZ : Z.Warmed39 s.vm) {own : String} {index : Nat} (hown : s.vm.findClass own = some m.cls)
    (w1 : (Jvm.Cond.methodLink own index Jvm.Stand.acN).before a0 Z = true) (w2 : (Jvm.Cond.native Jvm.Stand.acN).before a0 Z = true) (w3 : (Jvm.Cond.static Jvm.Stand.acN).before a0 Z = true) (w4 : (Jvm.Cond.initialized "java/lang/System").before a0 Z = true) (eT : T.heap = h)
    {a b : Addr} {k k' : ClassId} {z z' nn : Int32} {L : List Int32} {vd : List Value} {dd : Value} (A : Arv Z h a k .int z (L.map Value.int) (.int 0)) (B : Arv Z h b k' .int z' vd dd) (ge : n0 ≤ b)
    {n : Nat} (hn : nn.toNatClampNeg = n) (h3 : ¬ nn < 0) (h4 : n ≤ z.toNatClampNeg) (h5 : z'.toNatClampNeg = n) (h6 : vd.length = n)
    {pc : Nat} {Ls : Array Slot} {rest : List Value} (hsize : Ls.size = c.maxLocals) (hd : decode c.code pc = .ok (.invokestatic index, 3)) (hf : 1 ≤ R.frames) {W : Nat} (hW : 2 * 0 + (rest.map fun v => v.category).sum ≤ W) (hlo : W + 40 ≤ R.locals) :
    ∃ T' h' L', Stand p l e R s m args below meth c T' L' cells slots ∧ Fr n0 L' ∧ T'.heap = h' ∧ Keep h h' [b] ∧ Arv Z h' b k' .int z' ((own_take L n).map Value.int) dd ∧
      ∀ target, Steps p.tables e below (T'.setTop (mkF m (pc + 3) Ls rest)) target → Steps p.tables e below (T.setTop (mkF m pc Ls (.int nn :: .int 0 :: .ref b :: .int 0 :: .ref a :: rest))) target := by
  obtain ⟨T', h', L', X', e', N', K, V, st⟩ := cpA X hx hZ hown w1 w2 w3 w4 eT A B (Or.inl ⟨rfl, rfl⟩) (sp := 0) (dp := 0) (nn := nn) (by decide) (by decide) h3 (by rw [hn]; simpa using h4) (by rw [hn, h5]; simp) rfl (by rw [hn, h6]; simp) N ge
    (g := mkF m pc Ls (.int nn :: .int 0 :: .ref b :: .int 0 :: .ref a :: rest)) rfl hsize rfl hd hf hW (own_nfw hlo)
  refine ⟨T', h', L', X', N', e', K, ?_, st⟩
  have q : vd.take (0 : Int32).toNatClampNeg ++ ((List.range nn.toNatClampNeg).map fun i => (L.map Value.int).getD ((0 : Int32).toNatClampNeg + i) (.int 0)) ++ vd.drop ((0 : Int32).toNatClampNeg + nn.toNatClampNeg) = (own_take L n).map Value.int := by
    rw [show (0 : Int32).toNatClampNeg = 0 from rfl, hn, Nat.zero_add, List.drop_eq_nil_of_le (Nat.le_of_eq h6)]
    simp only [List.take_zero, List.nil_append, List.append_nil, own_take, List.map_map, Nat.zero_add]
    exact List.map_congr_left fun i _ => own_getD L i
  rw [q] at V; exact V
end OwnThird
section OwnWide
variable {p : Program} {l : Launch} {e : Env} {R : Room} {s s0 : State} {m : MethodId} {args : Array Value} {below : List Frame} {meth : Method} {c : Code} {T : State} {locs : List Loc} {cells slots : Nat} {Z : State} {a0 : Array Value} {h0 h : Heap} {n0 k0 : Nat}
/-- s is the start s0 with the tables at hand; what has been interned lies below n -/
def own_S (s0 s : State) (n : Nat) : Prop := ∃ vm, s = s0.setVm vm ∧ s0.Since vm n
theorem own_S0 (s : State) : own_S s s 0 := ⟨s.vm, rfl, State.WarmedH.since (State.WarmedH.refl s) 0⟩
def own_PW (s : State) (Q : Option Value → Heap → List Loc → Prop) (k n : Nat) : Outcome → State → Prop := fun o u => ∃ v L, o = .returned v ∧ Q v u.heap L ∧ ReturnedEndW s o u L k n
/-- a contract of a method that may load String literals -/
def own_CW (l : Launch) (Z : State) (y : MethodName) (bytes : ByteArray) (maxL : Nat) (ret : Option FieldType) (ws : List Jvm.Cond) (rm : Room) (as : Array Value) (h0 : Heap) (Q : Option Value → Heap → List Loc → Prop) : Prop :=
  MetFree l y (head1 (Jvm.Cond.code y bytes maxL ret :: ws) rm) (fun a U => a = as ∧ Z.Warmed39 U.vm ∧ U.heap = h0) (fun _ _ _ _ _ => True) (fun _ U o U' => ∃ v L, o = .returned v ∧ Q v U'.heap L ∧ ReturnedEndW U o U' L rm.cells rm.slots)
theorem own_wide {Q : Option Value → Heap → List Loc → Prop} {k n : Nat} {st : State} (S : own_S s0 s k0) (H : own_G p e below (own_P s (fun v h L => Q v h L ∧ k0 ≤ h.size) k n) st) : own_G p e below (own_PW s0 Q k n) st := by
  obtain ⟨vm, rfl, hS⟩ := S
  obtain ⟨u, o, h1, h2, h3, v, L, ho, ⟨hQ, hk⟩, hr, hW, hs⟩ := H
  obtain ⟨a, b, c'⟩ := hS.ended (U := u) hW hk hs
  exact ⟨u, o, h1, h2, h3, v, L, ho, hQ, hr, a, b, c'⟩
theorem own_ldc (S : own_S s0 s k0) (hk : k0 ≤ h.size) (X : Stand p l e R s m args below meth c T locs cells slots) (hx : p.tables.exec = Jvm.exec) (hZ : Z.Warmed39 s.vm) {own text : String} {index : Nat} (hown : s.vm.findClass own = some m.cls)
    (w : (Jvm.Cond.stringLink own index text).before a0 Z = true) (wS : ∀ a ∈ Bundle.stringAtoms, a.before a0 Z = true) (eT : T.heap = h) {pc : Nat} {Ls : Array Slot} {rest : List Value} (hd : decode c.code pc = .ok (.ldc index, 2)) {n : Nat} (hn : 4 * text.toList.length ≤ n) (hbig : n ≤ 536870912) (hc : cells + 2 ≤ R.cells) (hl : slots + (n + 4) ≤ R.slots) :
    ∃ (a : Addr) (T' : State) (h' : Heap) (s' : State) (k1 : Nat), Stand p l e R s' m args below meth c T' locs (cells + 2) (slots + (n + 4)) ∧ T'.heap = h' ∧ Ext h h' ∧ own_S s0 s' k1 ∧ k1 ≤ h'.size ∧ Z.Warmed39 s'.vm ∧ s'.vm.findClass own = some m.cls ∧
      ∀ target, Steps p.tables e below (T'.setTop (mkF m (pc + 2) Ls (.ref a :: rest))) target → Steps p.tables e below (T.setTop (mkF m pc Ls rest)) target := by
  obtain ⟨vm, rfl, hS⟩ := S
  obtain ⟨a, T', h', k1, X', e', E, hS', hk', hZ', hown', st⟩ := ldcS X hx hZ hown w wS eT hS hk (g := mkF m pc Ls rest) rfl hd hn hbig hc hl
  exact ⟨a, T', h', _, k1, X', e', E, ⟨_, rfl, hS'⟩, hk', hZ', hown', st⟩
/-- a static method that may load literals -/
theorem own_callSX {own : String} {index : Nat} {y : MethodName} {bytes : ByteArray} {maxL W : Nat} {ret : Option FieldType} {rm : Room} {as : Array Value} {q : Option Value → Heap → Prop} (S : own_S s0 s k0) (hk : k0 ≤ h.size)
    (X : Stand p l e R s m args below meth c T locs cells slots) (N : Fr n0 locs) (hx : p.tables.exec = Jvm.exec) (hZ : Z.Warmed39 s.vm) (hown : s.vm.findClass own = some m.cls)
    (w1 : (Jvm.Cond.methodLink own index y).before a0 Z = true) (w2 : (Jvm.Cond.static y).before a0 Z = true) (w3 : (Jvm.Cond.initialized y.cls).before a0 Z = true) (w4 : (Jvm.Cond.code y bytes maxL ret).before a0 Z = true)
    (hy : y.cls ≠ "java/lang/invoke/MethodHandle" ∧ y.cls ≠ "java/lang/invoke/VarHandle") (hM : own_CW l Z y bytes maxL ret [] rm as h (own_W n0 q))
    (hf : rm.frames + 1 ≤ R.frames) (hl : W + (maxL + 11) + rm.locals ≤ R.locals) (hcc : cells + rm.cells ≤ R.cells) (hss : slots + rm.slots ≤ R.slots) (e0 : T.heap = h)
    {pc : Nat} {Ls : Array Slot} {st argsL rest : List Value} (hsize : Ls.size = c.maxLocals) (hlen : ∀ sig, parseMethodDescriptor y.desc = some sig → argsL.length = sig.parameters.length) (has : argsL.toArray = as)
    (hst : st = argsL.reverse ++ rest) (hW : 2 * 0 + (rest.map fun v => v.category).sum ≤ W) (hd : decode c.code pc = .ok (.invokestatic index, 3)) :
    ∃ (v : Option Value) (T' : State) (h' : Heap) (L' : List Loc) (s' : State) (k1 : Nat), Stand p l e R s' m args below meth c T' L' (cells + rm.cells) (slots + rm.slots) ∧ Fr n0 L' ∧ T'.heap = h' ∧ q v h' ∧ own_S s0 s' k1 ∧ k1 ≤ h'.size ∧ Z.Warmed39 s'.vm ∧ s'.vm.findClass own = some m.cls ∧
      ∀ target, Steps p.tables e below (T'.setTop (mkF m (pc + 3) Ls (v.toList ++ rest))) target → Steps p.tables e below (T.setTop (mkF m pc Ls st)) target := by
  obtain ⟨vm, rfl, hS⟩ := S
  obtain ⟨v, _, ⟨T', L', k', n'⟩, -, X', hS', hgr, ⟨Lc, ⟨N', hq⟩, h1, h2, h3⟩, stp⟩ := callSS X hx (y := y) hown (mvT hZ w1) (mvT hZ w2) (mvT hZ w3) (mvT hZ w4) hy
    (backOfS (W := W) hM hZ w4 w3 hf hl) (g := mkF m pc Ls st) rfl hsize (argsL := argsL) (rest := rest) hlen hst hW hd (fun _ _ => ⟨has, e0, hcc, hss⟩)
  dsimp only [Pt.U, Pt.locs, Pt.cells, Pt.slots] at X' h1 h2 h3 stp hq hS' hgr
  subst h1 h2 h3
  exact ⟨v, T', _, _, _, _, X', N.app N', rfl, hq, ⟨_, rfl, hS.trans hS' (Nat.le_trans hk (e0 ▸ hgr))⟩, Nat.le_refl _, State.Warmed39.trans (t := s0.setVm vm) hZ hS'.1, by show T'.vm.findClass own = _; rw [hS'.1.alike.findClass]; exact hown, fun t k => stp.trans k⟩
/-- a constructor that may load literals -/
theorem own_callIX {own : String} {index : Nat} {y : MethodName} {bytes : ByteArray} {maxL W : Nat} {rm : Room} {as : Array Value} {q : Option Value → Heap → Prop} {a : Addr} (S : own_S s0 s k0) (hk : k0 ≤ h.size)
    (X : Stand p l e R s m args below meth c T locs cells slots) (N : Fr n0 locs) (hx : p.tables.exec = Jvm.exec) (hZ : Z.Warmed39 s.vm) (hy1 : y.name = "<init>") (hown : s.vm.findClass own = some m.cls)
    (w1 : (Jvm.Cond.methodLink own index y).before a0 Z = true) (w2 : (Jvm.Cond.instanceMethod y).before a0 Z = true) (w3 : (Jvm.Cond.initialized y.cls).before a0 Z = true) (w4 : (Jvm.Cond.code y bytes maxL none).before a0 Z = true)
    (hy : y.cls ≠ "java/lang/invoke/MethodHandle" ∧ y.cls ≠ "java/lang/invoke/VarHandle") (hM : own_CW l Z y bytes maxL none [] rm as h (own_W n0 q))
    (hf : rm.frames + 1 ≤ R.frames) (hl : W + (maxL + 11) + rm.locals ≤ R.locals) (hcc : cells + rm.cells ≤ R.cells) (hss : slots + rm.slots ≤ R.slots) (e0 : T.heap = h)
    {pc : Nat} {Ls : Array Slot} {st argsL rest : List Value} (hsize : Ls.size = c.maxLocals) (hlen : ∀ sig, parseMethodDescriptor y.desc = some sig → argsL.length = sig.parameters.length) (has : (Value.ref a :: argsL).toArray = as)
    (hst : st = argsL.reverse ++ .ref a :: rest) (hW : 2 * 0 + (rest.map fun v => v.category).sum ≤ W) (hd : decode c.code pc = .ok (.invokespecial index, 3)) :
    ∃ (v : Option Value) (T' : State) (h' : Heap) (L' : List Loc) (s' : State) (k1 : Nat), Stand p l e R s' m args below meth c T' L' (cells + rm.cells) (slots + rm.slots) ∧ Fr n0 L' ∧ T'.heap = h' ∧ q v h' ∧ own_S s0 s' k1 ∧ k1 ≤ h'.size ∧ Z.Warmed39 s'.vm ∧ s'.vm.findClass own = some m.cls ∧
      ∀ target, Steps p.tables e below (T'.setTop (mkF m (pc + 3) Ls (v.toList ++ rest))) target → Steps p.tables e below (T.setTop (mkF m pc Ls st)) target := by
  obtain ⟨vm, rfl, hS⟩ := S
  obtain ⟨v, _, ⟨T', L', k', n'⟩, -, X', hS', hgr, ⟨Lc, ⟨N', hq⟩, h1, h2, h3⟩, stp⟩ := X.specialBackS hx (y := y) hy1 hown (mvT hZ w1) (mvT hZ w2) (mvT hZ w4) hy
    (backOfS (W := W) hM hZ w4 w3 hf hl) (g := mkF m pc Ls st) rfl hsize (Steps.refl _) (a := a) (argsL := argsL) (rest := rest) hlen hst hW hd (fun _ _ => ⟨has, e0, hcc, hss⟩)
  dsimp only [Pt.U, Pt.locs, Pt.cells, Pt.slots] at X' h1 h2 h3 stp hq hS' hgr
  subst h1 h2 h3
  exact ⟨v, T', _, _, _, _, X', N.app N', rfl, hq, ⟨_, rfl, hS.trans hS' (Nat.le_trans hk (e0 ▸ hgr))⟩, Nat.le_refl _, State.Warmed39.trans (t := s0.setVm vm) hZ hS'.1, by show T'.vm.findClass own = _; rw [hS'.1.alike.findClass]; exact hown, fun t k => stp.trans k⟩
/-- boolean arrays at places that aren't literals -/
theorem own_stZ (X : Stand p l e R s m args below meth c T locs cells slots) (N : Fr n0 locs) (hx : p.tables.exec = Jvm.exec) (hZ : Z.Warmed39 s.vm) (eT : T.heap = h) {a : Addr} {k : ClassId} {z : Int32} {L : List Int32} {d : Value} (V : Arv Z h a k .boolean z (L.map Value.int) d) (ga : n0 ≤ a) {j x : Int32} (hj : own_in L j z)
    {pc : Nat} {Ls : Array Slot} {rest : List Value} (hd : decode c.code pc = .ok (.bastore, 1)) :
    ∃ T' h' L', Stand p l e R s m args below meth c T' L' cells slots ∧ Fr n0 L' ∧ T'.heap = h' ∧ Wr h h' a j.toNatClampNeg (.int (nar .boolean x)) ∧ Arv Z h' a k .boolean z ((own_set L j (nar .boolean x)).map Value.int) d ∧
      ∀ target, Steps p.tables e below (T'.setTop (mkF m (pc + 1) Ls rest)) target → Steps p.tables e below (T.setTop (mkF m pc Ls (.int x :: .int j :: .ref a :: rest))) target := by
  obtain ⟨cl, Ar, q, S, Nn, H, G⟩ := V
  obtain ⟨T', h', X', e', W, st⟩ := stZ X hx hZ eT Ar (j := j) (x := x) (inb_of S hj.1) (g := mkF m pc Ls (.int x :: .int j :: .ref a :: rest)) rfl rfl hd
  have r := Arv.set Ar q S Nn H G (fits_nar_bool x) W _ rfl (by rw [List.length_map]; exact hj.2)
  have q2 : (own_set L j (nar .boolean x)).map Value.int = (L.map Value.int).set j.toNatClampNeg (.int (nar .boolean x)) := by simp [own_set, List.map_set]
  exact ⟨T', h', _, X', Fr.snoc X' N ga, e', W, by rw [q2]; exact r, st⟩
theorem own_ldZ (X : Stand p l e R s m args below meth c T locs cells slots) (hx : p.tables.exec = Jvm.exec) (hZ : Z.Warmed39 s.vm) (eT : T.heap = h) {a : Addr} {k : ClassId} {z : Int32} {L : List Int32} (V : Arv Z h a k .boolean z (L.map Value.int) (.int 0)) {j : Int32} (hj : ¬ j < 0 ∧ j < z)
    {pc : Nat} {Ls : Array Slot} {rest : List Value} (hd : decode c.code pc = .ok (.baload, 1)) (target : State) (hr : Steps p.tables e below (T.setTop (mkF m (pc + 1) Ls (.int (own_get L j) :: rest))) target) : Steps p.tables e below (T.setTop (mkF m pc Ls (.int j :: .ref a :: rest))) target := by
  obtain ⟨cl, Ar, q, S, Nn, H, G⟩ := V
  have hin := inb_of S hj
  have hT := State.isArrayOf_alike X.warmed.alike (State.isArrayOf_alike hZ.alike Ar.2.1)
  have hc : T.heap[a]? = some cl := by rw [eT]; exact Ar.1
  have hv : cl.slots[j.toNatClampNeg]? = some (.int (own_get L j)) := by rw [H _ (Nat.lt_of_not_le fun q => hin (Or.inr q)), own_getD]; rfl
  have hstk : (mkF m pc Ls (.int j :: .ref a :: rest)).stack = .int j :: .ref a :: rest := rfl
  have hdd : decode c.code (mkF m pc Ls (.int j :: .ref a :: rest)).pc = .ok (.baload, 1) := hd
  jvm_step X.here [hx, hdd, baload.wp_booleans (e := e) (s := T) (f := mkF m pc Ls (.int j :: .ref a :: rest)) X.here.top hstk hc hT hin Ar.2.2 hv]
  exact hr
end OwnWide
theorem own_pd0 : parseMethodDescriptor "(Ljava/lang/Object;Ljava/lang/String;)Ljava/lang/Object;" = some ⟨[(.object "java/lang/Object"), (.object "java/lang/String")], some (.object "java/lang/Object")⟩ := by decide +kernel
theorem own_pd1 : parseMethodDescriptor "([I)[I" = some ⟨[(.array .int)], some (.array .int)⟩ := by decide +kernel
theorem own_pd2 : parseMethodDescriptor "(II)I" = some ⟨[.int, .int], some .int⟩ := by decide +kernel
theorem own_pd3 : parseMethodDescriptor "([II)[I" = some ⟨[(.array .int), .int], some (.array .int)⟩ := by decide +kernel
theorem own_pd4 : parseMethodDescriptor "([I)Lcom/example/skipstitch/skipstitch/GramTable;" = some ⟨[(.array .int)], some (.object "com/example/skipstitch/skipstitch/GramTable")⟩ := by decide +kernel
theorem own_pd5 : parseMethodDescriptor "([I)I" = some ⟨[(.array .int)], some .int⟩ := by decide +kernel
theorem own_pd6 : parseMethodDescriptor "([IIII)I" = some ⟨[(.array .int), .int, .int, .int], some .int⟩ := by decide +kernel
theorem own_pd7 : parseMethodDescriptor "([ILcom/example/skipstitch/skipstitch/Matching;)V" = some ⟨[(.array .int), (.object "com/example/skipstitch/skipstitch/Matching")], none⟩ := by decide +kernel
theorem own_pd8 : parseMethodDescriptor "([IIII)Z" = some ⟨[(.array .int), .int, .int, .int], some .boolean⟩ := by decide +kernel
theorem own_wS {a0 : Array Value} {Z : State} (hw : ∀ d ∈ tables_1, d.before a0 Z = true) : ∀ a ∈ Bundle.stringAtoms, a.before a0 Z = true := by
  intro a ha
  simp only [Bundle.stringAtoms, List.mem_cons, List.not_mem_nil, or_false] at ha
  rcases ha with rfl | rfl | rfl | rfl | rfl | rfl | rfl
  · exact own_u hw 21 rfl
  · exact own_u hw 22 rfl
  · exact own_u hw 23 rfl
  · exact own_u hw 24 rfl
  · exact own_u hw 25 rfl
  · exact own_u hw 26 rfl
  · exact own_u hw 27 rfl
/-- the table of partial matches -/
def own_t1 (p0 p1 : Int32) : Int32 := if p1 = p0 then 1 else 0
def own_t2 (p0 p1 p2 : Int32) : Int32 := if p1 = p0 then (if p2 = p1 then 2 else if p2 = p0 then 1 else 0) else if p2 = p0 then 1 else 0
def own_t3 (p0 p1 p2 p3 : Int32) : Int32 :=
  if p1 = p0 then
    if p2 = p1 then (if p3 = p2 then 3 else if p3 = p1 then 2 else if p3 = p0 then 1 else 0)
    else if p2 = p0 then (if p3 = p1 then 2 else if p3 = p0 then 1 else 0)
    else if p3 = p0 then 1 else 0
  else if p2 = p0 then (if p3 = p1 then 2 else if p3 = p0 then 1 else 0)
  else if p3 = p0 then 1 else 0
theorem own_t1r (p0 p1 : Int32) : own_t1 p0 p1 = 0 ∨ own_t1 p0 p1 = 1 := by
  unfold own_t1; split <;> simp
theorem own_t2r (p0 p1 p2 : Int32) : own_t2 p0 p1 p2 = 0 ∨ own_t2 p0 p1 p2 = 1 ∨ own_t2 p0 p1 p2 = 2 := by
  unfold own_t2; repeat' split
  all_goals simp
theorem own_in2 {L : List Int32} {j z : Int32} (h : j = 0 ∨ j = 1) (hz : (1 : Int32) < z) (hl : 1 < L.length) : own_in L j z := by
  have h0 : (0 : Int32) < z := by rw [Int32.lt_iff_toInt_lt] at *; have e0 : (0 : Int32).toInt = 0 := rfl; have e1 : (1 : Int32).toInt = 1 := rfl; omega
  rcases h with rfl | rfl
  · exact ⟨⟨by decide, h0⟩, Nat.lt_of_succ_lt hl⟩
  · exact ⟨⟨by decide, hz⟩, hl⟩
theorem own_in3 {L : List Int32} {j z : Int32} (h : j = 0 ∨ j = 1 ∨ j = 2) (hz : (2 : Int32) < z) (hl : 2 < L.length) : own_in L j z := by
  have h1 : (1 : Int32) < z := by rw [Int32.lt_iff_toInt_lt] at *; have e2 : (2 : Int32).toInt = 2 := rfl; have e1 : (1 : Int32).toInt = 1 := rfl; omega
  rcases h with rfl | rfl | rfl
  · exact own_in2 (Or.inl rfl) h1 (Nat.lt_of_succ_lt hl)
  · exact own_in2 (Or.inr rfl) h1 (Nat.lt_of_succ_lt hl)
  · exact ⟨⟨by decide, hz⟩, hl⟩
/-- the loop of firstOfEachLowByte: i of nn units seen, c of them kept -/
abbrev own_c5 (c : Int32) : Prop := c = 0 ∨ c = 1 ∨ c = 2 ∨ c = 3 ∨ c = 4
def own_fo (nn : Int32) (len : Nat) : Nat → Int32 → Int32 → Prop
  | 0, i, c => ¬ i < nn ∧ own_c5 c
  | f + 1, i, c => i < nn ∧ (¬ i < 0 ∧ i.toNatClampNeg < len) ∧ (¬ c < 0 ∧ c < 256 ∧ c.toNatClampNeg < 256) ∧ own_fo nn len f (i + 1) c ∧ own_fo nn len f (i + 1) (c + 1)
theorem own_fo1 : own_fo 1 1 1 0 0 := by repeat' (first | decide | constructor)
theorem own_fo2 : own_fo 2 2 2 0 0 := by repeat' (first | decide | constructor)
theorem own_fo3 : own_fo 3 3 3 0 0 := by repeat' (first | decide | constructor)
theorem own_fo4 : own_fo 4 4 4 0 0 := by repeat' (first | decide | constructor)
theorem own_m255 (x : Int32) {L : List Int32} (h : L.length = 256) : own_in L (x &&& (255 : Int32)) 256 := by
  have q := c_mask x 255 8 (by decide) (by decide)
  have e0 : (0 : Int32).toInt = 0 := rfl
  have e1 : (256 : Int32).toInt = 256 := rfl
  refine ⟨⟨?_, ?_⟩, ?_⟩
  · rw [Int32.lt_iff_toInt_lt]; omega
  · rw [Int32.lt_iff_toInt_lt]; omega
  · rw [h, Int32.toNatClampNeg]; omega
theorem own_sl {L : List Int32} {n : Nat} (h : L.length = n) (j x : Int32) : (own_set L j x).length = n := by simp [own_set, h]
/-- the automaton's step -/
def own_sok (P FB : List Int32) (nn z2 : Int32) : Nat → Int32 → Prop
  | 0, m => own_in P m nn ∧ ¬ ((0 : Int32) < m)
  | f + 1, m => own_in P m nn ∧ ((0 : Int32) < m → own_in FB m z2 ∧ own_sok P FB nn z2 f (own_get FB m))
def own_st (P FB : List Int32) (x : Int32) : Nat → Int32 → Int32
  | 0, m => if own_get P m = x then m + 1 else 0
  | f + 1, m => if (0 : Int32) < m then (if own_get P m = x then m + 1 else own_st P FB x f (own_get FB m)) else if own_get P m = x then m + 1 else 0
section
variable {P FB : List Int32} {nn z2 : Int32}
theorem own_sok0 (f : Nat) (h : own_in P 0 nn) : own_sok P FB nn z2 f 0 := by
  cases f with
  | zero => exact ⟨h, by decide⟩
  | succ f => exact ⟨h, fun q => absurd q (by decide)⟩
theorem own_sok1 (f : Nat) (h0 : own_in P 0 nn) (h1 : own_in P 1 nn) (k1 : own_in FB 1 z2) (g1 : own_get FB 1 = 0) : own_sok P FB nn z2 (f + 1) 1 :=
  ⟨h1, fun _ => ⟨k1, by rw [g1]; exact own_sok0 f h0⟩⟩
theorem own_sok2 (f : Nat) (h0 : own_in P 0 nn) (h1 : own_in P 1 nn) (h2 : own_in P 2 nn) (k1 : own_in FB 1 z2) (k2 : own_in FB 2 z2) (g1 : own_get FB 1 = 0) (g2 : own_get FB 2 = 0 ∨ own_get FB 2 = 1) : own_sok P FB nn z2 (f + 2) 2 :=
  ⟨h2, fun _ => ⟨k2, by
    rcases g2 with g | g <;> rw [g]
    · exact own_sok0 _ h0
    · exact own_sok1 f h0 h1 k1 g1⟩⟩
theorem own_sok3 (f : Nat) (h0 : own_in P 0 nn) (h1 : own_in P 1 nn) (h2 : own_in P 2 nn) (h3 : own_in P 3 nn) (k1 : own_in FB 1 z2) (k2 : own_in FB 2 z2) (k3 : own_in FB 3 z2) (g1 : own_get FB 1 = 0) (g2 : own_get FB 2 = 0 ∨ own_get FB 2 = 1) (g3 : own_get FB 3 = 0 ∨ own_get FB 3 = 1 ∨ own_get FB 3 = 2) : own_sok P FB nn z2 (f + 3) 3 :=
  ⟨h3, fun _ => ⟨k3, by
    rcases g3 with g | g | g <;> rw [g]
    · exact own_sok0 _ h0
    · exact own_sok1 (f + 1) h0 h1 k1 g1
    · exact own_sok2 f h0 h1 h2 k1 k2 g1 g2⟩⟩
end
/-- one to four -/
def own_c4 (c : Int32) : Prop := c = 1 ∨ c = 2 ∨ c = 3 ∨ c = 4
def own_pl (c t : Int32) : Prop := 0 ≤ t.toInt ∧ t.toInt < c.toInt
theorem own_n {p v : Int32} (h : (1 : Int32) + (p &&& (3 : Int32)) = v) : own_c4 v := by
  subst h
  have h := c_mask p 3 2 (by decide) (by decide)
  have g := c_iadd 1 (p &&& (3 : Int32))
  have r := rng32 (1 + (p &&& (3 : Int32)))
  unfold own_c4
  simp only [← Int32.toInt_inj, show (1 : Int32).toInt = 1 from rfl, show (2 : Int32).toInt = 2 from rfl, show (3 : Int32).toInt = 3 from rfl, show (4 : Int32).toInt = 4 from rfl] at *
  omega
theorem own_nz {c : Int32} (h : own_c4 c) : c ≠ 0 := by rcases h with rfl | rfl | rfl | rfl <;> decide
theorem own_n4 {v : Int32} (h : own_c4 v) (h1 : ¬ v = 1) (h2 : ¬ v = 2) (h3 : ¬ v = 3) : v = 4 := by
  rcases h with h | h | h | h
  · exact absurd h h1
  · exact absurd h h2
  · exact absurd h h3
  · exact h
theorem own_mr {a n v k : Int32} (hn : own_c4 n) (hk : n = k) (h : ((a &&& (3 : Int32)) - ((a &&& (3 : Int32)) / n) * n) = v) : own_pl k v := by
  subst h hk
  have p := c_mask a 3 2 (by decide) (by decide)
  have q : 0 < n.toInt := by rcases hn with rfl | rfl | rfl | rfl <;> decide
  generalize (a &&& (3 : Int32)) = x at *
  rw [irem_eq_mod]
  have h := (c_iremV x n).1 (by omega) (by omega)
  exact ⟨by omega, by omega⟩
theorem own_m1 {m : Int32} (h : own_pl 1 m) : m = 0 := by
  have e1 : (1 : Int32).toInt = 1 := rfl
  have e0 : (0 : Int32).toInt = 0 := rfl
  unfold own_pl at h; rw [← Int32.toInt_inj]; omega
theorem own_m2 {m : Int32} (h : own_pl 2 m) : m = 0 ∨ m = 1 := by
  have e2 : (2 : Int32).toInt = 2 := rfl
  have e1 : (1 : Int32).toInt = 1 := rfl
  have e0 : (0 : Int32).toInt = 0 := rfl
  unfold own_pl at h; simp only [← Int32.toInt_inj]; omega
theorem own_m3 {m : Int32} (h : own_pl 3 m) : m = 0 ∨ m = 1 ∨ m = 2 := by
  have e3 : (3 : Int32).toInt = 3 := rfl
  have e2 : (2 : Int32).toInt = 2 := rfl
  have e1 : (1 : Int32).toInt = 1 := rfl
  have e0 : (0 : Int32).toInt = 0 := rfl
  unfold own_pl at h; simp only [← Int32.toInt_inj]; omega
theorem own_m4 {m : Int32} (h : own_pl 4 m) : m = 0 ∨ m = 1 ∨ m = 2 ∨ m = 3 := by
  have e4 : (4 : Int32).toInt = 4 := rfl
  have e3 : (3 : Int32).toInt = 3 := rfl
  have e2 : (2 : Int32).toInt = 2 := rfl
  have e1 : (1 : Int32).toInt = 1 := rfl
  have e0 : (0 : Int32).toInt = 0 := rfl
  unfold own_pl at h; simp only [← Int32.toInt_inj]; omega
abbrev own_cK : String := "com/example/skipstitch/skipstitch/KmpPattern"
abbrev own_cM : String := "com/example/skipstitch/skipstitch/Matching"
abbrev own_dG : String := "Lcom/example/skipstitch/skipstitch/GramTable;"
abbrev own_dM : String := "Lcom/example/skipstitch/skipstitch/Matching;"
theorem own_d7_0 : decode jdk_29_method_69_code 0 = .ok (.iload_n 0, 1) := by decide +kernel
theorem own_d7_1 : decode jdk_29_method_69_code 1 = .ok (.iload_n 1, 1) := by decide +kernel
theorem own_d7_2 : decode jdk_29_method_69_code 2 = .ok (.if_icmp .gt 7, 3) := by decide +kernel
theorem own_d7_5 : decode jdk_29_method_69_code 5 = .ok (.iload_n 0, 1) := by decide +kernel
theorem own_d7_6 : decode jdk_29_method_69_code 6 = .ok (.goto 4, 3) := by decide +kernel
theorem own_d7_9 : decode jdk_29_method_69_code 9 = .ok (.iload_n 1, 1) := by decide +kernel
theorem own_d7_10 : decode jdk_29_method_69_code 10 = .ok (.ireturn, 1) := by decide +kernel
abbrev own_R7 : Room := { frames := 0, cells := 0, slots := 0, locals := 0 }
theorem own_pn7 : plainFor (⟨"java/lang/Math", "min", "(II)I"⟩ : MethodName) = true := Jvm.Free.JP.mathPlain rfl (by decide +kernel)
theorem own_ef7 (m : MethodId) (p0 : Int32) (p1 : Int32) : entryFrame m #[(.int p0), (.int p1)] 2 = mkF m 0 #[.val (.int p0), .val (.int p1)] [] := by first | (simp [entryFrame, mkF, argsToLocals, Value.category]; done) | rfl
def own_F7 (p0 : Int32) (p1 : Int32) : Int32 := (if p1 < p0 then p1 else p0)
set_option maxRecDepth 65536 in
set_option maxHeartbeats 40000000 in
theorem own_rm7 (l : Launch) (Z : State) (a0 : Array Value) (hw : ∀ d ∈ tables_1, d.before a0 Z = true) (ws : List Jvm.Cond) (p0 : Int32) (p1 : Int32) (h0 : Heap) :
    own_C l Z (⟨"java/lang/Math", "min", "(II)I"⟩ : MethodName) jdk_29_method_69_code 2 (some .int) ws own_R7 #[(.int p0), (.int p1)] h0 (own_Q (.int (own_F7 p0 p1)) h0) := by
  refine MetFree.of_bodySF own_pn7 hisR ?_
  intro p e s m args below meth c s₁ Bd hml0 hP hK
  obtain ⟨rfl, hZ, hh⟩ := hP
  have hx := Bd.exec
  have hby := Bd.bytes
  have hml : c.maxLocals = 2 := hml0
  have hown : s.vm.findClass "java/lang/Math" = some m.cls := findClass_of_methodNamed Bd.named
  have X0 : Stand p l e own_R7 s m #[(.int p0), (.int p1)] below meth c s₁ [] 0 0 := Stand.of_body Bd
  have e0 : s₁.heap = h0 := by rw [← hh, Bd.state]; rfl
  show own_G p e below (own_P s (own_Q (.int (own_F7 p0 p1)) h0) own_R7.cells own_R7.slots) (s₁.setTop (entryFrame m #[(.int p0), (.int p1)] 2))
  rw [own_ef7 m p0 p1]
  show own_H s₁ 0 #[.val (.int p0), .val (.int p1)] []
  refine own_via (fun t k => XS.iloadN X0.here hx rfl (hb hby own_d7_0) rfl k) ?_
  refine own_via (fun t k => XS.iloadN X0.here hx rfl (hb hby own_d7_1) rfl k) ?_
  show own_H s₁ 2 #[.val (.int p0), .val (.int p1)] [(.int p1), (.int p0)]
  by_cases hc1 : p1 < p0
  ·
    refine own_via (fun t k => XS.icmpYes X0.here hx rfl (pc0 := 2) (pc' := 9) rfl (hb hby own_d7_2) rfl (tlt hc1).2.2.1 (by decide) (by decide) k) ?_
    show own_H s₁ 9 #[.val (.int p0), .val (.int p1)] []
    refine own_via (fun t k => XS.iloadN X0.here hx rfl (hb hby own_d7_9) rfl k) ?_
    show own_H s₁ 10 #[.val (.int p0), .val (.int p1)] [(.int p1)]
    exact own_retI X0 hx Bd.returns Bd.notSynchronized (hb hby own_d7_10) ⟨by show (some (.int p1) : Option Value) = some (.int (own_F7 p0 p1)); simp only [own_F7, if_pos hc1], rfl, e0⟩ (by decide) (by decide)
  ·
    refine own_via (fun t k => XS.icmpNo X0.here hx rfl (hb hby own_d7_2) rfl (flt hc1).2.2.1 k) ?_
    show own_H s₁ 5 #[.val (.int p0), .val (.int p1)] []
    refine own_via (fun t k => XS.iloadN X0.here hx rfl (hb hby own_d7_5) rfl k) ?_
    show own_H s₁ 6 #[.val (.int p0), .val (.int p1)] [(.int p0)]
    refine own_via (fun t k => XS.goto X0.here hx rfl (pc0 := 6) (pc' := 10) rfl (hb hby own_d7_6) (by decide) (by decide) k) ?_
    show own_H s₁ 10 #[.val (.int p0), .val (.int p1)] [(.int p0)]
    exact own_retI X0 hx Bd.returns Bd.notSynchronized (hb hby own_d7_10) ⟨by show (some (.int p0) : Option Value) = some (.int (own_F7 p0 p1)); simp only [own_F7, if_neg hc1], rfl, e0⟩ (by decide) (by decide)
theorem own_d5_0 : decode jdk_31_method_11_code 0 = .ok (.aload_n 0, 1) := by decide +kernel
theorem own_d5_1 : decode jdk_31_method_11_code 1 = .ok (.ifnonnull 12, 3) := by decide +kernel
theorem own_d5_13 : decode jdk_31_method_11_code 13 = .ok (.aload_n 0, 1) := by decide +kernel
theorem own_d5_14 : decode jdk_31_method_11_code 14 = .ok (.areturn, 1) := by decide +kernel
abbrev own_rn_R : Room := { frames := 0, cells := 0, slots := 0, locals := 0 }
theorem own_pn5 : plainFor (⟨"java/util/Objects", "requireNonNull", "(Ljava/lang/Object;Ljava/lang/String;)Ljava/lang/Object;"⟩ : MethodName) = true := plainFor_of_name (by first | (simp [plainName, overriddenIn]; done) | decide +kernel)
theorem own_rn_ef (m : MethodId) (a1 : Addr) (a2 : Addr) : entryFrame m #[(.ref a1), (.ref a2)] 2 = mkF m 0 #[.val (.ref a1), .val (.ref a2)] [] := by first | (simp [entryFrame, mkF, argsToLocals, Value.category]; done) | rfl
set_option maxRecDepth 65536 in
set_option maxHeartbeats 40000000 in
theorem own_rn (l : Launch) (Z : State) (a0 : Array Value) (hw : ∀ d ∈ tables_1, d.before a0 Z = true) (ws : List Jvm.Cond) (a1 : Addr) (a2 : Addr)  (h0 : Heap)   :
    own_C l Z (⟨"java/util/Objects", "requireNonNull", "(Ljava/lang/Object;Ljava/lang/String;)Ljava/lang/Object;"⟩ : MethodName) jdk_31_method_11_code 2 (some (.object "java/lang/Object")) ws own_rn_R #[(.ref a1), (.ref a2)] h0 (own_Q (.ref a1) h0) := by
  refine MetFree.of_bodySF own_pn5 hisR ?_
  intro p e s m args below meth c s₁ Bd hml0 hP hK
  obtain ⟨rfl, hZ, hh⟩ := hP
  have hx := Bd.exec
  have hby := Bd.bytes
  have hml : c.maxLocals = 2 := hml0
  have hown : s.vm.findClass "java/util/Objects" = some m.cls := findClass_of_methodNamed Bd.named
  have hnm := (name_of_methodNamed Bd.named Bd.method).1
  have X0 : Stand p l e own_rn_R s m #[(.ref a1), (.ref a2)] below meth c s₁ [] 0 0 := Stand.of_body Bd
  have e0 : s₁.heap = h0 := by rw [← hh, Bd.state]; rfl
  show own_G p e below (own_P s (own_Q (.ref a1) h0) own_rn_R.cells own_rn_R.slots) (s₁.setTop (entryFrame m #[(.ref a1), (.ref a2)] 2))
  rw [own_rn_ef m a1 a2]
  show own_H s₁ 0 #[.val (.ref a1), .val (.ref a2)] []
  refine own_via (fun t k => XS.aloadN X0.here hx rfl (hb hby own_d5_0) rfl rfl k) ?_
  show own_H s₁ 1 #[.val (.ref a1), .val (.ref a2)] [(.ref a1)]
  refine own_via (fun t k => XS.ifnonnullYes X0.here hx rfl (pc0 := 1) (pc' := 13) rfl (hb hby own_d5_1) rfl (by decide) (by decide) k) ?_
  show own_H s₁ 13 #[.val (.ref a1), .val (.ref a2)] []
  refine own_via (fun t k => XS.aloadN X0.here hx rfl (hb hby own_d5_13) rfl rfl k) ?_
  show own_H s₁ 14 #[.val (.ref a1), .val (.ref a2)] [(.ref a1)]
  exact own_retA X0 hx Bd.returns rfl rfl Bd.notSynchronized (hb hby own_d5_14) ⟨rfl, rfl, e0⟩ (by decide) (by decide)
theorem own_d4_0 : decode prog_9_method_2_code 0 = .ok (.aload_n 0, 1) := by decide +kernel
theorem own_d4_1 : decode prog_9_method_2_code 1 = .ok (.ldc 7, 2) := by decide +kernel
theorem own_d4_3 : decode prog_9_method_2_code 3 = .ok (.invokestatic 9, 3) := by decide +kernel
theorem own_d4_6 : decode prog_9_method_2_code 6 = .ok (.pop, 1) := by decide +kernel
theorem own_d4_7 : decode prog_9_method_2_code 7 = .ok (.aload_n 0, 1) := by decide +kernel
theorem own_d4_8 : decode prog_9_method_2_code 8 = .ok (.arraylength, 1) := by decide +kernel
theorem own_d4_9 : decode prog_9_method_2_code 9 = .ok (.ifCond .ne 13, 3) := by decide +kernel
theorem own_d4_22 : decode prog_9_method_2_code 22 = .ok (.aload_n 0, 1) := by decide +kernel
theorem own_d4_23 : decode prog_9_method_2_code 23 = .ok (.arraylength, 1) := by decide +kernel
theorem own_d4_24 : decode prog_9_method_2_code 24 = .ok (.newarray .int, 2) := by decide +kernel
theorem own_d4_26 : decode prog_9_method_2_code 26 = .ok (.astore_n 1, 1) := by decide +kernel
theorem own_d4_27 : decode prog_9_method_2_code 27 = .ok (.iconst 0, 1) := by decide +kernel
theorem own_d4_28 : decode prog_9_method_2_code 28 = .ok (.istore_n 2, 1) := by decide +kernel
theorem own_d4_29 : decode prog_9_method_2_code 29 = .ok (.iconst 1, 1) := by decide +kernel
theorem own_d4_30 : decode prog_9_method_2_code 30 = .ok (.istore_n 3, 1) := by decide +kernel
theorem own_d4_31 : decode prog_9_method_2_code 31 = .ok (.iload_n 3, 1) := by decide +kernel
theorem own_d4_32 : decode prog_9_method_2_code 32 = .ok (.aload_n 0, 1) := by decide +kernel
theorem own_d4_33 : decode prog_9_method_2_code 33 = .ok (.arraylength, 1) := by decide +kernel
theorem own_d4_34 : decode prog_9_method_2_code 34 = .ok (.if_icmp .ge 47, 3) := by decide +kernel
theorem own_d4_81 : decode prog_9_method_2_code 81 = .ok (.aload_n 1, 1) := by decide +kernel
theorem own_d4_82 : decode prog_9_method_2_code 82 = .ok (.areturn, 1) := by decide +kernel
abbrev own_of1_R : Room := { frames := 1, cells := 3, slots := 101, locals := 13 }
theorem own_pn4 : plainFor (⟨"com/example/skipstitch/skipstitch/PartialMatchTable", "of", "([I)[I"⟩ : MethodName) = true := plainFor_of_name (by first | (simp [plainName, overriddenIn]; done) | decide +kernel)
theorem own_of1_ef (m : MethodId) (a1 : Addr) : entryFrame m #[(.ref a1)] 4 = mkF m 0 #[.val (.ref a1), .unset, .unset, .unset] [] := by first | (simp [entryFrame, mkF, argsToLocals, Value.category]; done) | rfl
def own_of1_q (Z : State) (a1 : Addr) (k_1 : ClassId) (p0 : Int32) (h0 : Heap) (v : Option Value) (h : Heap) : Prop := ∃ (x : Addr) (kx : ClassId), v = some (.ref x) ∧ Keep h0 h [] ∧ h0.size ≤ x ∧ Arv Z h x kx .int (1 : Int32) [(.int (0 : Int32))] (.int (0 : Int32))
set_option maxRecDepth 65536 in
set_option maxHeartbeats 40000000 in
theorem own_of1 (l : Launch) (Z : State) (a0 : Array Value) (hw : ∀ d ∈ tables_1, d.before a0 Z = true) (ws : List Jvm.Cond) (a1 : Addr) (k_1 : ClassId) (p0 : Int32) (h0 : Heap) (n0 : Nat) (Z0 : n0 ≤ h0.size) (i_A1 : Arv Z h0 a1 k_1 .int (1 : Int32) [(.int p0)] (.int (0 : Int32))) :
    own_CW l Z (⟨"com/example/skipstitch/skipstitch/PartialMatchTable", "of", "([I)[I"⟩ : MethodName) prog_9_method_2_code 4 (some (.array .int)) ws own_of1_R #[(.ref a1)] h0 (own_W n0 (own_of1_q Z a1 k_1 p0 h0)) := by
  refine MetFree.of_bodySF own_pn4 hisR ?_
  intro p e s m args below meth c s₁ Bd hml0 hP hK
  obtain ⟨rfl, hZ, hh⟩ := hP
  have hx := Bd.exec
  have hby := Bd.bytes
  have hml : c.maxLocals = 4 := hml0
  have hown : s.vm.findClass "com/example/skipstitch/skipstitch/PartialMatchTable" = some m.cls := findClass_of_methodNamed Bd.named
  have hnm := (name_of_methodNamed Bd.named Bd.method).1
  have X0 : Stand p l e own_of1_R s m #[(.ref a1)] below meth c s₁ [] 0 0 := Stand.of_body Bd
  have e0 : s₁.heap = h0 := by rw [← hh, Bd.state]; rfl
  have N0 := Fr.nil n0
  have K0 : Keep h0 h0 [] := Keep.refl h0 _
  have S0 := own_S0 s
  have W0 : 0 ≤ h0.size := Nat.zero_le _
  obtain ⟨Pw, hPw⟩ : ∃ P, P = (own_PW s (own_W n0 (own_of1_q Z a1 k_1 p0 h0)) own_of1_R.cells own_of1_R.slots) := ⟨_, rfl⟩
  show own_G p e below (own_PW s (own_W n0 (own_of1_q Z a1 k_1 p0 h0)) own_of1_R.cells own_of1_R.slots) (s₁.setTop (entryFrame m #[(.ref a1)] 4))
  rw [← hPw]
  rw [own_of1_ef m a1]
  show own_H s₁ 0 #[.val (.ref a1), .unset, .unset, .unset] []
  refine own_via (fun t k => XS.aloadN X0.here hx rfl (hb hby own_d4_0) rfl rfl k) ?_
  show own_H s₁ 1 #[.val (.ref a1), .unset, .unset, .unset] [(.ref a1)]
  obtain ⟨b1, T1, h1, s, kw1, X1, e1, E1, S1, Wk1, hZ, hown, st1⟩ := own_ldc S0 W0 X0 hx hZ hown (own_u hw 20 rfl) (own_wS hw) e0 (pc := 1) (Ls := #[.val (.ref a1), .unset, .unset, .unset]) (rest := [(.ref a1)]) (hb hby own_d4_1) (n := 96) (by decide) (by decide) (by decide) (by decide)
  refine own_via st1 ?_
  have f2 := i_A1.ext E1
  have Kp3 := K0.ext E1
  show own_H T1 3 #[.val (.ref a1), .unset, .unset, .unset] [(.ref b1), (.ref a1)]
  clear i_A1 K0
  obtain ⟨T5, X5, e5, st5⟩ := own_callP (y := (⟨"java/util/Objects", "requireNonNull", "(Ljava/lang/Object;Ljava/lang/String;)Ljava/lang/Object;"⟩ : MethodName)) (W := 0) X1 hx hZ hown (own_u hw 28 rfl) (own_u hw 29 rfl) (own_u hw 30 rfl) (own_u hw 31 rfl) (by decide) (own_rn l Z a0 hw [] a1 b1 h1 ) (by decide) (by decide) rfl rfl (by decide) (by decide) e1 (pc := 3) (Ls := #[.val (.ref a1), .unset, .unset, .unset]) (st := [(.ref b1), (.ref a1)]) (argsL := [(.ref a1), (.ref b1)]) (rest := []) (by rw [hml]; rfl) (lenOf own_pd0 rfl) rfl rfl (Nat.le_of_eq rfl) (hb hby own_d4_3)
  refine own_via st5 ?_
  show own_H T5 6 #[.val (.ref a1), .unset, .unset, .unset] [(.ref a1)]
  refine own_via (fun t k => XS.pop X5.here hx rfl (hb hby own_d4_6) rfl rfl k) ?_
  refine own_via (fun t k => XS.aloadN X5.here hx rfl (hb hby own_d4_7) rfl rfl k) ?_
  show own_H T5 8 #[.val (.ref a1), .unset, .unset, .unset] [(.ref a1)]
  refine own_via (own_len X5 hx hZ e5 f2 (pc := 8) (Ls := #[.val (.ref a1), .unset, .unset, .unset]) (rest := []) (hb hby own_d4_8)) ?_
  show own_H T5 9 #[.val (.ref a1), .unset, .unset, .unset] [(.int (1 : Int32))]
  refine own_via (fun t k => XS.ifYes X5.here hx rfl (pc0 := 9) (pc' := 22) rfl (hb hby own_d4_9) rfl ((if0 _ _).trans (feq (by decide : ¬ ((1 : Int32) = (0 : Int32)))).2) (by decide) (by decide) k) ?_
  show own_H T5 22 #[.val (.ref a1), .unset, .unset, .unset] []
  refine own_via (fun t k => XS.aloadN X5.here hx rfl (hb hby own_d4_22) rfl rfl k) ?_
  show own_H T5 23 #[.val (.ref a1), .unset, .unset, .unset] [(.ref a1)]
  refine own_via (own_len X5 hx hZ e5 f2 (pc := 23) (Ls := #[.val (.ref a1), .unset, .unset, .unset]) (rest := []) (hb hby own_d4_23)) ?_
  show own_H T5 24 #[.val (.ref a1), .unset, .unset, .unset] [(.int (1 : Int32))]
  obtain ⟨T6, h6, k6, b6, X6, e6, E6, ga6, V6, Ex6, st6⟩ := own_newA X5 hx hZ (own_u hw 0 rfl) e5 (pc := 24) (Ls := #[.val (.ref a1), .unset, .unset, .unset]) (rest := []) (hb hby own_d4_24) (n := (1 : Int32)) (by decide) (cap := 1) (by decide) (by decide) (by decide) (by decide) 1 rfl
  refine own_via st6 ?_
  have sz_b6 : h0.size ≤ b6 := Nat.le_trans Kp3.1 (Nat.le_of_eq ga6.symm)
  have f8 := f2.ext E6
  have Kp9 := Kp3.ext E6
  have f10 : Arv Z h6 b6 k6 .int (1 : Int32) [(.int (0 : Int32))] (.int (0 : Int32)) := V6
  have Wk11 : kw1 ≤ h6.size := Nat.le_trans Wk1 E6.1
  show own_H T6 26 #[.val (.ref a1), .unset, .unset, .unset] [(.ref b6)]
  clear f2 Kp3 Wk1
  refine own_via (fun t k => XS.astoreN X6.here hx rfl (hb hby own_d4_26) rfl rfl (l' := #[.val (.ref a1), .val (.ref b6), .unset, .unset]) rfl k) ?_
  refine own_via (fun t k => XS.iconst X6.here hx rfl (hb hby own_d4_27) k) ?_
  show own_H T6 28 #[.val (.ref a1), .val (.ref b6), .unset, .unset] [(.int (0 : Int32))]
  refine own_via (fun t k => XS.istoreN X6.here hx rfl (hb hby own_d4_28) rfl (l' := #[.val (.ref a1), .val (.ref b6), .val (.int (0 : Int32)), .unset]) rfl k) ?_
  refine own_via (fun t k => XS.iconst X6.here hx rfl (hb hby own_d4_29) k) ?_
  show own_H T6 30 #[.val (.ref a1), .val (.ref b6), .val (.int (0 : Int32)), .unset] [(.int (1 : Int32))]
  refine own_via (fun t k => XS.istoreN X6.here hx rfl (hb hby own_d4_30) rfl (l' := #[.val (.ref a1), .val (.ref b6), .val (.int (0 : Int32)), .val (.int (1 : Int32))]) rfl k) ?_
  refine own_via (fun t k => XS.iloadN X6.here hx rfl (hb hby own_d4_31) rfl k) ?_
  refine own_via (fun t k => XS.aloadN X6.here hx rfl (hb hby own_d4_32) rfl rfl k) ?_
  show own_H T6 33 #[.val (.ref a1), .val (.ref b6), .val (.int (0 : Int32)), .val (.int (1 : Int32))] [(.ref a1), (.int (1 : Int32))]
  refine own_via (own_len X6 hx hZ e6 f8 (pc := 33) (Ls := #[.val (.ref a1), .val (.ref b6), .val (.int (0 : Int32)), .val (.int (1 : Int32))]) (rest := [(.int (1 : Int32))]) (hb hby own_d4_33)) ?_
  show own_H T6 34 #[.val (.ref a1), .val (.ref b6), .val (.int (0 : Int32)), .val (.int (1 : Int32))] [(.int (1 : Int32)), (.int (1 : Int32))]
  refine own_via (fun t k => XS.icmpYes X6.here hx rfl (pc0 := 34) (pc' := 81) rfl (hb hby own_d4_34) rfl (flt (by decide : ¬ ((1 : Int32) < (1 : Int32)))).2.1 (by decide) (by decide) k) ?_
  show own_H T6 81 #[.val (.ref a1), .val (.ref b6), .val (.int (0 : Int32)), .val (.int (1 : Int32))] []
  refine own_via (fun t k => XS.aloadN X6.here hx rfl (hb hby own_d4_81) rfl rfl k) ?_
  show own_H T6 82 #[.val (.ref a1), .val (.ref b6), .val (.int (0 : Int32)), .val (.int (1 : Int32))] [(.ref b6)]
  rw [hPw]
  refine own_wide S1 ?_
  exact own_retA X6 hx Bd.returns rfl rfl Bd.notSynchronized (hb hby own_d4_82) (by rw [e6]; exact ⟨⟨N0, b6, k6, rfl, Kp9, sz_b6, f10⟩, Wk11⟩) (by decide) (by decide)
theorem own_d4_37 : decode prog_9_method_2_code 37 = .ok (.iload_n 2, 1) := by decide +kernel
theorem own_d4_38 : decode prog_9_method_2_code 38 = .ok (.ifCond .le 21, 3) := by decide +kernel
theorem own_d4_59 : decode prog_9_method_2_code 59 = .ok (.aload_n 0, 1) := by decide +kernel
theorem own_d4_60 : decode prog_9_method_2_code 60 = .ok (.iload_n 3, 1) := by decide +kernel
theorem own_d4_61 : decode prog_9_method_2_code 61 = .ok (.iaload, 1) := by decide +kernel
theorem own_d4_62 : decode prog_9_method_2_code 62 = .ok (.aload_n 0, 1) := by decide +kernel
theorem own_d4_63 : decode prog_9_method_2_code 63 = .ok (.iload_n 2, 1) := by decide +kernel
theorem own_d4_64 : decode prog_9_method_2_code 64 = .ok (.iaload, 1) := by decide +kernel
theorem own_d4_65 : decode prog_9_method_2_code 65 = .ok (.if_icmp .ne 6, 3) := by decide +kernel
theorem own_d4_68 : decode prog_9_method_2_code 68 = .ok (.iinc 2 1, 3) := by decide +kernel
theorem own_d4_71 : decode prog_9_method_2_code 71 = .ok (.aload_n 1, 1) := by decide +kernel
theorem own_d4_72 : decode prog_9_method_2_code 72 = .ok (.iload_n 3, 1) := by decide +kernel
theorem own_d4_73 : decode prog_9_method_2_code 73 = .ok (.iload_n 2, 1) := by decide +kernel
theorem own_d4_74 : decode prog_9_method_2_code 74 = .ok (.iastore, 1) := by decide +kernel
theorem own_d4_75 : decode prog_9_method_2_code 75 = .ok (.iinc 3 1, 3) := by decide +kernel
theorem own_d4_78 : decode prog_9_method_2_code 78 = .ok (.goto (-47), 3) := by decide +kernel
abbrev own_of2_R : Room := { frames := 1, cells := 3, slots := 102, locals := 13 }
theorem own_of2_ef (m : MethodId) (a1 : Addr) : entryFrame m #[(.ref a1)] 4 = mkF m 0 #[.val (.ref a1), .unset, .unset, .unset] [] := by first | (simp [entryFrame, mkF, argsToLocals, Value.category]; done) | rfl
def own_of2_q (Z : State) (a1 : Addr) (k_1 : ClassId) (p0 : Int32) (p1 : Int32) (h0 : Heap) (v : Option Value) (h : Heap) : Prop := ∃ (x : Addr) (kx : ClassId), v = some (.ref x) ∧ Keep h0 h [] ∧ h0.size ≤ x ∧ Arv Z h x kx .int (2 : Int32) [(.int (0 : Int32)), (.int (own_t1 p0 p1))] (.int (0 : Int32))
set_option maxRecDepth 65536 in
set_option maxHeartbeats 40000000 in
theorem own_of2 (l : Launch) (Z : State) (a0 : Array Value) (hw : ∀ d ∈ tables_1, d.before a0 Z = true) (ws : List Jvm.Cond) (a1 : Addr) (k_1 : ClassId) (p0 : Int32) (p1 : Int32) (h0 : Heap) (n0 : Nat) (Z0 : n0 ≤ h0.size) (i_A1 : Arv Z h0 a1 k_1 .int (2 : Int32) [(.int p0), (.int p1)] (.int (0 : Int32))) :
    own_CW l Z (⟨"com/example/skipstitch/skipstitch/PartialMatchTable", "of", "([I)[I"⟩ : MethodName) prog_9_method_2_code 4 (some (.array .int)) ws own_of2_R #[(.ref a1)] h0 (own_W n0 (own_of2_q Z a1 k_1 p0 p1 h0)) := by
  refine MetFree.of_bodySF own_pn4 hisR ?_
  intro p e s m args below meth c s₁ Bd hml0 hP hK
  obtain ⟨rfl, hZ, hh⟩ := hP
  have hx := Bd.exec
  have hby := Bd.bytes
  have hml : c.maxLocals = 4 := hml0
  have hown : s.vm.findClass "com/example/skipstitch/skipstitch/PartialMatchTable" = some m.cls := findClass_of_methodNamed Bd.named
  have hnm := (name_of_methodNamed Bd.named Bd.method).1
  have X0 : Stand p l e own_of2_R s m #[(.ref a1)] below meth c s₁ [] 0 0 := Stand.of_body Bd
  have e0 : s₁.heap = h0 := by rw [← hh, Bd.state]; rfl
  have N0 := Fr.nil n0
  have K0 : Keep h0 h0 [] := Keep.refl h0 _
  have S0 := own_S0 s
  have W0 : 0 ≤ h0.size := Nat.zero_le _
  obtain ⟨Pw, hPw⟩ : ∃ P, P = (own_PW s (own_W n0 (own_of2_q Z a1 k_1 p0 p1 h0)) own_of2_R.cells own_of2_R.slots) := ⟨_, rfl⟩
  show own_G p e below (own_PW s (own_W n0 (own_of2_q Z a1 k_1 p0 p1 h0)) own_of2_R.cells own_of2_R.slots) (s₁.setTop (entryFrame m #[(.ref a1)] 4))
  rw [← hPw]
  rw [own_of2_ef m a1]
  show own_H s₁ 0 #[.val (.ref a1), .unset, .unset, .unset] []
  refine own_via (fun t k => XS.aloadN X0.here hx rfl (hb hby own_d4_0) rfl rfl k) ?_
  show own_H s₁ 1 #[.val (.ref a1), .unset, .unset, .unset] [(.ref a1)]
  obtain ⟨b1, T1, h1, s, kw1, X1, e1, E1, S1, Wk1, hZ, hown, st1⟩ := own_ldc S0 W0 X0 hx hZ hown (own_u hw 20 rfl) (own_wS hw) e0 (pc := 1) (Ls := #[.val (.ref a1), .unset, .unset, .unset]) (rest := [(.ref a1)]) (hb hby own_d4_1) (n := 96) (by decide) (by decide) (by decide) (by decide)
  refine own_via st1 ?_
  have f2 := i_A1.ext E1
  have Kp3 := K0.ext E1
  have Zs4 : n0 ≤ h1.size := Nat.le_trans Z0 E1.1
  show own_H T1 3 #[.val (.ref a1), .unset, .unset, .unset] [(.ref b1), (.ref a1)]
  clear i_A1 K0
  obtain ⟨T5, X5, e5, st5⟩ := own_callP (y := (⟨"java/util/Objects", "requireNonNull", "(Ljava/lang/Object;Ljava/lang/String;)Ljava/lang/Object;"⟩ : MethodName)) (W := 0) X1 hx hZ hown (own_u hw 28 rfl) (own_u hw 29 rfl) (own_u hw 30 rfl) (own_u hw 31 rfl) (by decide) (own_rn l Z a0 hw [] a1 b1 h1 ) (by decide) (by decide) rfl rfl (by decide) (by decide) e1 (pc := 3) (Ls := #[.val (.ref a1), .unset, .unset, .unset]) (st := [(.ref b1), (.ref a1)]) (argsL := [(.ref a1), (.ref b1)]) (rest := []) (by rw [hml]; rfl) (lenOf own_pd0 rfl) rfl rfl (Nat.le_of_eq rfl) (hb hby own_d4_3)
  refine own_via st5 ?_
  show own_H T5 6 #[.val (.ref a1), .unset, .unset, .unset] [(.ref a1)]
  refine own_via (fun t k => XS.pop X5.here hx rfl (hb hby own_d4_6) rfl rfl k) ?_
  refine own_via (fun t k => XS.aloadN X5.here hx rfl (hb hby own_d4_7) rfl rfl k) ?_
  show own_H T5 8 #[.val (.ref a1), .unset, .unset, .unset] [(.ref a1)]
  refine own_via (own_len X5 hx hZ e5 f2 (pc := 8) (Ls := #[.val (.ref a1), .unset, .unset, .unset]) (rest := []) (hb hby own_d4_8)) ?_
  show own_H T5 9 #[.val (.ref a1), .unset, .unset, .unset] [(.int (2 : Int32))]
  refine own_via (fun t k => XS.ifYes X5.here hx rfl (pc0 := 9) (pc' := 22) rfl (hb hby own_d4_9) rfl ((if0 _ _).trans (feq (by decide : ¬ ((2 : Int32) = (0 : Int32)))).2) (by decide) (by decide) k) ?_
  show own_H T5 22 #[.val (.ref a1), .unset, .unset, .unset] []
  refine own_via (fun t k => XS.aloadN X5.here hx rfl (hb hby own_d4_22) rfl rfl k) ?_
  show own_H T5 23 #[.val (.ref a1), .unset, .unset, .unset] [(.ref a1)]
  refine own_via (own_len X5 hx hZ e5 f2 (pc := 23) (Ls := #[.val (.ref a1), .unset, .unset, .unset]) (rest := []) (hb hby own_d4_23)) ?_
  show own_H T5 24 #[.val (.ref a1), .unset, .unset, .unset] [(.int (2 : Int32))]
  obtain ⟨T6, h6, k6, b6, X6, e6, E6, ga6, V6, Ex6, st6⟩ := own_newA X5 hx hZ (own_u hw 0 rfl) e5 (pc := 24) (Ls := #[.val (.ref a1), .unset, .unset, .unset]) (rest := []) (hb hby own_d4_24) (n := (2 : Int32)) (by decide) (cap := 2) (by decide) (by decide) (by decide) (by decide) 2 rfl
  refine own_via st6 ?_
  have sz_b6 : h0.size ≤ b6 := Nat.le_trans Kp3.1 (Nat.le_of_eq ga6.symm)
  have ne7 : a1 ≠ b6 := Nat.ne_of_lt (Nat.lt_of_lt_of_le f2.lt (Nat.le_of_eq ga6.symm))
  have f8 := f2.ext E6
  have Kp9 := Kp3.ext E6
  have f10 : Arv Z h6 b6 k6 .int (2 : Int32) [(.int (0 : Int32)), (.int (0 : Int32))] (.int (0 : Int32)) := V6
  have g_b6 : n0 ≤ b6 := Nat.le_trans Zs4 (Nat.le_of_eq ga6.symm)
  have Wk11 : kw1 ≤ h6.size := Nat.le_trans Wk1 E6.1
  show own_H T6 26 #[.val (.ref a1), .unset, .unset, .unset] [(.ref b6)]
  clear f2 Kp3 Zs4 Wk1
  refine own_via (fun t k => XS.astoreN X6.here hx rfl (hb hby own_d4_26) rfl rfl (l' := #[.val (.ref a1), .val (.ref b6), .unset, .unset]) rfl k) ?_
  refine own_via (fun t k => XS.iconst X6.here hx rfl (hb hby own_d4_27) k) ?_
  show own_H T6 28 #[.val (.ref a1), .val (.ref b6), .unset, .unset] [(.int (0 : Int32))]
  refine own_via (fun t k => XS.istoreN X6.here hx rfl (hb hby own_d4_28) rfl (l' := #[.val (.ref a1), .val (.ref b6), .val (.int (0 : Int32)), .unset]) rfl k) ?_
  refine own_via (fun t k => XS.iconst X6.here hx rfl (hb hby own_d4_29) k) ?_
  show own_H T6 30 #[.val (.ref a1), .val (.ref b6), .val (.int (0 : Int32)), .unset] [(.int (1 : Int32))]
  refine own_via (fun t k => XS.istoreN X6.here hx rfl (hb hby own_d4_30) rfl (l' := #[.val (.ref a1), .val (.ref b6), .val (.int (0 : Int32)), .val (.int (1 : Int32))]) rfl k) ?_
  refine own_via (fun t k => XS.iloadN X6.here hx rfl (hb hby own_d4_31) rfl k) ?_
  refine own_via (fun t k => XS.aloadN X6.here hx rfl (hb hby own_d4_32) rfl rfl k) ?_
  show own_H T6 33 #[.val (.ref a1), .val (.ref b6), .val (.int (0 : Int32)), .val (.int (1 : Int32))] [(.ref a1), (.int (1 : Int32))]
  refine own_via (own_len X6 hx hZ e6 f8 (pc := 33) (Ls := #[.val (.ref a1), .val (.ref b6), .val (.int (0 : Int32)), .val (.int (1 : Int32))]) (rest := [(.int (1 : Int32))]) (hb hby own_d4_33)) ?_
  show own_H T6 34 #[.val (.ref a1), .val (.ref b6), .val (.int (0 : Int32)), .val (.int (1 : Int32))] [(.int (2 : Int32)), (.int (1 : Int32))]
  refine own_via (fun t k => XS.icmpNo X6.here hx rfl (hb hby own_d4_34) rfl (tlt (by decide : (1 : Int32) < (2 : Int32))).2.1 k) ?_
  show own_H T6 37 #[.val (.ref a1), .val (.ref b6), .val (.int (0 : Int32)), .val (.int (1 : Int32))] []
  refine own_via (fun t k => XS.iloadN X6.here hx rfl (hb hby own_d4_37) rfl k) ?_
  show own_H T6 38 #[.val (.ref a1), .val (.ref b6), .val (.int (0 : Int32)), .val (.int (1 : Int32))] [(.int (0 : Int32))]
  refine own_via (fun t k => XS.ifYes X6.here hx rfl (pc0 := 38) (pc' := 59) rfl (hb hby own_d4_38) rfl ((if0 _ _).trans (flt (by decide : ¬ ((0 : Int32) < (0 : Int32)))).2.2.2) (by decide) (by decide) k) ?_
  show own_H T6 59 #[.val (.ref a1), .val (.ref b6), .val (.int (0 : Int32)), .val (.int (1 : Int32))] []
  refine own_via (fun t k => XS.aloadN X6.here hx rfl (hb hby own_d4_59) rfl rfl k) ?_
  refine own_via (fun t k => XS.iloadN X6.here hx rfl (hb hby own_d4_60) rfl k) ?_
  show own_H T6 61 #[.val (.ref a1), .val (.ref b6), .val (.int (0 : Int32)), .val (.int (1 : Int32))] [(.int (1 : Int32)), (.ref a1)]
  refine own_via (own_ldI X6 hx hZ e6 f8 (j := (1 : Int32)) ⟨by decide, by decide⟩ (v := (.int p1)) rfl (pc := 61) (Ls := #[.val (.ref a1), .val (.ref b6), .val (.int (0 : Int32)), .val (.int (1 : Int32))]) (rest := []) (hb hby own_d4_61)) ?_
  show own_H T6 62 #[.val (.ref a1), .val (.ref b6), .val (.int (0 : Int32)), .val (.int (1 : Int32))] [(.int p1)]
  refine own_via (fun t k => XS.aloadN X6.here hx rfl (hb hby own_d4_62) rfl rfl k) ?_
  refine own_via (fun t k => XS.iloadN X6.here hx rfl (hb hby own_d4_63) rfl k) ?_
  show own_H T6 64 #[.val (.ref a1), .val (.ref b6), .val (.int (0 : Int32)), .val (.int (1 : Int32))] [(.int (0 : Int32)), (.ref a1), (.int p1)]
  refine own_via (own_ldI X6 hx hZ e6 f8 (j := (0 : Int32)) ⟨by decide, by decide⟩ (v := (.int p0)) rfl (pc := 64) (Ls := #[.val (.ref a1), .val (.ref b6), .val (.int (0 : Int32)), .val (.int (1 : Int32))]) (rest := [(.int p1)]) (hb hby own_d4_64)) ?_
  show own_H T6 65 #[.val (.ref a1), .val (.ref b6), .val (.int (0 : Int32)), .val (.int (1 : Int32))] [(.int p0), (.int p1)]
  by_cases hc13 : p1 = p0
  ·
    refine own_via (fun t k => XS.icmpNo X6.here hx rfl (hb hby own_d4_65) rfl (teq hc13).2 k) ?_
    show own_H T6 68 #[.val (.ref a1), .val (.ref b6), .val (.int (0 : Int32)), .val (.int (1 : Int32))] []
    refine own_via (fun t k => XS.iinc X6.here hx rfl (hb hby own_d4_68) rfl (l' := #[.val (.ref a1), .val (.ref b6), .val (.int (1 : Int32)), .val (.int (1 : Int32))]) rfl k) ?_
    refine own_via (fun t k => XS.aloadN X6.here hx rfl (hb hby own_d4_71) rfl rfl k) ?_
    refine own_via (fun t k => XS.iloadN X6.here hx rfl (hb hby own_d4_72) rfl k) ?_
    refine own_via (fun t k => XS.iloadN X6.here hx rfl (hb hby own_d4_73) rfl k) ?_
    show own_H T6 74 #[.val (.ref a1), .val (.ref b6), .val (.int (1 : Int32)), .val (.int (1 : Int32))] [(.int (1 : Int32)), (.int (1 : Int32)), (.ref b6)]
    obtain ⟨T14, h14, L14, X14, N14, e14, W14, V14, st14⟩ := own_stI X6 N0 hx hZ e6 f10 g_b6 (j := (1 : Int32)) (x := (1 : Int32)) (i := 1) ⟨by decide, by decide⟩ rfl (Nat.le_of_ble_eq_true rfl) (pc := 74) (Ls := #[.val (.ref a1), .val (.ref b6), .val (.int (1 : Int32)), .val (.int (1 : Int32))]) (rest := []) (hb hby own_d4_74)
    refine own_via st14 ?_
    have f15 := f8.other W14 ne7
    have Kp16 := Kp9.wr W14 (Or.inr sz_b6)
    have f17 : Arv Z h14 b6 k6 .int (2 : Int32) [(.int (0 : Int32)), (.int (1 : Int32))] (.int (0 : Int32)) := V14
    have Wk18 : kw1 ≤ h14.size := by rw [W14.size]; exact Wk11
    show own_H T14 75 #[.val (.ref a1), .val (.ref b6), .val (.int (1 : Int32)), .val (.int (1 : Int32))] []
    clear f8 f10 Kp9 Wk11
    refine own_via (fun t k => XS.iinc X14.here hx rfl (hb hby own_d4_75) rfl (l' := #[.val (.ref a1), .val (.ref b6), .val (.int (1 : Int32)), .val (.int (2 : Int32))]) rfl k) ?_
    show own_H T14 78 #[.val (.ref a1), .val (.ref b6), .val (.int (1 : Int32)), .val (.int (2 : Int32))] []
    refine own_via (fun t k => XS.goto X14.here hx rfl (pc0 := 78) (pc' := 31) rfl (hb hby own_d4_78) (by decide) (by decide) k) ?_
    refine own_via (fun t k => XS.iloadN X14.here hx rfl (hb hby own_d4_31) rfl k) ?_
    refine own_via (fun t k => XS.aloadN X14.here hx rfl (hb hby own_d4_32) rfl rfl k) ?_
    show own_H T14 33 #[.val (.ref a1), .val (.ref b6), .val (.int (1 : Int32)), .val (.int (2 : Int32))] [(.ref a1), (.int (2 : Int32))]
    refine own_via (own_len X14 hx hZ e14 f15 (pc := 33) (Ls := #[.val (.ref a1), .val (.ref b6), .val (.int (1 : Int32)), .val (.int (2 : Int32))]) (rest := [(.int (2 : Int32))]) (hb hby own_d4_33)) ?_
    show own_H T14 34 #[.val (.ref a1), .val (.ref b6), .val (.int (1 : Int32)), .val (.int (2 : Int32))] [(.int (2 : Int32)), (.int (2 : Int32))]
    refine own_via (fun t k => XS.icmpYes X14.here hx rfl (pc0 := 34) (pc' := 81) rfl (hb hby own_d4_34) rfl (flt (by decide : ¬ ((2 : Int32) < (2 : Int32)))).2.1 (by decide) (by decide) k) ?_
    show own_H T14 81 #[.val (.ref a1), .val (.ref b6), .val (.int (1 : Int32)), .val (.int (2 : Int32))] []
    refine own_via (fun t k => XS.aloadN X14.here hx rfl (hb hby own_d4_81) rfl rfl k) ?_
    show own_H T14 82 #[.val (.ref a1), .val (.ref b6), .val (.int (1 : Int32)), .val (.int (2 : Int32))] [(.ref b6)]
    have fo20 : Arv Z h14 b6 k6 .int (2 : Int32) [(.int (0 : Int32)), (.int (own_t1 p0 p1))] (.int (0 : Int32)) := by simp only [own_t1, if_pos hc13]; exact f17
    rw [hPw]
    refine own_wide S1 ?_
    exact own_retA X14 hx Bd.returns rfl rfl Bd.notSynchronized (hb hby own_d4_82) (by rw [e14]; exact ⟨⟨N14, b6, k6, rfl, Kp16, sz_b6, fo20⟩, Wk18⟩) (by decide) (by decide)
  ·
    refine own_via (fun t k => XS.icmpYes X6.here hx rfl (pc0 := 65) (pc' := 71) rfl (hb hby own_d4_65) rfl (feq hc13).2 (by decide) (by decide) k) ?_
    show own_H T6 71 #[.val (.ref a1), .val (.ref b6), .val (.int (0 : Int32)), .val (.int (1 : Int32))] []
    refine own_via (fun t k => XS.aloadN X6.here hx rfl (hb hby own_d4_71) rfl rfl k) ?_
    refine own_via (fun t k => XS.iloadN X6.here hx rfl (hb hby own_d4_72) rfl k) ?_
    refine own_via (fun t k => XS.iloadN X6.here hx rfl (hb hby own_d4_73) rfl k) ?_
    show own_H T6 74 #[.val (.ref a1), .val (.ref b6), .val (.int (0 : Int32)), .val (.int (1 : Int32))] [(.int (0 : Int32)), (.int (1 : Int32)), (.ref b6)]
    obtain ⟨T21, h21, L21, X21, N21, e21, W21, V21, st21⟩ := own_stI X6 N0 hx hZ e6 f10 g_b6 (j := (1 : Int32)) (x := (0 : Int32)) (i := 1) ⟨by decide, by decide⟩ rfl (Nat.le_of_ble_eq_true rfl) (pc := 74) (Ls := #[.val (.ref a1), .val (.ref b6), .val (.int (0 : Int32)), .val (.int (1 : Int32))]) (rest := []) (hb hby own_d4_74)
    refine own_via st21 ?_
    have f22 := f8.other W21 ne7
    have Kp23 := Kp9.wr W21 (Or.inr sz_b6)
    have f24 : Arv Z h21 b6 k6 .int (2 : Int32) [(.int (0 : Int32)), (.int (0 : Int32))] (.int (0 : Int32)) := V21
    have Wk25 : kw1 ≤ h21.size := by rw [W21.size]; exact Wk11
    show own_H T21 75 #[.val (.ref a1), .val (.ref b6), .val (.int (0 : Int32)), .val (.int (1 : Int32))] []
    clear f8 f10 Kp9 Wk11
    refine own_via (fun t k => XS.iinc X21.here hx rfl (hb hby own_d4_75) rfl (l' := #[.val (.ref a1), .val (.ref b6), .val (.int (0 : Int32)), .val (.int (2 : Int32))]) rfl k) ?_
    show own_H T21 78 #[.val (.ref a1), .val (.ref b6), .val (.int (0 : Int32)), .val (.int (2 : Int32))] []
    refine own_via (fun t k => XS.goto X21.here hx rfl (pc0 := 78) (pc' := 31) rfl (hb hby own_d4_78) (by decide) (by decide) k) ?_
    refine own_via (fun t k => XS.iloadN X21.here hx rfl (hb hby own_d4_31) rfl k) ?_
    refine own_via (fun t k => XS.aloadN X21.here hx rfl (hb hby own_d4_32) rfl rfl k) ?_
    show own_H T21 33 #[.val (.ref a1), .val (.ref b6), .val (.int (0 : Int32)), .val (.int (2 : Int32))] [(.ref a1), (.int (2 : Int32))]
    refine own_via (own_len X21 hx hZ e21 f22 (pc := 33) (Ls := #[.val (.ref a1), .val (.ref b6), .val (.int (0 : Int32)), .val (.int (2 : Int32))]) (rest := [(.int (2 : Int32))]) (hb hby own_d4_33)) ?_
    show own_H T21 34 #[.val (.ref a1), .val (.ref b6), .val (.int (0 : Int32)), .val (.int (2 : Int32))] [(.int (2 : Int32)), (.int (2 : Int32))]
    refine own_via (fun t k => XS.icmpYes X21.here hx rfl (pc0 := 34) (pc' := 81) rfl (hb hby own_d4_34) rfl (flt (by decide : ¬ ((2 : Int32) < (2 : Int32)))).2.1 (by decide) (by decide) k) ?_
    show own_H T21 81 #[.val (.ref a1), .val (.ref b6), .val (.int (0 : Int32)), .val (.int (2 : Int32))] []
    refine own_via (fun t k => XS.aloadN X21.here hx rfl (hb hby own_d4_81) rfl rfl k) ?_
    show own_H T21 82 #[.val (.ref a1), .val (.ref b6), .val (.int (0 : Int32)), .val (.int (2 : Int32))] [(.ref b6)]
    have fo27 : Arv Z h21 b6 k6 .int (2 : Int32) [(.int (0 : Int32)), (.int (own_t1 p0 p1))] (.int (0 : Int32)) := by simp only [own_t1, if_neg hc13]; exact f24
    rw [hPw]
    refine own_wide S1 ?_
    exact own_retA X21 hx Bd.returns rfl rfl Bd.notSynchronized (hb hby own_d4_82) (by rw [e21]; exact ⟨⟨N21, b6, k6, rfl, Kp23, sz_b6, fo27⟩, Wk25⟩) (by decide) (by decide)
theorem own_d4_41 : decode prog_9_method_2_code 41 = .ok (.aload_n 0, 1) := by decide +kernel
theorem own_d4_42 : decode prog_9_method_2_code 42 = .ok (.iload_n 3, 1) := by decide +kernel
theorem own_d4_43 : decode prog_9_method_2_code 43 = .ok (.iaload, 1) := by decide +kernel
theorem own_d4_44 : decode prog_9_method_2_code 44 = .ok (.aload_n 0, 1) := by decide +kernel
theorem own_d4_45 : decode prog_9_method_2_code 45 = .ok (.iload_n 2, 1) := by decide +kernel
theorem own_d4_46 : decode prog_9_method_2_code 46 = .ok (.iaload, 1) := by decide +kernel
theorem own_d4_47 : decode prog_9_method_2_code 47 = .ok (.if_icmp .eq 12, 3) := by decide +kernel
theorem own_d4_50 : decode prog_9_method_2_code 50 = .ok (.aload_n 1, 1) := by decide +kernel
theorem own_d4_51 : decode prog_9_method_2_code 51 = .ok (.iload_n 2, 1) := by decide +kernel
theorem own_d4_52 : decode prog_9_method_2_code 52 = .ok (.iconst 1, 1) := by decide +kernel
theorem own_d4_53 : decode prog_9_method_2_code 53 = .ok (.isub, 1) := by decide +kernel
theorem own_d4_54 : decode prog_9_method_2_code 54 = .ok (.iaload, 1) := by decide +kernel
theorem own_d4_55 : decode prog_9_method_2_code 55 = .ok (.istore_n 2, 1) := by decide +kernel
theorem own_d4_56 : decode prog_9_method_2_code 56 = .ok (.goto (-19), 3) := by decide +kernel
abbrev own_of3_R : Room := { frames := 1, cells := 3, slots := 103, locals := 13 }
theorem own_of3_ef (m : MethodId) (a1 : Addr) : entryFrame m #[(.ref a1)] 4 = mkF m 0 #[.val (.ref a1), .unset, .unset, .unset] [] := by first | (simp [entryFrame, mkF, argsToLocals, Value.category]; done) | rfl
def own_of3_q (Z : State) (a1 : Addr) (k_1 : ClassId) (p0 : Int32) (p1 : Int32) (p2 : Int32) (h0 : Heap) (v : Option Value) (h : Heap) : Prop := ∃ (x : Addr) (kx : ClassId), v = some (.ref x) ∧ Keep h0 h [] ∧ h0.size ≤ x ∧ Arv Z h x kx .int (3 : Int32) [(.int (0 : Int32)), (.int (own_t1 p0 p1)), (.int (own_t2 p0 p1 p2))] (.int (0 : Int32))
set_option maxRecDepth 65536 in
set_option maxHeartbeats 40000000 in
theorem own_of3 (l : Launch) (Z : State) (a0 : Array Value) (hw : ∀ d ∈ tables_1, d.before a0 Z = true) (ws : List Jvm.Cond) (a1 : Addr) (k_1 : ClassId) (p0 : Int32) (p1 : Int32) (p2 : Int32) (h0 : Heap) (n0 : Nat) (Z0 : n0 ≤ h0.size) (i_A1 : Arv Z h0 a1 k_1 .int (3 : Int32) [(.int p0), (.int p1), (.int p2)] (.int (0 : Int32))) :
    own_CW l Z (⟨"com/example/skipstitch/skipstitch/PartialMatchTable", "of", "([I)[I"⟩ : MethodName) prog_9_method_2_code 4 (some (.array .int)) ws own_of3_R #[(.ref a1)] h0 (own_W n0 (own_of3_q Z a1 k_1 p0 p1 p2 h0)) := by
  refine MetFree.of_bodySF own_pn4 hisR ?_
  intro p e s m args below meth c s₁ Bd hml0 hP hK
  obtain ⟨rfl, hZ, hh⟩ := hP
  have hx := Bd.exec
  have hby := Bd.bytes
  have hml : c.maxLocals = 4 := hml0
  have hown : s.vm.findClass "com/example/skipstitch/skipstitch/PartialMatchTable" = some m.cls := findClass_of_methodNamed Bd.named
  have hnm := (name_of_methodNamed Bd.named Bd.method).1
  have X0 : Stand p l e own_of3_R s m #[(.ref a1)] below meth c s₁ [] 0 0 := Stand.of_body Bd
  have e0 : s₁.heap = h0 := by rw [← hh, Bd.state]; rfl
  have N0 := Fr.nil n0
  have K0 : Keep h0 h0 [] := Keep.refl h0 _
  have S0 := own_S0 s
  have W0 : 0 ≤ h0.size := Nat.zero_le _
  obtain ⟨Pw, hPw⟩ : ∃ P, P = (own_PW s (own_W n0 (own_of3_q Z a1 k_1 p0 p1 p2 h0)) own_of3_R.cells own_of3_R.slots) := ⟨_, rfl⟩
  show own_G p e below (own_PW s (own_W n0 (own_of3_q Z a1 k_1 p0 p1 p2 h0)) own_of3_R.cells own_of3_R.slots) (s₁.setTop (entryFrame m #[(.ref a1)] 4))
  rw [← hPw]
  rw [own_of3_ef m a1]
  show own_H s₁ 0 #[.val (.ref a1), .unset, .unset, .unset] []
  refine own_via (fun t k => XS.aloadN X0.here hx rfl (hb hby own_d4_0) rfl rfl k) ?_
  show own_H s₁ 1 #[.val (.ref a1), .unset, .unset, .unset] [(.ref a1)]
  obtain ⟨b1, T1, h1, s, kw1, X1, e1, E1, S1, Wk1, hZ, hown, st1⟩ := own_ldc S0 W0 X0 hx hZ hown (own_u hw 20 rfl) (own_wS hw) e0 (pc := 1) (Ls := #[.val (.ref a1), .unset, .unset, .unset]) (rest := [(.ref a1)]) (hb hby own_d4_1) (n := 96) (by decide) (by decide) (by decide) (by decide)
  refine own_via st1 ?_
  have f2 := i_A1.ext E1
  have Kp3 := K0.ext E1
  have Zs4 : n0 ≤ h1.size := Nat.le_trans Z0 E1.1
  show own_H T1 3 #[.val (.ref a1), .unset, .unset, .unset] [(.ref b1), (.ref a1)]
  clear i_A1 K0
  obtain ⟨T5, X5, e5, st5⟩ := own_callP (y := (⟨"java/util/Objects", "requireNonNull", "(Ljava/lang/Object;Ljava/lang/String;)Ljava/lang/Object;"⟩ : MethodName)) (W := 0) X1 hx hZ hown (own_u hw 28 rfl) (own_u hw 29 rfl) (own_u hw 30 rfl) (own_u hw 31 rfl) (by decide) (own_rn l Z a0 hw [] a1 b1 h1 ) (by decide) (by decide) rfl rfl (by decide) (by decide) e1 (pc := 3) (Ls := #[.val (.ref a1), .unset, .unset, .unset]) (st := [(.ref b1), (.ref a1)]) (argsL := [(.ref a1), (.ref b1)]) (rest := []) (by rw [hml]; rfl) (lenOf own_pd0 rfl) rfl rfl (Nat.le_of_eq rfl) (hb hby own_d4_3)
  refine own_via st5 ?_
  show own_H T5 6 #[.val (.ref a1), .unset, .unset, .unset] [(.ref a1)]
  refine own_via (fun t k => XS.pop X5.here hx rfl (hb hby own_d4_6) rfl rfl k) ?_
  refine own_via (fun t k => XS.aloadN X5.here hx rfl (hb hby own_d4_7) rfl rfl k) ?_
  show own_H T5 8 #[.val (.ref a1), .unset, .unset, .unset] [(.ref a1)]
  refine own_via (own_len X5 hx hZ e5 f2 (pc := 8) (Ls := #[.val (.ref a1), .unset, .unset, .unset]) (rest := []) (hb hby own_d4_8)) ?_
  show own_H T5 9 #[.val (.ref a1), .unset, .unset, .unset] [(.int (3 : Int32))]
  refine own_via (fun t k => XS.ifYes X5.here hx rfl (pc0 := 9) (pc' := 22) rfl (hb hby own_d4_9) rfl ((if0 _ _).trans (feq (by decide : ¬ ((3 : Int32) = (0 : Int32)))).2) (by decide) (by decide) k) ?_
  show own_H T5 22 #[.val (.ref a1), .unset, .unset, .unset] []
  refine own_via (fun t k => XS.aloadN X5.here hx rfl (hb hby own_d4_22) rfl rfl k) ?_
  show own_H T5 23 #[.val (.ref a1), .unset, .unset, .unset] [(.ref a1)]
  refine own_via (own_len X5 hx hZ e5 f2 (pc := 23) (Ls := #[.val (.ref a1), .unset, .unset, .unset]) (rest := []) (hb hby own_d4_23)) ?_
  show own_H T5 24 #[.val (.ref a1), .unset, .unset, .unset] [(.int (3 : Int32))]
  obtain ⟨T6, h6, k6, b6, X6, e6, E6, ga6, V6, Ex6, st6⟩ := own_newA X5 hx hZ (own_u hw 0 rfl) e5 (pc := 24) (Ls := #[.val (.ref a1), .unset, .unset, .unset]) (rest := []) (hb hby own_d4_24) (n := (3 : Int32)) (by decide) (cap := 3) (by decide) (by decide) (by decide) (by decide) 3 rfl
  refine own_via st6 ?_
  have sz_b6 : h0.size ≤ b6 := Nat.le_trans Kp3.1 (Nat.le_of_eq ga6.symm)
  have ne7 : a1 ≠ b6 := Nat.ne_of_lt (Nat.lt_of_lt_of_le f2.lt (Nat.le_of_eq ga6.symm))
  have f8 := f2.ext E6
  have Kp9 := Kp3.ext E6
  have f10 : Arv Z h6 b6 k6 .int (3 : Int32) [(.int (0 : Int32)), (.int (0 : Int32)), (.int (0 : Int32))] (.int (0 : Int32)) := V6
  have g_b6 : n0 ≤ b6 := Nat.le_trans Zs4 (Nat.le_of_eq ga6.symm)
  have Wk11 : kw1 ≤ h6.size := Nat.le_trans Wk1 E6.1
  show own_H T6 26 #[.val (.ref a1), .unset, .unset, .unset] [(.ref b6)]
  clear f2 Kp3 Zs4 Wk1
  refine own_via (fun t k => XS.astoreN X6.here hx rfl (hb hby own_d4_26) rfl rfl (l' := #[.val (.ref a1), .val (.ref b6), .unset, .unset]) rfl k) ?_
  refine own_via (fun t k => XS.iconst X6.here hx rfl (hb hby own_d4_27) k) ?_
  show own_H T6 28 #[.val (.ref a1), .val (.ref b6), .unset, .unset] [(.int (0 : Int32))]
  refine own_via (fun t k => XS.istoreN X6.here hx rfl (hb hby own_d4_28) rfl (l' := #[.val (.ref a1), .val (.ref b6), .val (.int (0 : Int32)), .unset]) rfl k) ?_
  refine own_via (fun t k => XS.iconst X6.here hx rfl (hb hby own_d4_29) k) ?_
  show own_H T6 30 #[.val (.ref a1), .val (.ref b6), .val (.int (0 : Int32)), .unset] [(.int (1 : Int32))]
  refine own_via (fun t k => XS.istoreN X6.here hx rfl (hb hby own_d4_30) rfl (l' := #[.val (.ref a1), .val (.ref b6), .val (.int (0 : Int32)), .val (.int (1 : Int32))]) rfl k) ?_
  refine own_via (fun t k => XS.iloadN X6.here hx rfl (hb hby own_d4_31) rfl k) ?_
  refine own_via (fun t k => XS.aloadN X6.here hx rfl (hb hby own_d4_32) rfl rfl k) ?_
  show own_H T6 33 #[.val (.ref a1), .val (.ref b6), .val (.int (0 : Int32)), .val (.int (1 : Int32))] [(.ref a1), (.int (1 : Int32))]
  refine own_via (own_len X6 hx hZ e6 f8 (pc := 33) (Ls := #[.val (.ref a1), .val (.ref b6), .val (.int (0 : Int32)), .val (.int (1 : Int32))]) (rest := [(.int (1 : Int32))]) (hb hby own_d4_33)) ?_
  show own_H T6 34 #[.val (.ref a1), .val (.ref b6), .val (.int (0 : Int32)), .val (.int (1 : Int32))] [(.int (3 : Int32)), (.int (1 : Int32))]
  refine own_via (fun t k => XS.icmpNo X6.here hx rfl (hb hby own_d4_34) rfl (tlt (by decide : (1 : Int32) < (3 : Int32))).2.1 k) ?_
  show own_H T6 37 #[.val (.ref a1), .val (.ref b6), .val (.int (0 : Int32)), .val (.int (1 : Int32))] []
  refine own_via (fun t k => XS.iloadN X6.here hx rfl (hb hby own_d4_37) rfl k) ?_
  show own_H T6 38 #[.val (.ref a1), .val (.ref b6), .val (.int (0 : Int32)), .val (.int (1 : Int32))] [(.int (0 : Int32))]
  refine own_via (fun t k => XS.ifYes X6.here hx rfl (pc0 := 38) (pc' := 59) rfl (hb hby own_d4_38) rfl ((if0 _ _).trans (flt (by decide : ¬ ((0 : Int32) < (0 : Int32)))).2.2.2) (by decide) (by decide) k) ?_
  show own_H T6 59 #[.val (.ref a1), .val (.ref b6), .val (.int (0 : Int32)), .val (.int (1 : Int32))] []
  refine own_via (fun t k => XS.aloadN X6.here hx rfl (hb hby own_d4_59) rfl rfl k) ?_
  refine own_via (fun t k => XS.iloadN X6.here hx rfl (hb hby own_d4_60) rfl k) ?_
  show own_H T6 61 #[.val (.ref a1), .val (.ref b6), .val (.int (0 : Int32)), .val (.int (1 : Int32))] [(.int (1 : Int32)), (.ref a1)]
  refine own_via (own_ldI X6 hx hZ e6 f8 (j := (1 : Int32)) ⟨by decide, by decide⟩ (v := (.int p1)) rfl (pc := 61) (Ls := #[.val (.ref a1), .val (.ref b6), .val (.int (0 : Int32)), .val (.int (1 : Int32))]) (rest := []) (hb hby own_d4_61)) ?_
  show own_H T6 62 #[.val (.ref a1), .val (.ref b6), .val (.int (0 : Int32)), .val (.int (1 : Int32))] [(.int p1)]
  refine own_via (fun t k => XS.aloadN X6.here hx rfl (hb hby own_d4_62) rfl rfl k) ?_
  refine own_via (fun t k => XS.iloadN X6.here hx rfl (hb hby own_d4_63) rfl k) ?_
  show own_H T6 64 #[.val (.ref a1), .val (.ref b6), .val (.int (0 : Int32)), .val (.int (1 : Int32))] [(.int (0 : Int32)), (.ref a1), (.int p1)]
  refine own_via (own_ldI X6 hx hZ e6 f8 (j := (0 : Int32)) ⟨by decide, by decide⟩ (v := (.int p0)) rfl (pc := 64) (Ls := #[.val (.ref a1), .val (.ref b6), .val (.int (0 : Int32)), .val (.int (1 : Int32))]) (rest := [(.int p1)]) (hb hby own_d4_64)) ?_
  show own_H T6 65 #[.val (.ref a1), .val (.ref b6), .val (.int (0 : Int32)), .val (.int (1 : Int32))] [(.int p0), (.int p1)]
  by_cases hc13 : p1 = p0
  ·
    refine own_via (fun t k => XS.icmpNo X6.here hx rfl (hb hby own_d4_65) rfl (teq hc13).2 k) ?_
    show own_H T6 68 #[.val (.ref a1), .val (.ref b6), .val (.int (0 : Int32)), .val (.int (1 : Int32))] []
    refine own_via (fun t k => XS.iinc X6.here hx rfl (hb hby own_d4_68) rfl (l' := #[.val (.ref a1), .val (.ref b6), .val (.int (1 : Int32)), .val (.int (1 : Int32))]) rfl k) ?_
    refine own_via (fun t k => XS.aloadN X6.here hx rfl (hb hby own_d4_71) rfl rfl k) ?_
    refine own_via (fun t k => XS.iloadN X6.here hx rfl (hb hby own_d4_72) rfl k) ?_
    refine own_via (fun t k => XS.iloadN X6.here hx rfl (hb hby own_d4_73) rfl k) ?_
    show own_H T6 74 #[.val (.ref a1), .val (.ref b6), .val (.int (1 : Int32)), .val (.int (1 : Int32))] [(.int (1 : Int32)), (.int (1 : Int32)), (.ref b6)]
    obtain ⟨T14, h14, L14, X14, N14, e14, W14, V14, st14⟩ := own_stI X6 N0 hx hZ e6 f10 g_b6 (j := (1 : Int32)) (x := (1 : Int32)) (i := 1) ⟨by decide, by decide⟩ rfl (Nat.le_of_ble_eq_true rfl) (pc := 74) (Ls := #[.val (.ref a1), .val (.ref b6), .val (.int (1 : Int32)), .val (.int (1 : Int32))]) (rest := []) (hb hby own_d4_74)
    refine own_via st14 ?_
    have f15 := f8.other W14 ne7
    have Kp16 := Kp9.wr W14 (Or.inr sz_b6)
    have f17 : Arv Z h14 b6 k6 .int (3 : Int32) [(.int (0 : Int32)), (.int (1 : Int32)), (.int (0 : Int32))] (.int (0 : Int32)) := V14
    have Wk18 : kw1 ≤ h14.size := by rw [W14.size]; exact Wk11
    show own_H T14 75 #[.val (.ref a1), .val (.ref b6), .val (.int (1 : Int32)), .val (.int (1 : Int32))] []
    clear f8 f10 Kp9 Wk11
    refine own_via (fun t k => XS.iinc X14.here hx rfl (hb hby own_d4_75) rfl (l' := #[.val (.ref a1), .val (.ref b6), .val (.int (1 : Int32)), .val (.int (2 : Int32))]) rfl k) ?_
    show own_H T14 78 #[.val (.ref a1), .val (.ref b6), .val (.int (1 : Int32)), .val (.int (2 : Int32))] []
    refine own_via (fun t k => XS.goto X14.here hx rfl (pc0 := 78) (pc' := 31) rfl (hb hby own_d4_78) (by decide) (by decide) k) ?_
    refine own_via (fun t k => XS.iloadN X14.here hx rfl (hb hby own_d4_31) rfl k) ?_
    refine own_via (fun t k => XS.aloadN X14.here hx rfl (hb hby own_d4_32) rfl rfl k) ?_
    show own_H T14 33 #[.val (.ref a1), .val (.ref b6), .val (.int (1 : Int32)), .val (.int (2 : Int32))] [(.ref a1), (.int (2 : Int32))]
    refine own_via (own_len X14 hx hZ e14 f15 (pc := 33) (Ls := #[.val (.ref a1), .val (.ref b6), .val (.int (1 : Int32)), .val (.int (2 : Int32))]) (rest := [(.int (2 : Int32))]) (hb hby own_d4_33)) ?_
    show own_H T14 34 #[.val (.ref a1), .val (.ref b6), .val (.int (1 : Int32)), .val (.int (2 : Int32))] [(.int (3 : Int32)), (.int (2 : Int32))]
    refine own_via (fun t k => XS.icmpNo X14.here hx rfl (hb hby own_d4_34) rfl (tlt (by decide : (2 : Int32) < (3 : Int32))).2.1 k) ?_
    show own_H T14 37 #[.val (.ref a1), .val (.ref b6), .val (.int (1 : Int32)), .val (.int (2 : Int32))] []
    refine own_via (fun t k => XS.iloadN X14.here hx rfl (hb hby own_d4_37) rfl k) ?_
    show own_H T14 38 #[.val (.ref a1), .val (.ref b6), .val (.int (1 : Int32)), .val (.int (2 : Int32))] [(.int (1 : Int32))]
    refine own_via (fun t k => XS.ifNo X14.here hx rfl (hb hby own_d4_38) rfl ((if0 _ _).trans (tlt (by decide : (0 : Int32) < (1 : Int32))).2.2.2) k) ?_
    show own_H T14 41 #[.val (.ref a1), .val (.ref b6), .val (.int (1 : Int32)), .val (.int (2 : Int32))] []
    refine own_via (fun t k => XS.aloadN X14.here hx rfl (hb hby own_d4_41) rfl rfl k) ?_
    refine own_via (fun t k => XS.iloadN X14.here hx rfl (hb hby own_d4_42) rfl k) ?_
    show own_H T14 43 #[.val (.ref a1), .val (.ref b6), .val (.int (1 : Int32)), .val (.int (2 : Int32))] [(.int (2 : Int32)), (.ref a1)]
    refine own_via (own_ldI X14 hx hZ e14 f15 (j := (2 : Int32)) ⟨by decide, by decide⟩ (v := (.int p2)) rfl (pc := 43) (Ls := #[.val (.ref a1), .val (.ref b6), .val (.int (1 : Int32)), .val (.int (2 : Int32))]) (rest := []) (hb hby own_d4_43)) ?_
    show own_H T14 44 #[.val (.ref a1), .val (.ref b6), .val (.int (1 : Int32)), .val (.int (2 : Int32))] [(.int p2)]
    refine own_via (fun t k => XS.aloadN X14.here hx rfl (hb hby own_d4_44) rfl rfl k) ?_
    refine own_via (fun t k => XS.iloadN X14.here hx rfl (hb hby own_d4_45) rfl k) ?_
    show own_H T14 46 #[.val (.ref a1), .val (.ref b6), .val (.int (1 : Int32)), .val (.int (2 : Int32))] [(.int (1 : Int32)), (.ref a1), (.int p2)]
    refine own_via (own_ldI X14 hx hZ e14 f15 (j := (1 : Int32)) ⟨by decide, by decide⟩ (v := (.int p1)) rfl (pc := 46) (Ls := #[.val (.ref a1), .val (.ref b6), .val (.int (1 : Int32)), .val (.int (2 : Int32))]) (rest := [(.int p2)]) (hb hby own_d4_46)) ?_
    show own_H T14 47 #[.val (.ref a1), .val (.ref b6), .val (.int (1 : Int32)), .val (.int (2 : Int32))] [(.int p1), (.int p2)]
    by_cases hc20 : p2 = p1
    ·
      refine own_via (fun t k => XS.icmpYes X14.here hx rfl (pc0 := 47) (pc' := 59) rfl (hb hby own_d4_47) rfl (teq hc20).1 (by decide) (by decide) k) ?_
      show own_H T14 59 #[.val (.ref a1), .val (.ref b6), .val (.int (1 : Int32)), .val (.int (2 : Int32))] []
      refine own_via (fun t k => XS.aloadN X14.here hx rfl (hb hby own_d4_59) rfl rfl k) ?_
      refine own_via (fun t k => XS.iloadN X14.here hx rfl (hb hby own_d4_60) rfl k) ?_
      show own_H T14 61 #[.val (.ref a1), .val (.ref b6), .val (.int (1 : Int32)), .val (.int (2 : Int32))] [(.int (2 : Int32)), (.ref a1)]
      refine own_via (own_ldI X14 hx hZ e14 f15 (j := (2 : Int32)) ⟨by decide, by decide⟩ (v := (.int p2)) rfl (pc := 61) (Ls := #[.val (.ref a1), .val (.ref b6), .val (.int (1 : Int32)), .val (.int (2 : Int32))]) (rest := []) (hb hby own_d4_61)) ?_
      show own_H T14 62 #[.val (.ref a1), .val (.ref b6), .val (.int (1 : Int32)), .val (.int (2 : Int32))] [(.int p2)]
      refine own_via (fun t k => XS.aloadN X14.here hx rfl (hb hby own_d4_62) rfl rfl k) ?_
      refine own_via (fun t k => XS.iloadN X14.here hx rfl (hb hby own_d4_63) rfl k) ?_
      show own_H T14 64 #[.val (.ref a1), .val (.ref b6), .val (.int (1 : Int32)), .val (.int (2 : Int32))] [(.int (1 : Int32)), (.ref a1), (.int p2)]
      refine own_via (own_ldI X14 hx hZ e14 f15 (j := (1 : Int32)) ⟨by decide, by decide⟩ (v := (.int p1)) rfl (pc := 64) (Ls := #[.val (.ref a1), .val (.ref b6), .val (.int (1 : Int32)), .val (.int (2 : Int32))]) (rest := [(.int p2)]) (hb hby own_d4_64)) ?_
      show own_H T14 65 #[.val (.ref a1), .val (.ref b6), .val (.int (1 : Int32)), .val (.int (2 : Int32))] [(.int p1), (.int p2)]
      refine own_via (fun t k => XS.icmpNo X14.here hx rfl (hb hby own_d4_65) rfl (teq hc20).2 k) ?_
      show own_H T14 68 #[.val (.ref a1), .val (.ref b6), .val (.int (1 : Int32)), .val (.int (2 : Int32))] []
      refine own_via (fun t k => XS.iinc X14.here hx rfl (hb hby own_d4_68) rfl (l' := #[.val (.ref a1), .val (.ref b6), .val (.int (2 : Int32)), .val (.int (2 : Int32))]) rfl k) ?_
      refine own_via (fun t k => XS.aloadN X14.here hx rfl (hb hby own_d4_71) rfl rfl k) ?_
      refine own_via (fun t k => XS.iloadN X14.here hx rfl (hb hby own_d4_72) rfl k) ?_
      refine own_via (fun t k => XS.iloadN X14.here hx rfl (hb hby own_d4_73) rfl k) ?_
      show own_H T14 74 #[.val (.ref a1), .val (.ref b6), .val (.int (2 : Int32)), .val (.int (2 : Int32))] [(.int (2 : Int32)), (.int (2 : Int32)), (.ref b6)]
      obtain ⟨T21, h21, L21, X21, N21, e21, W21, V21, st21⟩ := own_stI X14 N14 hx hZ e14 f17 g_b6 (j := (2 : Int32)) (x := (2 : Int32)) (i := 2) ⟨by decide, by decide⟩ rfl (Nat.le_of_ble_eq_true rfl) (pc := 74) (Ls := #[.val (.ref a1), .val (.ref b6), .val (.int (2 : Int32)), .val (.int (2 : Int32))]) (rest := []) (hb hby own_d4_74)
      refine own_via st21 ?_
      have f22 := f15.other W21 ne7
      have Kp23 := Kp16.wr W21 (Or.inr sz_b6)
      have f24 : Arv Z h21 b6 k6 .int (3 : Int32) [(.int (0 : Int32)), (.int (1 : Int32)), (.int (2 : Int32))] (.int (0 : Int32)) := V21
      have Wk25 : kw1 ≤ h21.size := by rw [W21.size]; exact Wk18
      show own_H T21 75 #[.val (.ref a1), .val (.ref b6), .val (.int (2 : Int32)), .val (.int (2 : Int32))] []
      clear f15 f17 Kp16 Wk18
      refine own_via (fun t k => XS.iinc X21.here hx rfl (hb hby own_d4_75) rfl (l' := #[.val (.ref a1), .val (.ref b6), .val (.int (2 : Int32)), .val (.int (3 : Int32))]) rfl k) ?_
      show own_H T21 78 #[.val (.ref a1), .val (.ref b6), .val (.int (2 : Int32)), .val (.int (3 : Int32))] []
      refine own_via (fun t k => XS.goto X21.here hx rfl (pc0 := 78) (pc' := 31) rfl (hb hby own_d4_78) (by decide) (by decide) k) ?_
      refine own_via (fun t k => XS.iloadN X21.here hx rfl (hb hby own_d4_31) rfl k) ?_
      refine own_via (fun t k => XS.aloadN X21.here hx rfl (hb hby own_d4_32) rfl rfl k) ?_
      show own_H T21 33 #[.val (.ref a1), .val (.ref b6), .val (.int (2 : Int32)), .val (.int (3 : Int32))] [(.ref a1), (.int (3 : Int32))]
      refine own_via (own_len X21 hx hZ e21 f22 (pc := 33) (Ls := #[.val (.ref a1), .val (.ref b6), .val (.int (2 : Int32)), .val (.int (3 : Int32))]) (rest := [(.int (3 : Int32))]) (hb hby own_d4_33)) ?_
      show own_H T21 34 #[.val (.ref a1), .val (.ref b6), .val (.int (2 : Int32)), .val (.int (3 : Int32))] [(.int (3 : Int32)), (.int (3 : Int32))]
      refine own_via (fun t k => XS.icmpYes X21.here hx rfl (pc0 := 34) (pc' := 81) rfl (hb hby own_d4_34) rfl (flt (by decide : ¬ ((3 : Int32) < (3 : Int32)))).2.1 (by decide) (by decide) k) ?_
      show own_H T21 81 #[.val (.ref a1), .val (.ref b6), .val (.int (2 : Int32)), .val (.int (3 : Int32))] []
      refine own_via (fun t k => XS.aloadN X21.here hx rfl (hb hby own_d4_81) rfl rfl k) ?_
      show own_H T21 82 #[.val (.ref a1), .val (.ref b6), .val (.int (2 : Int32)), .val (.int (3 : Int32))] [(.ref b6)]
      have fo27 : Arv Z h21 b6 k6 .int (3 : Int32) [(.int (0 : Int32)), (.int (own_t1 p0 p1)), (.int (own_t2 p0 p1 p2))] (.int (0 : Int32)) := by simp only [own_t1, own_t2, if_pos hc13, if_pos hc20]; exact f24
      rw [hPw]
      refine own_wide S1 ?_
      exact own_retA X21 hx Bd.returns rfl rfl Bd.notSynchronized (hb hby own_d4_82) (by rw [e21]; exact ⟨⟨N21, b6, k6, rfl, Kp23, sz_b6, fo27⟩, Wk25⟩) (by decide) (by decide)
    ·
      refine own_via (fun t k => XS.icmpNo X14.here hx rfl (hb hby own_d4_47) rfl (feq hc20).1 k) ?_
      show own_H T14 50 #[.val (.ref a1), .val (.ref b6), .val (.int (1 : Int32)), .val (.int (2 : Int32))] []
      refine own_via (fun t k => XS.aloadN X14.here hx rfl (hb hby own_d4_50) rfl rfl k) ?_
      refine own_via (fun t k => XS.iloadN X14.here hx rfl (hb hby own_d4_51) rfl k) ?_
      refine own_via (fun t k => XS.iconst X14.here hx rfl (hb hby own_d4_52) k) ?_
      show own_H T14 53 #[.val (.ref a1), .val (.ref b6), .val (.int (1 : Int32)), .val (.int (2 : Int32))] [(.int (1 : Int32)), (.int (1 : Int32)), (.ref b6)]
      refine own_via (fun t k => XS.isub X14.here hx rfl (hb hby own_d4_53) rfl k) ?_
      show own_H T14 54 #[.val (.ref a1), .val (.ref b6), .val (.int (1 : Int32)), .val (.int (2 : Int32))] [(.int (0 : Int32)), (.ref b6)]
      refine own_via (own_ldI X14 hx hZ e14 f17 (j := (0 : Int32)) ⟨by decide, by decide⟩ (v := (.int (0 : Int32))) rfl (pc := 54) (Ls := #[.val (.ref a1), .val (.ref b6), .val (.int (1 : Int32)), .val (.int (2 : Int32))]) (rest := []) (hb hby own_d4_54)) ?_
      show own_H T14 55 #[.val (.ref a1), .val (.ref b6), .val (.int (1 : Int32)), .val (.int (2 : Int32))] [(.int (0 : Int32))]
      refine own_via (fun t k => XS.istoreN X14.here hx rfl (hb hby own_d4_55) rfl (l' := #[.val (.ref a1), .val (.ref b6), .val (.int (0 : Int32)), .val (.int (2 : Int32))]) rfl k) ?_
      show own_H T14 56 #[.val (.ref a1), .val (.ref b6), .val (.int (0 : Int32)), .val (.int (2 : Int32))] []
      refine own_via (fun t k => XS.goto X14.here hx rfl (pc0 := 56) (pc' := 37) rfl (hb hby own_d4_56) (by decide) (by decide) k) ?_
      refine own_via (fun t k => XS.iloadN X14.here hx rfl (hb hby own_d4_37) rfl k) ?_
      show own_H T14 38 #[.val (.ref a1), .val (.ref b6), .val (.int (0 : Int32)), .val (.int (2 : Int32))] [(.int (0 : Int32))]
      refine own_via (fun t k => XS.ifYes X14.here hx rfl (pc0 := 38) (pc' := 59) rfl (hb hby own_d4_38) rfl ((if0 _ _).trans (flt (by decide : ¬ ((0 : Int32) < (0 : Int32)))).2.2.2) (by decide) (by decide) k) ?_
      show own_H T14 59 #[.val (.ref a1), .val (.ref b6), .val (.int (0 : Int32)), .val (.int (2 : Int32))] []
      refine own_via (fun t k => XS.aloadN X14.here hx rfl (hb hby own_d4_59) rfl rfl k) ?_
      refine own_via (fun t k => XS.iloadN X14.here hx rfl (hb hby own_d4_60) rfl k) ?_
      show own_H T14 61 #[.val (.ref a1), .val (.ref b6), .val (.int (0 : Int32)), .val (.int (2 : Int32))] [(.int (2 : Int32)), (.ref a1)]
      refine own_via (own_ldI X14 hx hZ e14 f15 (j := (2 : Int32)) ⟨by decide, by decide⟩ (v := (.int p2)) rfl (pc := 61) (Ls := #[.val (.ref a1), .val (.ref b6), .val (.int (0 : Int32)), .val (.int (2 : Int32))]) (rest := []) (hb hby own_d4_61)) ?_
      show own_H T14 62 #[.val (.ref a1), .val (.ref b6), .val (.int (0 : Int32)), .val (.int (2 : Int32))] [(.int p2)]
      refine own_via (fun t k => XS.aloadN X14.here hx rfl (hb hby own_d4_62) rfl rfl k) ?_
      refine own_via (fun t k => XS.iloadN X14.here hx rfl (hb hby own_d4_63) rfl k) ?_
      show own_H T14 64 #[.val (.ref a1), .val (.ref b6), .val (.int (0 : Int32)), .val (.int (2 : Int32))] [(.int (0 : Int32)), (.ref a1), (.int p2)]
      refine own_via (own_ldI X14 hx hZ e14 f15 (j := (0 : Int32)) ⟨by decide, by decide⟩ (v := (.int p0)) rfl (pc := 64) (Ls := #[.val (.ref a1), .val (.ref b6), .val (.int (0 : Int32)), .val (.int (2 : Int32))]) (rest := [(.int p2)]) (hb hby own_d4_64)) ?_
      show own_H T14 65 #[.val (.ref a1), .val (.ref b6), .val (.int (0 : Int32)), .val (.int (2 : Int32))] [(.int p0), (.int p2)]
      by_cases hc28 : p2 = p0
      ·
        refine own_via (fun t k => XS.icmpNo X14.here hx rfl (hb hby own_d4_65) rfl (teq hc28).2 k) ?_
        show own_H T14 68 #[.val (.ref a1), .val (.ref b6), .val (.int (0 : Int32)), .val (.int (2 : Int32))] []
        refine own_via (fun t k => XS.iinc X14.here hx rfl (hb hby own_d4_68) rfl (l' := #[.val (.ref a1), .val (.ref b6), .val (.int (1 : Int32)), .val (.int (2 : Int32))]) rfl k) ?_
        refine own_via (fun t k => XS.aloadN X14.here hx rfl (hb hby own_d4_71) rfl rfl k) ?_
        refine own_via (fun t k => XS.iloadN X14.here hx rfl (hb hby own_d4_72) rfl k) ?_
        refine own_via (fun t k => XS.iloadN X14.here hx rfl (hb hby own_d4_73) rfl k) ?_
        show own_H T14 74 #[.val (.ref a1), .val (.ref b6), .val (.int (1 : Int32)), .val (.int (2 : Int32))] [(.int (1 : Int32)), (.int (2 : Int32)), (.ref b6)]
        obtain ⟨T29, h29, L29, X29, N29, e29, W29, V29, st29⟩ := own_stI X14 N14 hx hZ e14 f17 g_b6 (j := (2 : Int32)) (x := (1 : Int32)) (i := 2) ⟨by decide, by decide⟩ rfl (Nat.le_of_ble_eq_true rfl) (pc := 74) (Ls := #[.val (.ref a1), .val (.ref b6), .val (.int (1 : Int32)), .val (.int (2 : Int32))]) (rest := []) (hb hby own_d4_74)
        refine own_via st29 ?_
        have f30 := f15.other W29 ne7
        have Kp31 := Kp16.wr W29 (Or.inr sz_b6)
        have f32 : Arv Z h29 b6 k6 .int (3 : Int32) [(.int (0 : Int32)), (.int (1 : Int32)), (.int (1 : Int32))] (.int (0 : Int32)) := V29
        have Wk33 : kw1 ≤ h29.size := by rw [W29.size]; exact Wk18
        show own_H T29 75 #[.val (.ref a1), .val (.ref b6), .val (.int (1 : Int32)), .val (.int (2 : Int32))] []
        clear f15 f17 Kp16 Wk18
        refine own_via (fun t k => XS.iinc X29.here hx rfl (hb hby own_d4_75) rfl (l' := #[.val (.ref a1), .val (.ref b6), .val (.int (1 : Int32)), .val (.int (3 : Int32))]) rfl k) ?_
        show own_H T29 78 #[.val (.ref a1), .val (.ref b6), .val (.int (1 : Int32)), .val (.int (3 : Int32))] []
        refine own_via (fun t k => XS.goto X29.here hx rfl (pc0 := 78) (pc' := 31) rfl (hb hby own_d4_78) (by decide) (by decide) k) ?_
        refine own_via (fun t k => XS.iloadN X29.here hx rfl (hb hby own_d4_31) rfl k) ?_
        refine own_via (fun t k => XS.aloadN X29.here hx rfl (hb hby own_d4_32) rfl rfl k) ?_
        show own_H T29 33 #[.val (.ref a1), .val (.ref b6), .val (.int (1 : Int32)), .val (.int (3 : Int32))] [(.ref a1), (.int (3 : Int32))]
        refine own_via (own_len X29 hx hZ e29 f30 (pc := 33) (Ls := #[.val (.ref a1), .val (.ref b6), .val (.int (1 : Int32)), .val (.int (3 : Int32))]) (rest := [(.int (3 : Int32))]) (hb hby own_d4_33)) ?_
        show own_H T29 34 #[.val (.ref a1), .val (.ref b6), .val (.int (1 : Int32)), .val (.int (3 : Int32))] [(.int (3 : Int32)), (.int (3 : Int32))]
        refine own_via (fun t k => XS.icmpYes X29.here hx rfl (pc0 := 34) (pc' := 81) rfl (hb hby own_d4_34) rfl (flt (by decide : ¬ ((3 : Int32) < (3 : Int32)))).2.1 (by decide) (by decide) k) ?_
        show own_H T29 81 #[.val (.ref a1), .val (.ref b6), .val (.int (1 : Int32)), .val (.int (3 : Int32))] []
        refine own_via (fun t k => XS.aloadN X29.here hx rfl (hb hby own_d4_81) rfl rfl k) ?_
        show own_H T29 82 #[.val (.ref a1), .val (.ref b6), .val (.int (1 : Int32)), .val (.int (3 : Int32))] [(.ref b6)]
        have fo35 : Arv Z h29 b6 k6 .int (3 : Int32) [(.int (0 : Int32)), (.int (own_t1 p0 p1)), (.int (own_t2 p0 p1 p2))] (.int (0 : Int32)) := by simp only [own_t1, own_t2, if_pos hc13, if_neg hc20, if_pos hc28]; exact f32
        rw [hPw]
        refine own_wide S1 ?_
        exact own_retA X29 hx Bd.returns rfl rfl Bd.notSynchronized (hb hby own_d4_82) (by rw [e29]; exact ⟨⟨N29, b6, k6, rfl, Kp31, sz_b6, fo35⟩, Wk33⟩) (by decide) (by decide)
      ·
        refine own_via (fun t k => XS.icmpYes X14.here hx rfl (pc0 := 65) (pc' := 71) rfl (hb hby own_d4_65) rfl (feq hc28).2 (by decide) (by decide) k) ?_
        show own_H T14 71 #[.val (.ref a1), .val (.ref b6), .val (.int (0 : Int32)), .val (.int (2 : Int32))] []
        refine own_via (fun t k => XS.aloadN X14.here hx rfl (hb hby own_d4_71) rfl rfl k) ?_
        refine own_via (fun t k => XS.iloadN X14.here hx rfl (hb hby own_d4_72) rfl k) ?_
        refine own_via (fun t k => XS.iloadN X14.here hx rfl (hb hby own_d4_73) rfl k) ?_
        show own_H T14 74 #[.val (.ref a1), .val (.ref b6), .val (.int (0 : Int32)), .val (.int (2 : Int32))] [(.int (0 : Int32)), (.int (2 : Int32)), (.ref b6)]
        obtain ⟨T36, h36, L36, X36, N36, e36, W36, V36, st36⟩ := own_stI X14 N14 hx hZ e14 f17 g_b6 (j := (2 : Int32)) (x := (0 : Int32)) (i := 2) ⟨by decide, by decide⟩ rfl (Nat.le_of_ble_eq_true rfl) (pc := 74) (Ls := #[.val (.ref a1), .val (.ref b6), .val (.int (0 : Int32)), .val (.int (2 : Int32))]) (rest := []) (hb hby own_d4_74)
        refine own_via st36 ?_
        have f37 := f15.other W36 ne7
        have Kp38 := Kp16.wr W36 (Or.inr sz_b6)
        have f39 : Arv Z h36 b6 k6 .int (3 : Int32) [(.int (0 : Int32)), (.int (1 : Int32)), (.int (0 : Int32))] (.int (0 : Int32)) := V36
        have Wk40 : kw1 ≤ h36.size := by rw [W36.size]; exact Wk18
        show own_H T36 75 #[.val (.ref a1), .val (.ref b6), .val (.int (0 : Int32)), .val (.int (2 : Int32))] []
        clear f15 f17 Kp16 Wk18
        refine own_via (fun t k => XS.iinc X36.here hx rfl (hb hby own_d4_75) rfl (l' := #[.val (.ref a1), .val (.ref b6), .val (.int (0 : Int32)), .val (.int (3 : Int32))]) rfl k) ?_
        show own_H T36 78 #[.val (.ref a1), .val (.ref b6), .val (.int (0 : Int32)), .val (.int (3 : Int32))] []
        refine own_via (fun t k => XS.goto X36.here hx rfl (pc0 := 78) (pc' := 31) rfl (hb hby own_d4_78) (by decide) (by decide) k) ?_
        refine own_via (fun t k => XS.iloadN X36.here hx rfl (hb hby own_d4_31) rfl k) ?_
        refine own_via (fun t k => XS.aloadN X36.here hx rfl (hb hby own_d4_32) rfl rfl k) ?_
        show own_H T36 33 #[.val (.ref a1), .val (.ref b6), .val (.int (0 : Int32)), .val (.int (3 : Int32))] [(.ref a1), (.int (3 : Int32))]
        refine own_via (own_len X36 hx hZ e36 f37 (pc := 33) (Ls := #[.val (.ref a1), .val (.ref b6), .val (.int (0 : Int32)), .val (.int (3 : Int32))]) (rest := [(.int (3 : Int32))]) (hb hby own_d4_33)) ?_
        show own_H T36 34 #[.val (.ref a1), .val (.ref b6), .val (.int (0 : Int32)), .val (.int (3 : Int32))] [(.int (3 : Int32)), (.int (3 : Int32))]
        refine own_via (fun t k => XS.icmpYes X36.here hx rfl (pc0 := 34) (pc' := 81) rfl (hb hby own_d4_34) rfl (flt (by decide : ¬ ((3 : Int32) < (3 : Int32)))).2.1 (by decide) (by decide) k) ?_
        show own_H T36 81 #[.val (.ref a1), .val (.ref b6), .val (.int (0 : Int32)), .val (.int (3 : Int32))] []
        refine own_via (fun t k => XS.aloadN X36.here hx rfl (hb hby own_d4_81) rfl rfl k) ?_
        show own_H T36 82 #[.val (.ref a1), .val (.ref b6), .val (.int (0 : Int32)), .val (.int (3 : Int32))] [(.ref b6)]
        have fo42 : Arv Z h36 b6 k6 .int (3 : Int32) [(.int (0 : Int32)), (.int (own_t1 p0 p1)), (.int (own_t2 p0 p1 p2))] (.int (0 : Int32)) := by simp only [own_t1, own_t2, if_pos hc13, if_neg hc20, if_neg hc28]; exact f39
        rw [hPw]
        refine own_wide S1 ?_
        exact own_retA X36 hx Bd.returns rfl rfl Bd.notSynchronized (hb hby own_d4_82) (by rw [e36]; exact ⟨⟨N36, b6, k6, rfl, Kp38, sz_b6, fo42⟩, Wk40⟩) (by decide) (by decide)
  ·
    refine own_via (fun t k => XS.icmpYes X6.here hx rfl (pc0 := 65) (pc' := 71) rfl (hb hby own_d4_65) rfl (feq hc13).2 (by decide) (by decide) k) ?_
    show own_H T6 71 #[.val (.ref a1), .val (.ref b6), .val (.int (0 : Int32)), .val (.int (1 : Int32))] []
    refine own_via (fun t k => XS.aloadN X6.here hx rfl (hb hby own_d4_71) rfl rfl k) ?_
    refine own_via (fun t k => XS.iloadN X6.here hx rfl (hb hby own_d4_72) rfl k) ?_
    refine own_via (fun t k => XS.iloadN X6.here hx rfl (hb hby own_d4_73) rfl k) ?_
    show own_H T6 74 #[.val (.ref a1), .val (.ref b6), .val (.int (0 : Int32)), .val (.int (1 : Int32))] [(.int (0 : Int32)), (.int (1 : Int32)), (.ref b6)]
    obtain ⟨T43, h43, L43, X43, N43, e43, W43, V43, st43⟩ := own_stI X6 N0 hx hZ e6 f10 g_b6 (j := (1 : Int32)) (x := (0 : Int32)) (i := 1) ⟨by decide, by decide⟩ rfl (Nat.le_of_ble_eq_true rfl) (pc := 74) (Ls := #[.val (.ref a1), .val (.ref b6), .val (.int (0 : Int32)), .val (.int (1 : Int32))]) (rest := []) (hb hby own_d4_74)
    refine own_via st43 ?_
    have f44 := f8.other W43 ne7
    have Kp45 := Kp9.wr W43 (Or.inr sz_b6)
    have f46 : Arv Z h43 b6 k6 .int (3 : Int32) [(.int (0 : Int32)), (.int (0 : Int32)), (.int (0 : Int32))] (.int (0 : Int32)) := V43
    have Wk47 : kw1 ≤ h43.size := by rw [W43.size]; exact Wk11
    show own_H T43 75 #[.val (.ref a1), .val (.ref b6), .val (.int (0 : Int32)), .val (.int (1 : Int32))] []
    clear f8 f10 Kp9 Wk11
    refine own_via (fun t k => XS.iinc X43.here hx rfl (hb hby own_d4_75) rfl (l' := #[.val (.ref a1), .val (.ref b6), .val (.int (0 : Int32)), .val (.int (2 : Int32))]) rfl k) ?_
    show own_H T43 78 #[.val (.ref a1), .val (.ref b6), .val (.int (0 : Int32)), .val (.int (2 : Int32))] []
    refine own_via (fun t k => XS.goto X43.here hx rfl (pc0 := 78) (pc' := 31) rfl (hb hby own_d4_78) (by decide) (by decide) k) ?_
    refine own_via (fun t k => XS.iloadN X43.here hx rfl (hb hby own_d4_31) rfl k) ?_
    refine own_via (fun t k => XS.aloadN X43.here hx rfl (hb hby own_d4_32) rfl rfl k) ?_
    show own_H T43 33 #[.val (.ref a1), .val (.ref b6), .val (.int (0 : Int32)), .val (.int (2 : Int32))] [(.ref a1), (.int (2 : Int32))]
    refine own_via (own_len X43 hx hZ e43 f44 (pc := 33) (Ls := #[.val (.ref a1), .val (.ref b6), .val (.int (0 : Int32)), .val (.int (2 : Int32))]) (rest := [(.int (2 : Int32))]) (hb hby own_d4_33)) ?_
    show own_H T43 34 #[.val (.ref a1), .val (.ref b6), .val (.int (0 : Int32)), .val (.int (2 : Int32))] [(.int (3 : Int32)), (.int (2 : Int32))]
    refine own_via (fun t k => XS.icmpNo X43.here hx rfl (hb hby own_d4_34) rfl (tlt (by decide : (2 : Int32) < (3 : Int32))).2.1 k) ?_
    show own_H T43 37 #[.val (.ref a1), .val (.ref b6), .val (.int (0 : Int32)), .val (.int (2 : Int32))] []
    refine own_via (fun t k => XS.iloadN X43.here hx rfl (hb hby own_d4_37) rfl k) ?_
    show own_H T43 38 #[.val (.ref a1), .val (.ref b6), .val (.int (0 : Int32)), .val (.int (2 : Int32))] [(.int (0 : Int32))]
    refine own_via (fun t k => XS.ifYes X43.here hx rfl (pc0 := 38) (pc' := 59) rfl (hb hby own_d4_38) rfl ((if0 _ _).trans (flt (by decide : ¬ ((0 : Int32) < (0 : Int32)))).2.2.2) (by decide) (by decide) k) ?_
    show own_H T43 59 #[.val (.ref a1), .val (.ref b6), .val (.int (0 : Int32)), .val (.int (2 : Int32))] []
    refine own_via (fun t k => XS.aloadN X43.here hx rfl (hb hby own_d4_59) rfl rfl k) ?_
    refine own_via (fun t k => XS.iloadN X43.here hx rfl (hb hby own_d4_60) rfl k) ?_
    show own_H T43 61 #[.val (.ref a1), .val (.ref b6), .val (.int (0 : Int32)), .val (.int (2 : Int32))] [(.int (2 : Int32)), (.ref a1)]
    refine own_via (own_ldI X43 hx hZ e43 f44 (j := (2 : Int32)) ⟨by decide, by decide⟩ (v := (.int p2)) rfl (pc := 61) (Ls := #[.val (.ref a1), .val (.ref b6), .val (.int (0 : Int32)), .val (.int (2 : Int32))]) (rest := []) (hb hby own_d4_61)) ?_
    show own_H T43 62 #[.val (.ref a1), .val (.ref b6), .val (.int (0 : Int32)), .val (.int (2 : Int32))] [(.int p2)]
    refine own_via (fun t k => XS.aloadN X43.here hx rfl (hb hby own_d4_62) rfl rfl k) ?_
    refine own_via (fun t k => XS.iloadN X43.here hx rfl (hb hby own_d4_63) rfl k) ?_
    show own_H T43 64 #[.val (.ref a1), .val (.ref b6), .val (.int (0 : Int32)), .val (.int (2 : Int32))] [(.int (0 : Int32)), (.ref a1), (.int p2)]
    refine own_via (own_ldI X43 hx hZ e43 f44 (j := (0 : Int32)) ⟨by decide, by decide⟩ (v := (.int p0)) rfl (pc := 64) (Ls := #[.val (.ref a1), .val (.ref b6), .val (.int (0 : Int32)), .val (.int (2 : Int32))]) (rest := [(.int p2)]) (hb hby own_d4_64)) ?_
    show own_H T43 65 #[.val (.ref a1), .val (.ref b6), .val (.int (0 : Int32)), .val (.int (2 : Int32))] [(.int p0), (.int p2)]
    by_cases hc49 : p2 = p0
    ·
      refine own_via (fun t k => XS.icmpNo X43.here hx rfl (hb hby own_d4_65) rfl (teq hc49).2 k) ?_
      show own_H T43 68 #[.val (.ref a1), .val (.ref b6), .val (.int (0 : Int32)), .val (.int (2 : Int32))] []
      refine own_via (fun t k => XS.iinc X43.here hx rfl (hb hby own_d4_68) rfl (l' := #[.val (.ref a1), .val (.ref b6), .val (.int (1 : Int32)), .val (.int (2 : Int32))]) rfl k) ?_
      refine own_via (fun t k => XS.aloadN X43.here hx rfl (hb hby own_d4_71) rfl rfl k) ?_
      refine own_via (fun t k => XS.iloadN X43.here hx rfl (hb hby own_d4_72) rfl k) ?_
      refine own_via (fun t k => XS.iloadN X43.here hx rfl (hb hby own_d4_73) rfl k) ?_
      show own_H T43 74 #[.val (.ref a1), .val (.ref b6), .val (.int (1 : Int32)), .val (.int (2 : Int32))] [(.int (1 : Int32)), (.int (2 : Int32)), (.ref b6)]
      obtain ⟨T50, h50, L50, X50, N50, e50, W50, V50, st50⟩ := own_stI X43 N43 hx hZ e43 f46 g_b6 (j := (2 : Int32)) (x := (1 : Int32)) (i := 2) ⟨by decide, by decide⟩ rfl (Nat.le_of_ble_eq_true rfl) (pc := 74) (Ls := #[.val (.ref a1), .val (.ref b6), .val (.int (1 : Int32)), .val (.int (2 : Int32))]) (rest := []) (hb hby own_d4_74)
      refine own_via st50 ?_
      have f51 := f44.other W50 ne7
      have Kp52 := Kp45.wr W50 (Or.inr sz_b6)
      have f53 : Arv Z h50 b6 k6 .int (3 : Int32) [(.int (0 : Int32)), (.int (0 : Int32)), (.int (1 : Int32))] (.int (0 : Int32)) := V50
      have Wk54 : kw1 ≤ h50.size := by rw [W50.size]; exact Wk47
      show own_H T50 75 #[.val (.ref a1), .val (.ref b6), .val (.int (1 : Int32)), .val (.int (2 : Int32))] []
      clear f44 f46 Kp45 Wk47
      refine own_via (fun t k => XS.iinc X50.here hx rfl (hb hby own_d4_75) rfl (l' := #[.val (.ref a1), .val (.ref b6), .val (.int (1 : Int32)), .val (.int (3 : Int32))]) rfl k) ?_
      show own_H T50 78 #[.val (.ref a1), .val (.ref b6), .val (.int (1 : Int32)), .val (.int (3 : Int32))] []
      refine own_via (fun t k => XS.goto X50.here hx rfl (pc0 := 78) (pc' := 31) rfl (hb hby own_d4_78) (by decide) (by decide) k) ?_
      refine own_via (fun t k => XS.iloadN X50.here hx rfl (hb hby own_d4_31) rfl k) ?_
      refine own_via (fun t k => XS.aloadN X50.here hx rfl (hb hby own_d4_32) rfl rfl k) ?_
      show own_H T50 33 #[.val (.ref a1), .val (.ref b6), .val (.int (1 : Int32)), .val (.int (3 : Int32))] [(.ref a1), (.int (3 : Int32))]
      refine own_via (own_len X50 hx hZ e50 f51 (pc := 33) (Ls := #[.val (.ref a1), .val (.ref b6), .val (.int (1 : Int32)), .val (.int (3 : Int32))]) (rest := [(.int (3 : Int32))]) (hb hby own_d4_33)) ?_
      show own_H T50 34 #[.val (.ref a1), .val (.ref b6), .val (.int (1 : Int32)), .val (.int (3 : Int32))] [(.int (3 : Int32)), (.int (3 : Int32))]
      refine own_via (fun t k => XS.icmpYes X50.here hx rfl (pc0 := 34) (pc' := 81) rfl (hb hby own_d4_34) rfl (flt (by decide : ¬ ((3 : Int32) < (3 : Int32)))).2.1 (by decide) (by decide) k) ?_
      show own_H T50 81 #[.val (.ref a1), .val (.ref b6), .val (.int (1 : Int32)), .val (.int (3 : Int32))] []
      refine own_via (fun t k => XS.aloadN X50.here hx rfl (hb hby own_d4_81) rfl rfl k) ?_
      show own_H T50 82 #[.val (.ref a1), .val (.ref b6), .val (.int (1 : Int32)), .val (.int (3 : Int32))] [(.ref b6)]
      have fo56 : Arv Z h50 b6 k6 .int (3 : Int32) [(.int (0 : Int32)), (.int (own_t1 p0 p1)), (.int (own_t2 p0 p1 p2))] (.int (0 : Int32)) := by simp only [own_t1, own_t2, if_neg hc13, if_pos hc49]; exact f53
      rw [hPw]
      refine own_wide S1 ?_
      exact own_retA X50 hx Bd.returns rfl rfl Bd.notSynchronized (hb hby own_d4_82) (by rw [e50]; exact ⟨⟨N50, b6, k6, rfl, Kp52, sz_b6, fo56⟩, Wk54⟩) (by decide) (by decide)
    ·
      refine own_via (fun t k => XS.icmpYes X43.here hx rfl (pc0 := 65) (pc' := 71) rfl (hb hby own_d4_65) rfl (feq hc49).2 (by decide) (by decide) k) ?_
      show own_H T43 71 #[.val (.ref a1), .val (.ref b6), .val (.int (0 : Int32)), .val (.int (2 : Int32))] []
      refine own_via (fun t k => XS.aloadN X43.here hx rfl (hb hby own_d4_71) rfl rfl k) ?_
      refine own_via (fun t k => XS.iloadN X43.here hx rfl (hb hby own_d4_72) rfl k) ?_
      refine own_via (fun t k => XS.iloadN X43.here hx rfl (hb hby own_d4_73) rfl k) ?_
      show own_H T43 74 #[.val (.ref a1), .val (.ref b6), .val (.int (0 : Int32)), .val (.int (2 : Int32))] [(.int (0 : Int32)), (.int (2 : Int32)), (.ref b6)]
      obtain ⟨T57, h57, L57, X57, N57, e57, W57, V57, st57⟩ := own_stI X43 N43 hx hZ e43 f46 g_b6 (j := (2 : Int32)) (x := (0 : Int32)) (i := 2) ⟨by decide, by decide⟩ rfl (Nat.le_of_ble_eq_true rfl) (pc := 74) (Ls := #[.val (.ref a1), .val (.ref b6), .val (.int (0 : Int32)), .val (.int (2 : Int32))]) (rest := []) (hb hby own_d4_74)
      refine own_via st57 ?_
      have f58 := f44.other W57 ne7
      have Kp59 := Kp45.wr W57 (Or.inr sz_b6)
      have f60 : Arv Z h57 b6 k6 .int (3 : Int32) [(.int (0 : Int32)), (.int (0 : Int32)), (.int (0 : Int32))] (.int (0 : Int32)) := V57
      have Wk61 : kw1 ≤ h57.size := by rw [W57.size]; exact Wk47
      show own_H T57 75 #[.val (.ref a1), .val (.ref b6), .val (.int (0 : Int32)), .val (.int (2 : Int32))] []
      clear f44 f46 Kp45 Wk47
      refine own_via (fun t k => XS.iinc X57.here hx rfl (hb hby own_d4_75) rfl (l' := #[.val (.ref a1), .val (.ref b6), .val (.int (0 : Int32)), .val (.int (3 : Int32))]) rfl k) ?_
      show own_H T57 78 #[.val (.ref a1), .val (.ref b6), .val (.int (0 : Int32)), .val (.int (3 : Int32))] []
      refine own_via (fun t k => XS.goto X57.here hx rfl (pc0 := 78) (pc' := 31) rfl (hb hby own_d4_78) (by decide) (by decide) k) ?_
      refine own_via (fun t k => XS.iloadN X57.here hx rfl (hb hby own_d4_31) rfl k) ?_
      refine own_via (fun t k => XS.aloadN X57.here hx rfl (hb hby own_d4_32) rfl rfl k) ?_
      show own_H T57 33 #[.val (.ref a1), .val (.ref b6), .val (.int (0 : Int32)), .val (.int (3 : Int32))] [(.ref a1), (.int (3 : Int32))]
      refine own_via (own_len X57 hx hZ e57 f58 (pc := 33) (Ls := #[.val (.ref a1), .val (.ref b6), .val (.int (0 : Int32)), .val (.int (3 : Int32))]) (rest := [(.int (3 : Int32))]) (hb hby own_d4_33)) ?_
      show own_H T57 34 #[.val (.ref a1), .val (.ref b6), .val (.int (0 : Int32)), .val (.int (3 : Int32))] [(.int (3 : Int32)), (.int (3 : Int32))]
      refine own_via (fun t k => XS.icmpYes X57.here hx rfl (pc0 := 34) (pc' := 81) rfl (hb hby own_d4_34) rfl (flt (by decide : ¬ ((3 : Int32) < (3 : Int32)))).2.1 (by decide) (by decide) k) ?_
      show own_H T57 81 #[.val (.ref a1), .val (.ref b6), .val (.int (0 : Int32)), .val (.int (3 : Int32))] []
      refine own_via (fun t k => XS.aloadN X57.here hx rfl (hb hby own_d4_81) rfl rfl k) ?_
      show own_H T57 82 #[.val (.ref a1), .val (.ref b6), .val (.int (0 : Int32)), .val (.int (3 : Int32))] [(.ref b6)]
      have fo63 : Arv Z h57 b6 k6 .int (3 : Int32) [(.int (0 : Int32)), (.int (own_t1 p0 p1)), (.int (own_t2 p0 p1 p2))] (.int (0 : Int32)) := by simp only [own_t1, own_t2, if_neg hc13, if_neg hc49]; exact f60
      rw [hPw]
      refine own_wide S1 ?_
      exact own_retA X57 hx Bd.returns rfl rfl Bd.notSynchronized (hb hby own_d4_82) (by rw [e57]; exact ⟨⟨N57, b6, k6, rfl, Kp59, sz_b6, fo63⟩, Wk61⟩) (by decide) (by decide)
abbrev own_of4_R : Room := { frames := 1, cells := 3, slots := 104, locals := 13 }
theorem own_of4_ef (m : MethodId) (a1 : Addr) : entryFrame m #[(.ref a1)] 4 = mkF m 0 #[.val (.ref a1), .unset, .unset, .unset] [] := by first | (simp [entryFrame, mkF, argsToLocals, Value.category]; done) | rfl
def own_of4_q (Z : State) (a1 : Addr) (k_1 : ClassId) (p0 : Int32) (p1 : Int32) (p2 : Int32) (p3 : Int32) (h0 : Heap) (v : Option Value) (h : Heap) : Prop := ∃ (x : Addr) (kx : ClassId), v = some (.ref x) ∧ Keep h0 h [] ∧ h0.size ≤ x ∧ Arv Z h x kx .int (4 : Int32) [(.int (0 : Int32)), (.int (own_t1 p0 p1)), (.int (own_t2 p0 p1 p2)), (.int (own_t3 p0 p1 p2 p3))] (.int (0 : Int32))
set_option maxRecDepth 65536 in
set_option maxHeartbeats 40000000 in
theorem own_of4 (l : Launch) (Z : State) (a0 : Array Value) (hw : ∀ d ∈ tables_1, d.before a0 Z = true) (ws : List Jvm.Cond) (a1 : Addr) (k_1 : ClassId) (p0 : Int32) (p1 : Int32) (p2 : Int32) (p3 : Int32) (h0 : Heap) (n0 : Nat) (Z0 : n0 ≤ h0.size) (i_A1 : Arv Z h0 a1 k_1 .int (4 : Int32) [(.int p0), (.int p1), (.int p2), (.int p3)] (.int (0 : Int32))) :
    own_CW l Z (⟨"com/example/skipstitch/skipstitch/PartialMatchTable", "of", "([I)[I"⟩ : MethodName) prog_9_method_2_code 4 (some (.array .int)) ws own_of4_R #[(.ref a1)] h0 (own_W n0 (own_of4_q Z a1 k_1 p0 p1 p2 p3 h0)) := by
  refine MetFree.of_bodySF own_pn4 hisR ?_
  intro p e s m args below meth c s₁ Bd hml0 hP hK
  obtain ⟨rfl, hZ, hh⟩ := hP
  have hx := Bd.exec
  have hby := Bd.bytes
  have hml : c.maxLocals = 4 := hml0
  have hown : s.vm.findClass "com/example/skipstitch/skipstitch/PartialMatchTable" = some m.cls := findClass_of_methodNamed Bd.named
  have hnm := (name_of_methodNamed Bd.named Bd.method).1
  have X0 : Stand p l e own_of4_R s m #[(.ref a1)] below meth c s₁ [] 0 0 := Stand.of_body Bd
  have e0 : s₁.heap = h0 := by rw [← hh, Bd.state]; rfl
  have N0 := Fr.nil n0
  have K0 : Keep h0 h0 [] := Keep.refl h0 _
  have S0 := own_S0 s
  have W0 : 0 ≤ h0.size := Nat.zero_le _
  obtain ⟨Pw, hPw⟩ : ∃ P, P = (own_PW s (own_W n0 (own_of4_q Z a1 k_1 p0 p1 p2 p3 h0)) own_of4_R.cells own_of4_R.slots) := ⟨_, rfl⟩
  show own_G p e below (own_PW s (own_W n0 (own_of4_q Z a1 k_1 p0 p1 p2 p3 h0)) own_of4_R.cells own_of4_R.slots) (s₁.setTop (entryFrame m #[(.ref a1)] 4))
  rw [← hPw]
  rw [own_of4_ef m a1]
  show own_H s₁ 0 #[.val (.ref a1), .unset, .unset, .unset] []
  refine own_via (fun t k => XS.aloadN X0.here hx rfl (hb hby own_d4_0) rfl rfl k) ?_
  show own_H s₁ 1 #[.val (.ref a1), .unset, .unset, .unset] [(.ref a1)]
  obtain ⟨b1, T1, h1, s, kw1, X1, e1, E1, S1, Wk1, hZ, hown, st1⟩ := own_ldc S0 W0 X0 hx hZ hown (own_u hw 20 rfl) (own_wS hw) e0 (pc := 1) (Ls := #[.val (.ref a1), .unset, .unset, .unset]) (rest := [(.ref a1)]) (hb hby own_d4_1) (n := 96) (by decide) (by decide) (by decide) (by decide)
  refine own_via st1 ?_
  have f2 := i_A1.ext E1
  have Kp3 := K0.ext E1
  have Zs4 : n0 ≤ h1.size := Nat.le_trans Z0 E1.1
  show own_H T1 3 #[.val (.ref a1), .unset, .unset, .unset] [(.ref b1), (.ref a1)]
  clear i_A1 K0
  obtain ⟨T5, X5, e5, st5⟩ := own_callP (y := (⟨"java/util/Objects", "requireNonNull", "(Ljava/lang/Object;Ljava/lang/String;)Ljava/lang/Object;"⟩ : MethodName)) (W := 0) X1 hx hZ hown (own_u hw 28 rfl) (own_u hw 29 rfl) (own_u hw 30 rfl) (own_u hw 31 rfl) (by decide) (own_rn l Z a0 hw [] a1 b1 h1 ) (by decide) (by decide) rfl rfl (by decide) (by decide) e1 (pc := 3) (Ls := #[.val (.ref a1), .unset, .unset, .unset]) (st := [(.ref b1), (.ref a1)]) (argsL := [(.ref a1), (.ref b1)]) (rest := []) (by rw [hml]; rfl) (lenOf own_pd0 rfl) rfl rfl (Nat.le_of_eq rfl) (hb hby own_d4_3)
  refine own_via st5 ?_
  show own_H T5 6 #[.val (.ref a1), .unset, .unset, .unset] [(.ref a1)]
  refine own_via (fun t k => XS.pop X5.here hx rfl (hb hby own_d4_6) rfl rfl k) ?_
  refine own_via (fun t k => XS.aloadN X5.here hx rfl (hb hby own_d4_7) rfl rfl k) ?_
  show own_H T5 8 #[.val (.ref a1), .unset, .unset, .unset] [(.ref a1)]
  refine own_via (own_len X5 hx hZ e5 f2 (pc := 8) (Ls := #[.val (.ref a1), .unset, .unset, .unset]) (rest := []) (hb hby own_d4_8)) ?_
  show own_H T5 9 #[.val (.ref a1), .unset, .unset, .unset] [(.int (4 : Int32))]
  refine own_via (fun t k => XS.ifYes X5.here hx rfl (pc0 := 9) (pc' := 22) rfl (hb hby own_d4_9) rfl ((if0 _ _).trans (feq (by decide : ¬ ((4 : Int32) = (0 : Int32)))).2) (by decide) (by decide) k) ?_
  show own_H T5 22 #[.val (.ref a1), .unset, .unset, .unset] []
  refine own_via (fun t k => XS.aloadN X5.here hx rfl (hb hby own_d4_22) rfl rfl k) ?_
  show own_H T5 23 #[.val (.ref a1), .unset, .unset, .unset] [(.ref a1)]
  refine own_via (own_len X5 hx hZ e5 f2 (pc := 23) (Ls := #[.val (.ref a1), .unset, .unset, .unset]) (rest := []) (hb hby own_d4_23)) ?_
  show own_H T5 24 #[.val (.ref a1), .unset, .unset, .unset] [(.int (4 : Int32))]
  obtain ⟨T6, h6, k6, b6, X6, e6, E6, ga6, V6, Ex6, st6⟩ := own_newA X5 hx hZ (own_u hw 0 rfl) e5 (pc := 24) (Ls := #[.val (.ref a1), .unset, .unset, .unset]) (rest := []) (hb hby own_d4_24) (n := (4 : Int32)) (by decide) (cap := 4) (by decide) (by decide) (by decide) (by decide) 4 rfl
  refine own_via st6 ?_
  have sz_b6 : h0.size ≤ b6 := Nat.le_trans Kp3.1 (Nat.le_of_eq ga6.symm)
  have ne7 : a1 ≠ b6 := Nat.ne_of_lt (Nat.lt_of_lt_of_le f2.lt (Nat.le_of_eq ga6.symm))
  have f8 := f2.ext E6
  have Kp9 := Kp3.ext E6
  have f10 : Arv Z h6 b6 k6 .int (4 : Int32) [(.int (0 : Int32)), (.int (0 : Int32)), (.int (0 : Int32)), (.int (0 : Int32))] (.int (0 : Int32)) := V6
  have g_b6 : n0 ≤ b6 := Nat.le_trans Zs4 (Nat.le_of_eq ga6.symm)
  have Wk11 : kw1 ≤ h6.size := Nat.le_trans Wk1 E6.1
  show own_H T6 26 #[.val (.ref a1), .unset, .unset, .unset] [(.ref b6)]
  clear f2 Kp3 Zs4 Wk1
  refine own_via (fun t k => XS.astoreN X6.here hx rfl (hb hby own_d4_26) rfl rfl (l' := #[.val (.ref a1), .val (.ref b6), .unset, .unset]) rfl k) ?_
  refine own_via (fun t k => XS.iconst X6.here hx rfl (hb hby own_d4_27) k) ?_
  show own_H T6 28 #[.val (.ref a1), .val (.ref b6), .unset, .unset] [(.int (0 : Int32))]
  refine own_via (fun t k => XS.istoreN X6.here hx rfl (hb hby own_d4_28) rfl (l' := #[.val (.ref a1), .val (.ref b6), .val (.int (0 : Int32)), .unset]) rfl k) ?_
  refine own_via (fun t k => XS.iconst X6.here hx rfl (hb hby own_d4_29) k) ?_
  show own_H T6 30 #[.val (.ref a1), .val (.ref b6), .val (.int (0 : Int32)), .unset] [(.int (1 : Int32))]
  refine own_via (fun t k => XS.istoreN X6.here hx rfl (hb hby own_d4_30) rfl (l' := #[.val (.ref a1), .val (.ref b6), .val (.int (0 : Int32)), .val (.int (1 : Int32))]) rfl k) ?_
  refine own_via (fun t k => XS.iloadN X6.here hx rfl (hb hby own_d4_31) rfl k) ?_
  refine own_via (fun t k => XS.aloadN X6.here hx rfl (hb hby own_d4_32) rfl rfl k) ?_
  show own_H T6 33 #[.val (.ref a1), .val (.ref b6), .val (.int (0 : Int32)), .val (.int (1 : Int32))] [(.ref a1), (.int (1 : Int32))]
  refine own_via (own_len X6 hx hZ e6 f8 (pc := 33) (Ls := #[.val (.ref a1), .val (.ref b6), .val (.int (0 : Int32)), .val (.int (1 : Int32))]) (rest := [(.int (1 : Int32))]) (hb hby own_d4_33)) ?_
  show own_H T6 34 #[.val (.ref a1), .val (.ref b6), .val (.int (0 : Int32)), .val (.int (1 : Int32))] [(.int (4 : Int32)), (.int (1 : Int32))]
  refine own_via (fun t k => XS.icmpNo X6.here hx rfl (hb hby own_d4_34) rfl (tlt (by decide : (1 : Int32) < (4 : Int32))).2.1 k) ?_
  show own_H T6 37 #[.val (.ref a1), .val (.ref b6), .val (.int (0 : Int32)), .val (.int (1 : Int32))] []
  refine own_via (fun t k => XS.iloadN X6.here hx rfl (hb hby own_d4_37) rfl k) ?_
  show own_H T6 38 #[.val (.ref a1), .val (.ref b6), .val (.int (0 : Int32)), .val (.int (1 : Int32))] [(.int (0 : Int32))]
  refine own_via (fun t k => XS.ifYes X6.here hx rfl (pc0 := 38) (pc' := 59) rfl (hb hby own_d4_38) rfl ((if0 _ _).trans (flt (by decide : ¬ ((0 : Int32) < (0 : Int32)))).2.2.2) (by decide) (by decide) k) ?_
  show own_H T6 59 #[.val (.ref a1), .val (.ref b6), .val (.int (0 : Int32)), .val (.int (1 : Int32))] []
  refine own_via (fun t k => XS.aloadN X6.here hx rfl (hb hby own_d4_59) rfl rfl k) ?_
  refine own_via (fun t k => XS.iloadN X6.here hx rfl (hb hby own_d4_60) rfl k) ?_
  show own_H T6 61 #[.val (.ref a1), .val (.ref b6), .val (.int (0 : Int32)), .val (.int (1 : Int32))] [(.int (1 : Int32)), (.ref a1)]
  refine own_via (own_ldI X6 hx hZ e6 f8 (j := (1 : Int32)) ⟨by decide, by decide⟩ (v := (.int p1)) rfl (pc := 61) (Ls := #[.val (.ref a1), .val (.ref b6), .val (.int (0 : Int32)), .val (.int (1 : Int32))]) (rest := []) (hb hby own_d4_61)) ?_
  show own_H T6 62 #[.val (.ref a1), .val (.ref b6), .val (.int (0 : Int32)), .val (.int (1 : Int32))] [(.int p1)]
  refine own_via (fun t k => XS.aloadN X6.here hx rfl (hb hby own_d4_62) rfl rfl k) ?_
  refine own_via (fun t k => XS.iloadN X6.here hx rfl (hb hby own_d4_63) rfl k) ?_
  show own_H T6 64 #[.val (.ref a1), .val (.ref b6), .val (.int (0 : Int32)), .val (.int (1 : Int32))] [(.int (0 : Int32)), (.ref a1), (.int p1)]
  refine own_via (own_ldI X6 hx hZ e6 f8 (j := (0 : Int32)) ⟨by decide, by decide⟩ (v := (.int p0)) rfl (pc := 64) (Ls := #[.val (.ref a1), .val (.ref b6), .val (.int (0 : Int32)), .val (.int (1 : Int32))]) (rest := [(.int p1)]) (hb hby own_d4_64)) ?_
  show own_H T6 65 #[.val (.ref a1), .val (.ref b6), .val (.int (0 : Int32)), .val (.int (1 : Int32))] [(.int p0), (.int p1)]
  by_cases hc13 : p1 = p0
  ·
    refine own_via (fun t k => XS.icmpNo X6.here hx rfl (hb hby own_d4_65) rfl (teq hc13).2 k) ?_
    show own_H T6 68 #[.val (.ref a1), .val (.ref b6), .val (.int (0 : Int32)), .val (.int (1 : Int32))] []
    refine own_via (fun t k => XS.iinc X6.here hx rfl (hb hby own_d4_68) rfl (l' := #[.val (.ref a1), .val (.ref b6), .val (.int (1 : Int32)), .val (.int (1 : Int32))]) rfl k) ?_
    refine own_via (fun t k => XS.aloadN X6.here hx rfl (hb hby own_d4_71) rfl rfl k) ?_
    refine own_via (fun t k => XS.iloadN X6.here hx rfl (hb hby own_d4_72) rfl k) ?_
    refine own_via (fun t k => XS.iloadN X6.here hx rfl (hb hby own_d4_73) rfl k) ?_
    show own_H T6 74 #[.val (.ref a1), .val (.ref b6), .val (.int (1 : Int32)), .val (.int (1 : Int32))] [(.int (1 : Int32)), (.int (1 : Int32)), (.ref b6)]
    obtain ⟨T14, h14, L14, X14, N14, e14, W14, V14, st14⟩ := own_stI X6 N0 hx hZ e6 f10 g_b6 (j := (1 : Int32)) (x := (1 : Int32)) (i := 1) ⟨by decide, by decide⟩ rfl (Nat.le_of_ble_eq_true rfl) (pc := 74) (Ls := #[.val (.ref a1), .val (.ref b6), .val (.int (1 : Int32)), .val (.int (1 : Int32))]) (rest := []) (hb hby own_d4_74)
    refine own_via st14 ?_
    have f15 := f8.other W14 ne7
    have Kp16 := Kp9.wr W14 (Or.inr sz_b6)
    have f17 : Arv Z h14 b6 k6 .int (4 : Int32) [(.int (0 : Int32)), (.int (1 : Int32)), (.int (0 : Int32)), (.int (0 : Int32))] (.int (0 : Int32)) := V14
    have Wk18 : kw1 ≤ h14.size := by rw [W14.size]; exact Wk11
    show own_H T14 75 #[.val (.ref a1), .val (.ref b6), .val (.int (1 : Int32)), .val (.int (1 : Int32))] []
    clear f8 f10 Kp9 Wk11
    refine own_via (fun t k => XS.iinc X14.here hx rfl (hb hby own_d4_75) rfl (l' := #[.val (.ref a1), .val (.ref b6), .val (.int (1 : Int32)), .val (.int (2 : Int32))]) rfl k) ?_
    show own_H T14 78 #[.val (.ref a1), .val (.ref b6), .val (.int (1 : Int32)), .val (.int (2 : Int32))] []
    refine own_via (fun t k => XS.goto X14.here hx rfl (pc0 := 78) (pc' := 31) rfl (hb hby own_d4_78) (by decide) (by decide) k) ?_
    refine own_via (fun t k => XS.iloadN X14.here hx rfl (hb hby own_d4_31) rfl k) ?_
    refine own_via (fun t k => XS.aloadN X14.here hx rfl (hb hby own_d4_32) rfl rfl k) ?_
    show own_H T14 33 #[.val (.ref a1), .val (.ref b6), .val (.int (1 : Int32)), .val (.int (2 : Int32))] [(.ref a1), (.int (2 : Int32))]
    refine own_via (own_len X14 hx hZ e14 f15 (pc := 33) (Ls := #[.val (.ref a1), .val (.ref b6), .val (.int (1 : Int32)), .val (.int (2 : Int32))]) (rest := [(.int (2 : Int32))]) (hb hby own_d4_33)) ?_
    show own_H T14 34 #[.val (.ref a1), .val (.ref b6), .val (.int (1 : Int32)), .val (.int (2 : Int32))] [(.int (4 : Int32)), (.int (2 : Int32))]
    refine own_via (fun t k => XS.icmpNo X14.here hx rfl (hb hby own_d4_34) rfl (tlt (by decide : (2 : Int32) < (4 : Int32))).2.1 k) ?_
    show own_H T14 37 #[.val (.ref a1), .val (.ref b6), .val (.int (1 : Int32)), .val (.int (2 : Int32))] []
    refine own_via (fun t k => XS.iloadN X14.here hx rfl (hb hby own_d4_37) rfl k) ?_
    show own_H T14 38 #[.val (.ref a1), .val (.ref b6), .val (.int (1 : Int32)), .val (.int (2 : Int32))] [(.int (1 : Int32))]
    refine own_via (fun t k => XS.ifNo X14.here hx rfl (hb hby own_d4_38) rfl ((if0 _ _).trans (tlt (by decide : (0 : Int32) < (1 : Int32))).2.2.2) k) ?_
    show own_H T14 41 #[.val (.ref a1), .val (.ref b6), .val (.int (1 : Int32)), .val (.int (2 : Int32))] []
    refine own_via (fun t k => XS.aloadN X14.here hx rfl (hb hby own_d4_41) rfl rfl k) ?_
    refine own_via (fun t k => XS.iloadN X14.here hx rfl (hb hby own_d4_42) rfl k) ?_
    show own_H T14 43 #[.val (.ref a1), .val (.ref b6), .val (.int (1 : Int32)), .val (.int (2 : Int32))] [(.int (2 : Int32)), (.ref a1)]
    refine own_via (own_ldI X14 hx hZ e14 f15 (j := (2 : Int32)) ⟨by decide, by decide⟩ (v := (.int p2)) rfl (pc := 43) (Ls := #[.val (.ref a1), .val (.ref b6), .val (.int (1 : Int32)), .val (.int (2 : Int32))]) (rest := []) (hb hby own_d4_43)) ?_
    show own_H T14 44 #[.val (.ref a1), .val (.ref b6), .val (.int (1 : Int32)), .val (.int (2 : Int32))] [(.int p2)]
    refine own_via (fun t k => XS.aloadN X14.here hx rfl (hb hby own_d4_44) rfl rfl k) ?_
    refine own_via (fun t k => XS.iloadN X14.here hx rfl (hb hby own_d4_45) rfl k) ?_
    show own_H T14 46 #[.val (.ref a1), .val (.ref b6), .val (.int (1 : Int32)), .val (.int (2 : Int32))] [(.int (1 : Int32)), (.ref a1), (.int p2)]
    refine own_via (own_ldI X14 hx hZ e14 f15 (j := (1 : Int32)) ⟨by decide, by decide⟩ (v := (.int p1)) rfl (pc := 46) (Ls := #[.val (.ref a1), .val (.ref b6), .val (.int (1 : Int32)), .val (.int (2 : Int32))]) (rest := [(.int p2)]) (hb hby own_d4_46)) ?_
    show own_H T14 47 #[.val (.ref a1), .val (.ref b6), .val (.int (1 : Int32)), .val (.int (2 : Int32))] [(.int p1), (.int p2)]
    by_cases hc20 : p2 = p1
    ·
      refine own_via (fun t k => XS.icmpYes X14.here hx rfl (pc0 := 47) (pc' := 59) rfl (hb hby own_d4_47) rfl (teq hc20).1 (by decide) (by decide) k) ?_
      show own_H T14 59 #[.val (.ref a1), .val (.ref b6), .val (.int (1 : Int32)), .val (.int (2 : Int32))] []
      refine own_via (fun t k => XS.aloadN X14.here hx rfl (hb hby own_d4_59) rfl rfl k) ?_
      refine own_via (fun t k => XS.iloadN X14.here hx rfl (hb hby own_d4_60) rfl k) ?_
      show own_H T14 61 #[.val (.ref a1), .val (.ref b6), .val (.int (1 : Int32)), .val (.int (2 : Int32))] [(.int (2 : Int32)), (.ref a1)]
      refine own_via (own_ldI X14 hx hZ e14 f15 (j := (2 : Int32)) ⟨by decide, by decide⟩ (v := (.int p2)) rfl (pc := 61) (Ls := #[.val (.ref a1), .val (.ref b6), .val (.int (1 : Int32)), .val (.int (2 : Int32))]) (rest := []) (hb hby own_d4_61)) ?_
      show own_H T14 62 #[.val (.ref a1), .val (.ref b6), .val (.int (1 : Int32)), .val (.int (2 : Int32))] [(.int p2)]
      refine own_via (fun t k => XS.aloadN X14.here hx rfl (hb hby own_d4_62) rfl rfl k) ?_
      refine own_via (fun t k => XS.iloadN X14.here hx rfl (hb hby own_d4_63) rfl k) ?_
      show own_H T14 64 #[.val (.ref a1), .val (.ref b6), .val (.int (1 : Int32)), .val (.int (2 : Int32))] [(.int (1 : Int32)), (.ref a1), (.int p2)]
      refine own_via (own_ldI X14 hx hZ e14 f15 (j := (1 : Int32)) ⟨by decide, by decide⟩ (v := (.int p1)) rfl (pc := 64) (Ls := #[.val (.ref a1), .val (.ref b6), .val (.int (1 : Int32)), .val (.int (2 : Int32))]) (rest := [(.int p2)]) (hb hby own_d4_64)) ?_
      show own_H T14 65 #[.val (.ref a1), .val (.ref b6), .val (.int (1 : Int32)), .val (.int (2 : Int32))] [(.int p1), (.int p2)]
      refine own_via (fun t k => XS.icmpNo X14.here hx rfl (hb hby own_d4_65) rfl (teq hc20).2 k) ?_
      show own_H T14 68 #[.val (.ref a1), .val (.ref b6), .val (.int (1 : Int32)), .val (.int (2 : Int32))] []
      refine own_via (fun t k => XS.iinc X14.here hx rfl (hb hby own_d4_68) rfl (l' := #[.val (.ref a1), .val (.ref b6), .val (.int (2 : Int32)), .val (.int (2 : Int32))]) rfl k) ?_
      refine own_via (fun t k => XS.aloadN X14.here hx rfl (hb hby own_d4_71) rfl rfl k) ?_
      refine own_via (fun t k => XS.iloadN X14.here hx rfl (hb hby own_d4_72) rfl k) ?_
      refine own_via (fun t k => XS.iloadN X14.here hx rfl (hb hby own_d4_73) rfl k) ?_
      show own_H T14 74 #[.val (.ref a1), .val (.ref b6), .val (.int (2 : Int32)), .val (.int (2 : Int32))] [(.int (2 : Int32)), (.int (2 : Int32)), (.ref b6)]
      obtain ⟨T21, h21, L21, X21, N21, e21, W21, V21, st21⟩ := own_stI X14 N14 hx hZ e14 f17 g_b6 (j := (2 : Int32)) (x := (2 : Int32)) (i := 2) ⟨by decide, by decide⟩ rfl (Nat.le_of_ble_eq_true rfl) (pc := 74) (Ls := #[.val (.ref a1), .val (.ref b6), .val (.int (2 : Int32)), .val (.int (2 : Int32))]) (rest := []) (hb hby own_d4_74)
      refine own_via st21 ?_
      have f22 := f15.other W21 ne7
      have Kp23 := Kp16.wr W21 (Or.inr sz_b6)
      have f24 : Arv Z h21 b6 k6 .int (4 : Int32) [(.int (0 : Int32)), (.int (1 : Int32)), (.int (2 : Int32)), (.int (0 : Int32))] (.int (0 : Int32)) := V21
      have Wk25 : kw1 ≤ h21.size := by rw [W21.size]; exact Wk18
      show own_H T21 75 #[.val (.ref a1), .val (.ref b6), .val (.int (2 : Int32)), .val (.int (2 : Int32))] []
      clear f15 f17 Kp16 Wk18
      refine own_via (fun t k => XS.iinc X21.here hx rfl (hb hby own_d4_75) rfl (l' := #[.val (.ref a1), .val (.ref b6), .val (.int (2 : Int32)), .val (.int (3 : Int32))]) rfl k) ?_
      show own_H T21 78 #[.val (.ref a1), .val (.ref b6), .val (.int (2 : Int32)), .val (.int (3 : Int32))] []
      refine own_via (fun t k => XS.goto X21.here hx rfl (pc0 := 78) (pc' := 31) rfl (hb hby own_d4_78) (by decide) (by decide) k) ?_
      refine own_via (fun t k => XS.iloadN X21.here hx rfl (hb hby own_d4_31) rfl k) ?_
      refine own_via (fun t k => XS.aloadN X21.here hx rfl (hb hby own_d4_32) rfl rfl k) ?_
      show own_H T21 33 #[.val (.ref a1), .val (.ref b6), .val (.int (2 : Int32)), .val (.int (3 : Int32))] [(.ref a1), (.int (3 : Int32))]
      refine own_via (own_len X21 hx hZ e21 f22 (pc := 33) (Ls := #[.val (.ref a1), .val (.ref b6), .val (.int (2 : Int32)), .val (.int (3 : Int32))]) (rest := [(.int (3 : Int32))]) (hb hby own_d4_33)) ?_
      show own_H T21 34 #[.val (.ref a1), .val (.ref b6), .val (.int (2 : Int32)), .val (.int (3 : Int32))] [(.int (4 : Int32)), (.int (3 : Int32))]
      refine own_via (fun t k => XS.icmpNo X21.here hx rfl (hb hby own_d4_34) rfl (tlt (by decide : (3 : Int32) < (4 : Int32))).2.1 k) ?_
      show own_H T21 37 #[.val (.ref a1), .val (.ref b6), .val (.int (2 : Int32)), .val (.int (3 : Int32))] []
      refine own_via (fun t k => XS.iloadN X21.here hx rfl (hb hby own_d4_37) rfl k) ?_
      show own_H T21 38 #[.val (.ref a1), .val (.ref b6), .val (.int (2 : Int32)), .val (.int (3 : Int32))] [(.int (2 : Int32))]
      refine own_via (fun t k => XS.ifNo X21.here hx rfl (hb hby own_d4_38) rfl ((if0 _ _).trans (tlt (by decide : (0 : Int32) < (2 : Int32))).2.2.2) k) ?_
      show own_H T21 41 #[.val (.ref a1), .val (.ref b6), .val (.int (2 : Int32)), .val (.int (3 : Int32))] []
      refine own_via (fun t k => XS.aloadN X21.here hx rfl (hb hby own_d4_41) rfl rfl k) ?_
      refine own_via (fun t k => XS.iloadN X21.here hx rfl (hb hby own_d4_42) rfl k) ?_
      show own_H T21 43 #[.val (.ref a1), .val (.ref b6), .val (.int (2 : Int32)), .val (.int (3 : Int32))] [(.int (3 : Int32)), (.ref a1)]
      refine own_via (own_ldI X21 hx hZ e21 f22 (j := (3 : Int32)) ⟨by decide, by decide⟩ (v := (.int p3)) rfl (pc := 43) (Ls := #[.val (.ref a1), .val (.ref b6), .val (.int (2 : Int32)), .val (.int (3 : Int32))]) (rest := []) (hb hby own_d4_43)) ?_
      show own_H T21 44 #[.val (.ref a1), .val (.ref b6), .val (.int (2 : Int32)), .val (.int (3 : Int32))] [(.int p3)]
      refine own_via (fun t k => XS.aloadN X21.here hx rfl (hb hby own_d4_44) rfl rfl k) ?_
      refine own_via (fun t k => XS.iloadN X21.here hx rfl (hb hby own_d4_45) rfl k) ?_
      show own_H T21 46 #[.val (.ref a1), .val (.ref b6), .val (.int (2 : Int32)), .val (.int (3 : Int32))] [(.int (2 : Int32)), (.ref a1), (.int p3)]
      refine own_via (own_ldI X21 hx hZ e21 f22 (j := (2 : Int32)) ⟨by decide, by decide⟩ (v := (.int p2)) rfl (pc := 46) (Ls := #[.val (.ref a1), .val (.ref b6), .val (.int (2 : Int32)), .val (.int (3 : Int32))]) (rest := [(.int p3)]) (hb hby own_d4_46)) ?_
      show own_H T21 47 #[.val (.ref a1), .val (.ref b6), .val (.int (2 : Int32)), .val (.int (3 : Int32))] [(.int p2), (.int p3)]
      by_cases hc27 : p3 = p2
      ·
        refine own_via (fun t k => XS.icmpYes X21.here hx rfl (pc0 := 47) (pc' := 59) rfl (hb hby own_d4_47) rfl (teq hc27).1 (by decide) (by decide) k) ?_
        show own_H T21 59 #[.val (.ref a1), .val (.ref b6), .val (.int (2 : Int32)), .val (.int (3 : Int32))] []
        refine own_via (fun t k => XS.aloadN X21.here hx rfl (hb hby own_d4_59) rfl rfl k) ?_
        refine own_via (fun t k => XS.iloadN X21.here hx rfl (hb hby own_d4_60) rfl k) ?_
        show own_H T21 61 #[.val (.ref a1), .val (.ref b6), .val (.int (2 : Int32)), .val (.int (3 : Int32))] [(.int (3 : Int32)), (.ref a1)]
        refine own_via (own_ldI X21 hx hZ e21 f22 (j := (3 : Int32)) ⟨by decide, by decide⟩ (v := (.int p3)) rfl (pc := 61) (Ls := #[.val (.ref a1), .val (.ref b6), .val (.int (2 : Int32)), .val (.int (3 : Int32))]) (rest := []) (hb hby own_d4_61)) ?_
        show own_H T21 62 #[.val (.ref a1), .val (.ref b6), .val (.int (2 : Int32)), .val (.int (3 : Int32))] [(.int p3)]
        refine own_via (fun t k => XS.aloadN X21.here hx rfl (hb hby own_d4_62) rfl rfl k) ?_
        refine own_via (fun t k => XS.iloadN X21.here hx rfl (hb hby own_d4_63) rfl k) ?_
        show own_H T21 64 #[.val (.ref a1), .val (.ref b6), .val (.int (2 : Int32)), .val (.int (3 : Int32))] [(.int (2 : Int32)), (.ref a1), (.int p3)]
        refine own_via (own_ldI X21 hx hZ e21 f22 (j := (2 : Int32)) ⟨by decide, by decide⟩ (v := (.int p2)) rfl (pc := 64) (Ls := #[.val (.ref a1), .val (.ref b6), .val (.int (2 : Int32)), .val (.int (3 : Int32))]) (rest := [(.int p3)]) (hb hby own_d4_64)) ?_
        show own_H T21 65 #[.val (.ref a1), .val (.ref b6), .val (.int (2 : Int32)), .val (.int (3 : Int32))] [(.int p2), (.int p3)]
        refine own_via (fun t k => XS.icmpNo X21.here hx rfl (hb hby own_d4_65) rfl (teq hc27).2 k) ?_
        show own_H T21 68 #[.val (.ref a1), .val (.ref b6), .val (.int (2 : Int32)), .val (.int (3 : Int32))] []
        refine own_via (fun t k => XS.iinc X21.here hx rfl (hb hby own_d4_68) rfl (l' := #[.val (.ref a1), .val (.ref b6), .val (.int (3 : Int32)), .val (.int (3 : Int32))]) rfl k) ?_
        refine own_via (fun t k => XS.aloadN X21.here hx rfl (hb hby own_d4_71) rfl rfl k) ?_
        refine own_via (fun t k => XS.iloadN X21.here hx rfl (hb hby own_d4_72) rfl k) ?_
        refine own_via (fun t k => XS.iloadN X21.here hx rfl (hb hby own_d4_73) rfl k) ?_
        show own_H T21 74 #[.val (.ref a1), .val (.ref b6), .val (.int (3 : Int32)), .val (.int (3 : Int32))] [(.int (3 : Int32)), (.int (3 : Int32)), (.ref b6)]
        obtain ⟨T28, h28, L28, X28, N28, e28, W28, V28, st28⟩ := own_stI X21 N21 hx hZ e21 f24 g_b6 (j := (3 : Int32)) (x := (3 : Int32)) (i := 3) ⟨by decide, by decide⟩ rfl (Nat.le_of_ble_eq_true rfl) (pc := 74) (Ls := #[.val (.ref a1), .val (.ref b6), .val (.int (3 : Int32)), .val (.int (3 : Int32))]) (rest := []) (hb hby own_d4_74)
        refine own_via st28 ?_
        have f29 := f22.other W28 ne7
        have Kp30 := Kp23.wr W28 (Or.inr sz_b6)
        have f31 : Arv Z h28 b6 k6 .int (4 : Int32) [(.int (0 : Int32)), (.int (1 : Int32)), (.int (2 : Int32)), (.int (3 : Int32))] (.int (0 : Int32)) := V28
        have Wk32 : kw1 ≤ h28.size := by rw [W28.size]; exact Wk25
        show own_H T28 75 #[.val (.ref a1), .val (.ref b6), .val (.int (3 : Int32)), .val (.int (3 : Int32))] []
        clear f22 f24 Kp23 Wk25
        refine own_via (fun t k => XS.iinc X28.here hx rfl (hb hby own_d4_75) rfl (l' := #[.val (.ref a1), .val (.ref b6), .val (.int (3 : Int32)), .val (.int (4 : Int32))]) rfl k) ?_
        show own_H T28 78 #[.val (.ref a1), .val (.ref b6), .val (.int (3 : Int32)), .val (.int (4 : Int32))] []
        refine own_via (fun t k => XS.goto X28.here hx rfl (pc0 := 78) (pc' := 31) rfl (hb hby own_d4_78) (by decide) (by decide) k) ?_
        refine own_via (fun t k => XS.iloadN X28.here hx rfl (hb hby own_d4_31) rfl k) ?_
        refine own_via (fun t k => XS.aloadN X28.here hx rfl (hb hby own_d4_32) rfl rfl k) ?_
        show own_H T28 33 #[.val (.ref a1), .val (.ref b6), .val (.int (3 : Int32)), .val (.int (4 : Int32))] [(.ref a1), (.int (4 : Int32))]
        refine own_via (own_len X28 hx hZ e28 f29 (pc := 33) (Ls := #[.val (.ref a1), .val (.ref b6), .val (.int (3 : Int32)), .val (.int (4 : Int32))]) (rest := [(.int (4 : Int32))]) (hb hby own_d4_33)) ?_
        show own_H T28 34 #[.val (.ref a1), .val (.ref b6), .val (.int (3 : Int32)), .val (.int (4 : Int32))] [(.int (4 : Int32)), (.int (4 : Int32))]
        refine own_via (fun t k => XS.icmpYes X28.here hx rfl (pc0 := 34) (pc' := 81) rfl (hb hby own_d4_34) rfl (flt (by decide : ¬ ((4 : Int32) < (4 : Int32)))).2.1 (by decide) (by decide) k) ?_
        show own_H T28 81 #[.val (.ref a1), .val (.ref b6), .val (.int (3 : Int32)), .val (.int (4 : Int32))] []
        refine own_via (fun t k => XS.aloadN X28.here hx rfl (hb hby own_d4_81) rfl rfl k) ?_
        show own_H T28 82 #[.val (.ref a1), .val (.ref b6), .val (.int (3 : Int32)), .val (.int (4 : Int32))] [(.ref b6)]
        have fo34 : Arv Z h28 b6 k6 .int (4 : Int32) [(.int (0 : Int32)), (.int (own_t1 p0 p1)), (.int (own_t2 p0 p1 p2)), (.int (own_t3 p0 p1 p2 p3))] (.int (0 : Int32)) := by simp only [own_t1, own_t2, own_t3, if_pos hc13, if_pos hc20, if_pos hc27]; exact f31
        rw [hPw]
        refine own_wide S1 ?_
        exact own_retA X28 hx Bd.returns rfl rfl Bd.notSynchronized (hb hby own_d4_82) (by rw [e28]; exact ⟨⟨N28, b6, k6, rfl, Kp30, sz_b6, fo34⟩, Wk32⟩) (by decide) (by decide)
      ·
        refine own_via (fun t k => XS.icmpNo X21.here hx rfl (hb hby own_d4_47) rfl (feq hc27).1 k) ?_
        show own_H T21 50 #[.val (.ref a1), .val (.ref b6), .val (.int (2 : Int32)), .val (.int (3 : Int32))] []
        refine own_via (fun t k => XS.aloadN X21.here hx rfl (hb hby own_d4_50) rfl rfl k) ?_
        refine own_via (fun t k => XS.iloadN X21.here hx rfl (hb hby own_d4_51) rfl k) ?_
        refine own_via (fun t k => XS.iconst X21.here hx rfl (hb hby own_d4_52) k) ?_
        show own_H T21 53 #[.val (.ref a1), .val (.ref b6), .val (.int (2 : Int32)), .val (.int (3 : Int32))] [(.int (1 : Int32)), (.int (2 : Int32)), (.ref b6)]
        refine own_via (fun t k => XS.isub X21.here hx rfl (hb hby own_d4_53) rfl k) ?_
        show own_H T21 54 #[.val (.ref a1), .val (.ref b6), .val (.int (2 : Int32)), .val (.int (3 : Int32))] [(.int (1 : Int32)), (.ref b6)]
        refine own_via (own_ldI X21 hx hZ e21 f24 (j := (1 : Int32)) ⟨by decide, by decide⟩ (v := (.int (1 : Int32))) rfl (pc := 54) (Ls := #[.val (.ref a1), .val (.ref b6), .val (.int (2 : Int32)), .val (.int (3 : Int32))]) (rest := []) (hb hby own_d4_54)) ?_
        show own_H T21 55 #[.val (.ref a1), .val (.ref b6), .val (.int (2 : Int32)), .val (.int (3 : Int32))] [(.int (1 : Int32))]
        refine own_via (fun t k => XS.istoreN X21.here hx rfl (hb hby own_d4_55) rfl (l' := #[.val (.ref a1), .val (.ref b6), .val (.int (1 : Int32)), .val (.int (3 : Int32))]) rfl k) ?_
        show own_H T21 56 #[.val (.ref a1), .val (.ref b6), .val (.int (1 : Int32)), .val (.int (3 : Int32))] []
        refine own_via (fun t k => XS.goto X21.here hx rfl (pc0 := 56) (pc' := 37) rfl (hb hby own_d4_56) (by decide) (by decide) k) ?_
        refine own_via (fun t k => XS.iloadN X21.here hx rfl (hb hby own_d4_37) rfl k) ?_
        show own_H T21 38 #[.val (.ref a1), .val (.ref b6), .val (.int (1 : Int32)), .val (.int (3 : Int32))] [(.int (1 : Int32))]
        refine own_via (fun t k => XS.ifNo X21.here hx rfl (hb hby own_d4_38) rfl ((if0 _ _).trans (tlt (by decide : (0 : Int32) < (1 : Int32))).2.2.2) k) ?_
        show own_H T21 41 #[.val (.ref a1), .val (.ref b6), .val (.int (1 : Int32)), .val (.int (3 : Int32))] []
        refine own_via (fun t k => XS.aloadN X21.here hx rfl (hb hby own_d4_41) rfl rfl k) ?_
        refine own_via (fun t k => XS.iloadN X21.here hx rfl (hb hby own_d4_42) rfl k) ?_
        show own_H T21 43 #[.val (.ref a1), .val (.ref b6), .val (.int (1 : Int32)), .val (.int (3 : Int32))] [(.int (3 : Int32)), (.ref a1)]
        refine own_via (own_ldI X21 hx hZ e21 f22 (j := (3 : Int32)) ⟨by decide, by decide⟩ (v := (.int p3)) rfl (pc := 43) (Ls := #[.val (.ref a1), .val (.ref b6), .val (.int (1 : Int32)), .val (.int (3 : Int32))]) (rest := []) (hb hby own_d4_43)) ?_
        show own_H T21 44 #[.val (.ref a1), .val (.ref b6), .val (.int (1 : Int32)), .val (.int (3 : Int32))] [(.int p3)]
        refine own_via (fun t k => XS.aloadN X21.here hx rfl (hb hby own_d4_44) rfl rfl k) ?_
        refine own_via (fun t k => XS.iloadN X21.here hx rfl (hb hby own_d4_45) rfl k) ?_
        show own_H T21 46 #[.val (.ref a1), .val (.ref b6), .val (.int (1 : Int32)), .val (.int (3 : Int32))] [(.int (1 : Int32)), (.ref a1), (.int p3)]
        refine own_via (own_ldI X21 hx hZ e21 f22 (j := (1 : Int32)) ⟨by decide, by decide⟩ (v := (.int p1)) rfl (pc := 46) (Ls := #[.val (.ref a1), .val (.ref b6), .val (.int (1 : Int32)), .val (.int (3 : Int32))]) (rest := [(.int p3)]) (hb hby own_d4_46)) ?_
        show own_H T21 47 #[.val (.ref a1), .val (.ref b6), .val (.int (1 : Int32)), .val (.int (3 : Int32))] [(.int p1), (.int p3)]
        by_cases hc35 : p3 = p1
        ·
          refine own_via (fun t k => XS.icmpYes X21.here hx rfl (pc0 := 47) (pc' := 59) rfl (hb hby own_d4_47) rfl (teq hc35).1 (by decide) (by decide) k) ?_
          show own_H T21 59 #[.val (.ref a1), .val (.ref b6), .val (.int (1 : Int32)), .val (.int (3 : Int32))] []
          refine own_via (fun t k => XS.aloadN X21.here hx rfl (hb hby own_d4_59) rfl rfl k) ?_
          refine own_via (fun t k => XS.iloadN X21.here hx rfl (hb hby own_d4_60) rfl k) ?_
          show own_H T21 61 #[.val (.ref a1), .val (.ref b6), .val (.int (1 : Int32)), .val (.int (3 : Int32))] [(.int (3 : Int32)), (.ref a1)]
          refine own_via (own_ldI X21 hx hZ e21 f22 (j := (3 : Int32)) ⟨by decide, by decide⟩ (v := (.int p3)) rfl (pc := 61) (Ls := #[.val (.ref a1), .val (.ref b6), .val (.int (1 : Int32)), .val (.int (3 : Int32))]) (rest := []) (hb hby own_d4_61)) ?_
          show own_H T21 62 #[.val (.ref a1), .val (.ref b6), .val (.int (1 : Int32)), .val (.int (3 : Int32))] [(.int p3)]
          refine own_via (fun t k => XS.aloadN X21.here hx rfl (hb hby own_d4_62) rfl rfl k) ?_
          refine own_via (fun t k => XS.iloadN X21.here hx rfl (hb hby own_d4_63) rfl k) ?_
          show own_H T21 64 #[.val (.ref a1), .val (.ref b6), .val (.int (1 : Int32)), .val (.int (3 : Int32))] [(.int (1 : Int32)), (.ref a1), (.int p3)]
          refine own_via (own_ldI X21 hx hZ e21 f22 (j := (1 : Int32)) ⟨by decide, by decide⟩ (v := (.int p1)) rfl (pc := 64) (Ls := #[.val (.ref a1), .val (.ref b6), .val (.int (1 : Int32)), .val (.int (3 : Int32))]) (rest := [(.int p3)]) (hb hby own_d4_64)) ?_
          show own_H T21 65 #[.val (.ref a1), .val (.ref b6), .val (.int (1 : Int32)), .val (.int (3 : Int32))] [(.int p1), (.int p3)]
          refine own_via (fun t k => XS.icmpNo X21.here hx rfl (hb hby own_d4_65) rfl (teq hc35).2 k) ?_
          show own_H T21 68 #[.val (.ref a1), .val (.ref b6), .val (.int (1 : Int32)), .val (.int (3 : Int32))] []
          refine own_via (fun t k => XS.iinc X21.here hx rfl (hb hby own_d4_68) rfl (l' := #[.val (.ref a1), .val (.ref b6), .val (.int (2 : Int32)), .val (.int (3 : Int32))]) rfl k) ?_
          refine own_via (fun t k => XS.aloadN X21.here hx rfl (hb hby own_d4_71) rfl rfl k) ?_
          refine own_via (fun t k => XS.iloadN X21.here hx rfl (hb hby own_d4_72) rfl k) ?_
          refine own_via (fun t k => XS.iloadN X21.here hx rfl (hb hby own_d4_73) rfl k) ?_
          show own_H T21 74 #[.val (.ref a1), .val (.ref b6), .val (.int (2 : Int32)), .val (.int (3 : Int32))] [(.int (2 : Int32)), (.int (3 : Int32)), (.ref b6)]
          obtain ⟨T36, h36, L36, X36, N36, e36, W36, V36, st36⟩ := own_stI X21 N21 hx hZ e21 f24 g_b6 (j := (3 : Int32)) (x := (2 : Int32)) (i := 3) ⟨by decide, by decide⟩ rfl (Nat.le_of_ble_eq_true rfl) (pc := 74) (Ls := #[.val (.ref a1), .val (.ref b6), .val (.int (2 : Int32)), .val (.int (3 : Int32))]) (rest := []) (hb hby own_d4_74)
          refine own_via st36 ?_
          have f37 := f22.other W36 ne7
          have Kp38 := Kp23.wr W36 (Or.inr sz_b6)
          have f39 : Arv Z h36 b6 k6 .int (4 : Int32) [(.int (0 : Int32)), (.int (1 : Int32)), (.int (2 : Int32)), (.int (2 : Int32))] (.int (0 : Int32)) := V36
          have Wk40 : kw1 ≤ h36.size := by rw [W36.size]; exact Wk25
          show own_H T36 75 #[.val (.ref a1), .val (.ref b6), .val (.int (2 : Int32)), .val (.int (3 : Int32))] []
          clear f22 f24 Kp23 Wk25
          refine own_via (fun t k => XS.iinc X36.here hx rfl (hb hby own_d4_75) rfl (l' := #[.val (.ref a1), .val (.ref b6), .val (.int (2 : Int32)), .val (.int (4 : Int32))]) rfl k) ?_
          show own_H T36 78 #[.val (.ref a1), .val (.ref b6), .val (.int (2 : Int32)), .val (.int (4 : Int32))] []
          refine own_via (fun t k => XS.goto X36.here hx rfl (pc0 := 78) (pc' := 31) rfl (hb hby own_d4_78) (by decide) (by decide) k) ?_
          refine own_via (fun t k => XS.iloadN X36.here hx rfl (hb hby own_d4_31) rfl k) ?_
          refine own_via (fun t k => XS.aloadN X36.here hx rfl (hb hby own_d4_32) rfl rfl k) ?_
          show own_H T36 33 #[.val (.ref a1), .val (.ref b6), .val (.int (2 : Int32)), .val (.int (4 : Int32))] [(.ref a1), (.int (4 : Int32))]
          refine own_via (own_len X36 hx hZ e36 f37 (pc := 33) (Ls := #[.val (.ref a1), .val (.ref b6), .val (.int (2 : Int32)), .val (.int (4 : Int32))]) (rest := [(.int (4 : Int32))]) (hb hby own_d4_33)) ?_
          show own_H T36 34 #[.val (.ref a1), .val (.ref b6), .val (.int (2 : Int32)), .val (.int (4 : Int32))] [(.int (4 : Int32)), (.int (4 : Int32))]
          refine own_via (fun t k => XS.icmpYes X36.here hx rfl (pc0 := 34) (pc' := 81) rfl (hb hby own_d4_34) rfl (flt (by decide : ¬ ((4 : Int32) < (4 : Int32)))).2.1 (by decide) (by decide) k) ?_
          show own_H T36 81 #[.val (.ref a1), .val (.ref b6), .val (.int (2 : Int32)), .val (.int (4 : Int32))] []
          refine own_via (fun t k => XS.aloadN X36.here hx rfl (hb hby own_d4_81) rfl rfl k) ?_
          show own_H T36 82 #[.val (.ref a1), .val (.ref b6), .val (.int (2 : Int32)), .val (.int (4 : Int32))] [(.ref b6)]
          have fo42 : Arv Z h36 b6 k6 .int (4 : Int32) [(.int (0 : Int32)), (.int (own_t1 p0 p1)), (.int (own_t2 p0 p1 p2)), (.int (own_t3 p0 p1 p2 p3))] (.int (0 : Int32)) := by simp only [own_t1, own_t2, own_t3, if_pos hc13, if_pos hc20, if_neg hc27, if_pos hc35]; exact f39
          rw [hPw]
          refine own_wide S1 ?_
          exact own_retA X36 hx Bd.returns rfl rfl Bd.notSynchronized (hb hby own_d4_82) (by rw [e36]; exact ⟨⟨N36, b6, k6, rfl, Kp38, sz_b6, fo42⟩, Wk40⟩) (by decide) (by decide)
        ·
          refine own_via (fun t k => XS.icmpNo X21.here hx rfl (hb hby own_d4_47) rfl (feq hc35).1 k) ?_
          show own_H T21 50 #[.val (.ref a1), .val (.ref b6), .val (.int (1 : Int32)), .val (.int (3 : Int32))] []
          refine own_via (fun t k => XS.aloadN X21.here hx rfl (hb hby own_d4_50) rfl rfl k) ?_
          refine own_via (fun t k => XS.iloadN X21.here hx rfl (hb hby own_d4_51) rfl k) ?_
          refine own_via (fun t k => XS.iconst X21.here hx rfl (hb hby own_d4_52) k) ?_
          show own_H T21 53 #[.val (.ref a1), .val (.ref b6), .val (.int (1 : Int32)), .val (.int (3 : Int32))] [(.int (1 : Int32)), (.int (1 : Int32)), (.ref b6)]
          refine own_via (fun t k => XS.isub X21.here hx rfl (hb hby own_d4_53) rfl k) ?_
          show own_H T21 54 #[.val (.ref a1), .val (.ref b6), .val (.int (1 : Int32)), .val (.int (3 : Int32))] [(.int (0 : Int32)), (.ref b6)]
          refine own_via (own_ldI X21 hx hZ e21 f24 (j := (0 : Int32)) ⟨by decide, by decide⟩ (v := (.int (0 : Int32))) rfl (pc := 54) (Ls := #[.val (.ref a1), .val (.ref b6), .val (.int (1 : Int32)), .val (.int (3 : Int32))]) (rest := []) (hb hby own_d4_54)) ?_
          show own_H T21 55 #[.val (.ref a1), .val (.ref b6), .val (.int (1 : Int32)), .val (.int (3 : Int32))] [(.int (0 : Int32))]
          refine own_via (fun t k => XS.istoreN X21.here hx rfl (hb hby own_d4_55) rfl (l' := #[.val (.ref a1), .val (.ref b6), .val (.int (0 : Int32)), .val (.int (3 : Int32))]) rfl k) ?_
          show own_H T21 56 #[.val (.ref a1), .val (.ref b6), .val (.int (0 : Int32)), .val (.int (3 : Int32))] []
          refine own_via (fun t k => XS.goto X21.here hx rfl (pc0 := 56) (pc' := 37) rfl (hb hby own_d4_56) (by decide) (by decide) k) ?_
          refine own_via (fun t k => XS.iloadN X21.here hx rfl (hb hby own_d4_37) rfl k) ?_
          show own_H T21 38 #[.val (.ref a1), .val (.ref b6), .val (.int (0 : Int32)), .val (.int (3 : Int32))] [(.int (0 : Int32))]
          refine own_via (fun t k => XS.ifYes X21.here hx rfl (pc0 := 38) (pc' := 59) rfl (hb hby own_d4_38) rfl ((if0 _ _).trans (flt (by decide : ¬ ((0 : Int32) < (0 : Int32)))).2.2.2) (by decide) (by decide) k) ?_
          show own_H T21 59 #[.val (.ref a1), .val (.ref b6), .val (.int (0 : Int32)), .val (.int (3 : Int32))] []
          refine own_via (fun t k => XS.aloadN X21.here hx rfl (hb hby own_d4_59) rfl rfl k) ?_
          refine own_via (fun t k => XS.iloadN X21.here hx rfl (hb hby own_d4_60) rfl k) ?_
          show own_H T21 61 #[.val (.ref a1), .val (.ref b6), .val (.int (0 : Int32)), .val (.int (3 : Int32))] [(.int (3 : Int32)), (.ref a1)]
          refine own_via (own_ldI X21 hx hZ e21 f22 (j := (3 : Int32)) ⟨by decide, by decide⟩ (v := (.int p3)) rfl (pc := 61) (Ls := #[.val (.ref a1), .val (.ref b6), .val (.int (0 : Int32)), .val (.int (3 : Int32))]) (rest := []) (hb hby own_d4_61)) ?_
          show own_H T21 62 #[.val (.ref a1), .val (.ref b6), .val (.int (0 : Int32)), .val (.int (3 : Int32))] [(.int p3)]
          refine own_via (fun t k => XS.aloadN X21.here hx rfl (hb hby own_d4_62) rfl rfl k) ?_
          refine own_via (fun t k => XS.iloadN X21.here hx rfl (hb hby own_d4_63) rfl k) ?_
          show own_H T21 64 #[.val (.ref a1), .val (.ref b6), .val (.int (0 : Int32)), .val (.int (3 : Int32))] [(.int (0 : Int32)), (.ref a1), (.int p3)]
          refine own_via (own_ldI X21 hx hZ e21 f22 (j := (0 : Int32)) ⟨by decide, by decide⟩ (v := (.int p0)) rfl (pc := 64) (Ls := #[.val (.ref a1), .val (.ref b6), .val (.int (0 : Int32)), .val (.int (3 : Int32))]) (rest := [(.int p3)]) (hb hby own_d4_64)) ?_
          show own_H T21 65 #[.val (.ref a1), .val (.ref b6), .val (.int (0 : Int32)), .val (.int (3 : Int32))] [(.int p0), (.int p3)]
          by_cases hc43 : p3 = p0
          ·
            refine own_via (fun t k => XS.icmpNo X21.here hx rfl (hb hby own_d4_65) rfl (teq hc43).2 k) ?_
            show own_H T21 68 #[.val (.ref a1), .val (.ref b6), .val (.int (0 : Int32)), .val (.int (3 : Int32))] []
            refine own_via (fun t k => XS.iinc X21.here hx rfl (hb hby own_d4_68) rfl (l' := #[.val (.ref a1), .val (.ref b6), .val (.int (1 : Int32)), .val (.int (3 : Int32))]) rfl k) ?_
            refine own_via (fun t k => XS.aloadN X21.here hx rfl (hb hby own_d4_71) rfl rfl k) ?_
            refine own_via (fun t k => XS.iloadN X21.here hx rfl (hb hby own_d4_72) rfl k) ?_
            refine own_via (fun t k => XS.iloadN X21.here hx rfl (hb hby own_d4_73) rfl k) ?_
            show own_H T21 74 #[.val (.ref a1), .val (.ref b6), .val (.int (1 : Int32)), .val (.int (3 : Int32))] [(.int (1 : Int32)), (.int (3 : Int32)), (.ref b6)]
            obtain ⟨T44, h44, L44, X44, N44, e44, W44, V44, st44⟩ := own_stI X21 N21 hx hZ e21 f24 g_b6 (j := (3 : Int32)) (x := (1 : Int32)) (i := 3) ⟨by decide, by decide⟩ rfl (Nat.le_of_ble_eq_true rfl) (pc := 74) (Ls := #[.val (.ref a1), .val (.ref b6), .val (.int (1 : Int32)), .val (.int (3 : Int32))]) (rest := []) (hb hby own_d4_74)
            refine own_via st44 ?_
            have f45 := f22.other W44 ne7
            have Kp46 := Kp23.wr W44 (Or.inr sz_b6)
            have f47 : Arv Z h44 b6 k6 .int (4 : Int32) [(.int (0 : Int32)), (.int (1 : Int32)), (.int (2 : Int32)), (.int (1 : Int32))] (.int (0 : Int32)) := V44
            have Wk48 : kw1 ≤ h44.size := by rw [W44.size]; exact Wk25
            show own_H T44 75 #[.val (.ref a1), .val (.ref b6), .val (.int (1 : Int32)), .val (.int (3 : Int32))] []
            clear f22 f24 Kp23 Wk25
            refine own_via (fun t k => XS.iinc X44.here hx rfl (hb hby own_d4_75) rfl (l' := #[.val (.ref a1), .val (.ref b6), .val (.int (1 : Int32)), .val (.int (4 : Int32))]) rfl k) ?_
            show own_H T44 78 #[.val (.ref a1), .val (.ref b6), .val (.int (1 : Int32)), .val (.int (4 : Int32))] []
            refine own_via (fun t k => XS.goto X44.here hx rfl (pc0 := 78) (pc' := 31) rfl (hb hby own_d4_78) (by decide) (by decide) k) ?_
            refine own_via (fun t k => XS.iloadN X44.here hx rfl (hb hby own_d4_31) rfl k) ?_
            refine own_via (fun t k => XS.aloadN X44.here hx rfl (hb hby own_d4_32) rfl rfl k) ?_
            show own_H T44 33 #[.val (.ref a1), .val (.ref b6), .val (.int (1 : Int32)), .val (.int (4 : Int32))] [(.ref a1), (.int (4 : Int32))]
            refine own_via (own_len X44 hx hZ e44 f45 (pc := 33) (Ls := #[.val (.ref a1), .val (.ref b6), .val (.int (1 : Int32)), .val (.int (4 : Int32))]) (rest := [(.int (4 : Int32))]) (hb hby own_d4_33)) ?_
            show own_H T44 34 #[.val (.ref a1), .val (.ref b6), .val (.int (1 : Int32)), .val (.int (4 : Int32))] [(.int (4 : Int32)), (.int (4 : Int32))]
            refine own_via (fun t k => XS.icmpYes X44.here hx rfl (pc0 := 34) (pc' := 81) rfl (hb hby own_d4_34) rfl (flt (by decide : ¬ ((4 : Int32) < (4 : Int32)))).2.1 (by decide) (by decide) k) ?_
            show own_H T44 81 #[.val (.ref a1), .val (.ref b6), .val (.int (1 : Int32)), .val (.int (4 : Int32))] []
            refine own_via (fun t k => XS.aloadN X44.here hx rfl (hb hby own_d4_81) rfl rfl k) ?_
            show own_H T44 82 #[.val (.ref a1), .val (.ref b6), .val (.int (1 : Int32)), .val (.int (4 : Int32))] [(.ref b6)]
            have fo50 : Arv Z h44 b6 k6 .int (4 : Int32) [(.int (0 : Int32)), (.int (own_t1 p0 p1)), (.int (own_t2 p0 p1 p2)), (.int (own_t3 p0 p1 p2 p3))] (.int (0 : Int32)) := by simp only [own_t1, own_t2, own_t3, if_pos hc13, if_pos hc20, if_neg hc27, if_neg hc35, if_pos hc43]; exact f47
            rw [hPw]
            refine own_wide S1 ?_
            exact own_retA X44 hx Bd.returns rfl rfl Bd.notSynchronized (hb hby own_d4_82) (by rw [e44]; exact ⟨⟨N44, b6, k6, rfl, Kp46, sz_b6, fo50⟩, Wk48⟩) (by decide) (by decide)
          ·
            refine own_via (fun t k => XS.icmpYes X21.here hx rfl (pc0 := 65) (pc' := 71) rfl (hb hby own_d4_65) rfl (feq hc43).2 (by decide) (by decide) k) ?_
            show own_H T21 71 #[.val (.ref a1), .val (.ref b6), .val (.int (0 : Int32)), .val (.int (3 : Int32))] []
            refine own_via (fun t k => XS.aloadN X21.here hx rfl (hb hby own_d4_71) rfl rfl k) ?_
            refine own_via (fun t k => XS.iloadN X21.here hx rfl (hb hby own_d4_72) rfl k) ?_
            refine own_via (fun t k => XS.iloadN X21.here hx rfl (hb hby own_d4_73) rfl k) ?_
            show own_H T21 74 #[.val (.ref a1), .val (.ref b6), .val (.int (0 : Int32)), .val (.int (3 : Int32))] [(.int (0 : Int32)), (.int (3 : Int32)), (.ref b6)]
            obtain ⟨T51, h51, L51, X51, N51, e51, W51, V51, st51⟩ := own_stI X21 N21 hx hZ e21 f24 g_b6 (j := (3 : Int32)) (x := (0 : Int32)) (i := 3) ⟨by decide, by decide⟩ rfl (Nat.le_of_ble_eq_true rfl) (pc := 74) (Ls := #[.val (.ref a1), .val (.ref b6), .val (.int (0 : Int32)), .val (.int (3 : Int32))]) (rest := []) (hb hby own_d4_74)
            refine own_via st51 ?_
            have f52 := f22.other W51 ne7
            have Kp53 := Kp23.wr W51 (Or.inr sz_b6)
            have f54 : Arv Z h51 b6 k6 .int (4 : Int32) [(.int (0 : Int32)), (.int (1 : Int32)), (.int (2 : Int32)), (.int (0 : Int32))] (.int (0 : Int32)) := V51
            have Wk55 : kw1 ≤ h51.size := by rw [W51.size]; exact Wk25
            show own_H T51 75 #[.val (.ref a1), .val (.ref b6), .val (.int (0 : Int32)), .val (.int (3 : Int32))] []
            clear f22 f24 Kp23 Wk25
            refine own_via (fun t k => XS.iinc X51.here hx rfl (hb hby own_d4_75) rfl (l' := #[.val (.ref a1), .val (.ref b6), .val (.int (0 : Int32)), .val (.int (4 : Int32))]) rfl k) ?_
            show own_H T51 78 #[.val (.ref a1), .val (.ref b6), .val (.int (0 : Int32)), .val (.int (4 : Int32))] []
            refine own_via (fun t k => XS.goto X51.here hx rfl (pc0 := 78) (pc' := 31) rfl (hb hby own_d4_78) (by decide) (by decide) k) ?_
            refine own_via (fun t k => XS.iloadN X51.here hx rfl (hb hby own_d4_31) rfl k) ?_
            refine own_via (fun t k => XS.aloadN X51.here hx rfl (hb hby own_d4_32) rfl rfl k) ?_
            show own_H T51 33 #[.val (.ref a1), .val (.ref b6), .val (.int (0 : Int32)), .val (.int (4 : Int32))] [(.ref a1), (.int (4 : Int32))]
            refine own_via (own_len X51 hx hZ e51 f52 (pc := 33) (Ls := #[.val (.ref a1), .val (.ref b6), .val (.int (0 : Int32)), .val (.int (4 : Int32))]) (rest := [(.int (4 : Int32))]) (hb hby own_d4_33)) ?_
            show own_H T51 34 #[.val (.ref a1), .val (.ref b6), .val (.int (0 : Int32)), .val (.int (4 : Int32))] [(.int (4 : Int32)), (.int (4 : Int32))]
            refine own_via (fun t k => XS.icmpYes X51.here hx rfl (pc0 := 34) (pc' := 81) rfl (hb hby own_d4_34) rfl (flt (by decide : ¬ ((4 : Int32) < (4 : Int32)))).2.1 (by decide) (by decide) k) ?_
            show own_H T51 81 #[.val (.ref a1), .val (.ref b6), .val (.int (0 : Int32)), .val (.int (4 : Int32))] []
            refine own_via (fun t k => XS.aloadN X51.here hx rfl (hb hby own_d4_81) rfl rfl k) ?_
            show own_H T51 82 #[.val (.ref a1), .val (.ref b6), .val (.int (0 : Int32)), .val (.int (4 : Int32))] [(.ref b6)]
            have fo57 : Arv Z h51 b6 k6 .int (4 : Int32) [(.int (0 : Int32)), (.int (own_t1 p0 p1)), (.int (own_t2 p0 p1 p2)), (.int (own_t3 p0 p1 p2 p3))] (.int (0 : Int32)) := by simp only [own_t1, own_t2, own_t3, if_pos hc13, if_pos hc20, if_neg hc27, if_neg hc35, if_neg hc43]; exact f54
            rw [hPw]
            refine own_wide S1 ?_
            exact own_retA X51 hx Bd.returns rfl rfl Bd.notSynchronized (hb hby own_d4_82) (by rw [e51]; exact ⟨⟨N51, b6, k6, rfl, Kp53, sz_b6, fo57⟩, Wk55⟩) (by decide) (by decide)
    ·
      refine own_via (fun t k => XS.icmpNo X14.here hx rfl (hb hby own_d4_47) rfl (feq hc20).1 k) ?_
      show own_H T14 50 #[.val (.ref a1), .val (.ref b6), .val (.int (1 : Int32)), .val (.int (2 : Int32))] []
      refine own_via (fun t k => XS.aloadN X14.here hx rfl (hb hby own_d4_50) rfl rfl k) ?_
      refine own_via (fun t k => XS.iloadN X14.here hx rfl (hb hby own_d4_51) rfl k) ?_
      refine own_via (fun t k => XS.iconst X14.here hx rfl (hb hby own_d4_52) k) ?_
      show own_H T14 53 #[.val (.ref a1), .val (.ref b6), .val (.int (1 : Int32)), .val (.int (2 : Int32))] [(.int (1 : Int32)), (.int (1 : Int32)), (.ref b6)]
      refine own_via (fun t k => XS.isub X14.here hx rfl (hb hby own_d4_53) rfl k) ?_
      show own_H T14 54 #[.val (.ref a1), .val (.ref b6), .val (.int (1 : Int32)), .val (.int (2 : Int32))] [(.int (0 : Int32)), (.ref b6)]
      refine own_via (own_ldI X14 hx hZ e14 f17 (j := (0 : Int32)) ⟨by decide, by decide⟩ (v := (.int (0 : Int32))) rfl (pc := 54) (Ls := #[.val (.ref a1), .val (.ref b6), .val (.int (1 : Int32)), .val (.int (2 : Int32))]) (rest := []) (hb hby own_d4_54)) ?_
      show own_H T14 55 #[.val (.ref a1), .val (.ref b6), .val (.int (1 : Int32)), .val (.int (2 : Int32))] [(.int (0 : Int32))]
      refine own_via (fun t k => XS.istoreN X14.here hx rfl (hb hby own_d4_55) rfl (l' := #[.val (.ref a1), .val (.ref b6), .val (.int (0 : Int32)), .val (.int (2 : Int32))]) rfl k) ?_
      show own_H T14 56 #[.val (.ref a1), .val (.ref b6), .val (.int (0 : Int32)), .val (.int (2 : Int32))] []
      refine own_via (fun t k => XS.goto X14.here hx rfl (pc0 := 56) (pc' := 37) rfl (hb hby own_d4_56) (by decide) (by decide) k) ?_
      refine own_via (fun t k => XS.iloadN X14.here hx rfl (hb hby own_d4_37) rfl k) ?_
      show own_H T14 38 #[.val (.ref a1), .val (.ref b6), .val (.int (0 : Int32)), .val (.int (2 : Int32))] [(.int (0 : Int32))]
      refine own_via (fun t k => XS.ifYes X14.here hx rfl (pc0 := 38) (pc' := 59) rfl (hb hby own_d4_38) rfl ((if0 _ _).trans (flt (by decide : ¬ ((0 : Int32) < (0 : Int32)))).2.2.2) (by decide) (by decide) k) ?_
      show own_H T14 59 #[.val (.ref a1), .val (.ref b6), .val (.int (0 : Int32)), .val (.int (2 : Int32))] []
      refine own_via (fun t k => XS.aloadN X14.here hx rfl (hb hby own_d4_59) rfl rfl k) ?_
      refine own_via (fun t k => XS.iloadN X14.here hx rfl (hb hby own_d4_60) rfl k) ?_
      show own_H T14 61 #[.val (.ref a1), .val (.ref b6), .val (.int (0 : Int32)), .val (.int (2 : Int32))] [(.int (2 : Int32)), (.ref a1)]
      refine own_via (own_ldI X14 hx hZ e14 f15 (j := (2 : Int32)) ⟨by decide, by decide⟩ (v := (.int p2)) rfl (pc := 61) (Ls := #[.val (.ref a1), .val (.ref b6), .val (.int (0 : Int32)), .val (.int (2 : Int32))]) (rest := []) (hb hby own_d4_61)) ?_
      show own_H T14 62 #[.val (.ref a1), .val (.ref b6), .val (.int (0 : Int32)), .val (.int (2 : Int32))] [(.int p2)]
      refine own_via (fun t k => XS.aloadN X14.here hx rfl (hb hby own_d4_62) rfl rfl k) ?_
      refine own_via (fun t k => XS.iloadN X14.here hx rfl (hb hby own_d4_63) rfl k) ?_
      show own_H T14 64 #[.val (.ref a1), .val (.ref b6), .val (.int (0 : Int32)), .val (.int (2 : Int32))] [(.int (0 : Int32)), (.ref a1), (.int p2)]
      refine own_via (own_ldI X14 hx hZ e14 f15 (j := (0 : Int32)) ⟨by decide, by decide⟩ (v := (.int p0)) rfl (pc := 64) (Ls := #[.val (.ref a1), .val (.ref b6), .val (.int (0 : Int32)), .val (.int (2 : Int32))]) (rest := [(.int p2)]) (hb hby own_d4_64)) ?_
      show own_H T14 65 #[.val (.ref a1), .val (.ref b6), .val (.int (0 : Int32)), .val (.int (2 : Int32))] [(.int p0), (.int p2)]
      by_cases hc58 : p2 = p0
      ·
        refine own_via (fun t k => XS.icmpNo X14.here hx rfl (hb hby own_d4_65) rfl (teq hc58).2 k) ?_
        show own_H T14 68 #[.val (.ref a1), .val (.ref b6), .val (.int (0 : Int32)), .val (.int (2 : Int32))] []
        refine own_via (fun t k => XS.iinc X14.here hx rfl (hb hby own_d4_68) rfl (l' := #[.val (.ref a1), .val (.ref b6), .val (.int (1 : Int32)), .val (.int (2 : Int32))]) rfl k) ?_
        refine own_via (fun t k => XS.aloadN X14.here hx rfl (hb hby own_d4_71) rfl rfl k) ?_
        refine own_via (fun t k => XS.iloadN X14.here hx rfl (hb hby own_d4_72) rfl k) ?_
        refine own_via (fun t k => XS.iloadN X14.here hx rfl (hb hby own_d4_73) rfl k) ?_
        show own_H T14 74 #[.val (.ref a1), .val (.ref b6), .val (.int (1 : Int32)), .val (.int (2 : Int32))] [(.int (1 : Int32)), (.int (2 : Int32)), (.ref b6)]
        obtain ⟨T59, h59, L59, X59, N59, e59, W59, V59, st59⟩ := own_stI X14 N14 hx hZ e14 f17 g_b6 (j := (2 : Int32)) (x := (1 : Int32)) (i := 2) ⟨by decide, by decide⟩ rfl (Nat.le_of_ble_eq_true rfl) (pc := 74) (Ls := #[.val (.ref a1), .val (.ref b6), .val (.int (1 : Int32)), .val (.int (2 : Int32))]) (rest := []) (hb hby own_d4_74)
        refine own_via st59 ?_
        have f60 := f15.other W59 ne7
        have Kp61 := Kp16.wr W59 (Or.inr sz_b6)
        have f62 : Arv Z h59 b6 k6 .int (4 : Int32) [(.int (0 : Int32)), (.int (1 : Int32)), (.int (1 : Int32)), (.int (0 : Int32))] (.int (0 : Int32)) := V59
        have Wk63 : kw1 ≤ h59.size := by rw [W59.size]; exact Wk18
        show own_H T59 75 #[.val (.ref a1), .val (.ref b6), .val (.int (1 : Int32)), .val (.int (2 : Int32))] []
        clear f15 f17 Kp16 Wk18
        refine own_via (fun t k => XS.iinc X59.here hx rfl (hb hby own_d4_75) rfl (l' := #[.val (.ref a1), .val (.ref b6), .val (.int (1 : Int32)), .val (.int (3 : Int32))]) rfl k) ?_
        show own_H T59 78 #[.val (.ref a1), .val (.ref b6), .val (.int (1 : Int32)), .val (.int (3 : Int32))] []
        refine own_via (fun t k => XS.goto X59.here hx rfl (pc0 := 78) (pc' := 31) rfl (hb hby own_d4_78) (by decide) (by decide) k) ?_
        refine own_via (fun t k => XS.iloadN X59.here hx rfl (hb hby own_d4_31) rfl k) ?_
        refine own_via (fun t k => XS.aloadN X59.here hx rfl (hb hby own_d4_32) rfl rfl k) ?_
        show own_H T59 33 #[.val (.ref a1), .val (.ref b6), .val (.int (1 : Int32)), .val (.int (3 : Int32))] [(.ref a1), (.int (3 : Int32))]
        refine own_via (own_len X59 hx hZ e59 f60 (pc := 33) (Ls := #[.val (.ref a1), .val (.ref b6), .val (.int (1 : Int32)), .val (.int (3 : Int32))]) (rest := [(.int (3 : Int32))]) (hb hby own_d4_33)) ?_
        show own_H T59 34 #[.val (.ref a1), .val (.ref b6), .val (.int (1 : Int32)), .val (.int (3 : Int32))] [(.int (4 : Int32)), (.int (3 : Int32))]
        refine own_via (fun t k => XS.icmpNo X59.here hx rfl (hb hby own_d4_34) rfl (tlt (by decide : (3 : Int32) < (4 : Int32))).2.1 k) ?_
        show own_H T59 37 #[.val (.ref a1), .val (.ref b6), .val (.int (1 : Int32)), .val (.int (3 : Int32))] []
        refine own_via (fun t k => XS.iloadN X59.here hx rfl (hb hby own_d4_37) rfl k) ?_
        show own_H T59 38 #[.val (.ref a1), .val (.ref b6), .val (.int (1 : Int32)), .val (.int (3 : Int32))] [(.int (1 : Int32))]
        refine own_via (fun t k => XS.ifNo X59.here hx rfl (hb hby own_d4_38) rfl ((if0 _ _).trans (tlt (by decide : (0 : Int32) < (1 : Int32))).2.2.2) k) ?_
        show own_H T59 41 #[.val (.ref a1), .val (.ref b6), .val (.int (1 : Int32)), .val (.int (3 : Int32))] []
        refine own_via (fun t k => XS.aloadN X59.here hx rfl (hb hby own_d4_41) rfl rfl k) ?_
        refine own_via (fun t k => XS.iloadN X59.here hx rfl (hb hby own_d4_42) rfl k) ?_
        show own_H T59 43 #[.val (.ref a1), .val (.ref b6), .val (.int (1 : Int32)), .val (.int (3 : Int32))] [(.int (3 : Int32)), (.ref a1)]
        refine own_via (own_ldI X59 hx hZ e59 f60 (j := (3 : Int32)) ⟨by decide, by decide⟩ (v := (.int p3)) rfl (pc := 43) (Ls := #[.val (.ref a1), .val (.ref b6), .val (.int (1 : Int32)), .val (.int (3 : Int32))]) (rest := []) (hb hby own_d4_43)) ?_
        show own_H T59 44 #[.val (.ref a1), .val (.ref b6), .val (.int (1 : Int32)), .val (.int (3 : Int32))] [(.int p3)]
        refine own_via (fun t k => XS.aloadN X59.here hx rfl (hb hby own_d4_44) rfl rfl k) ?_
        refine own_via (fun t k => XS.iloadN X59.here hx rfl (hb hby own_d4_45) rfl k) ?_
        show own_H T59 46 #[.val (.ref a1), .val (.ref b6), .val (.int (1 : Int32)), .val (.int (3 : Int32))] [(.int (1 : Int32)), (.ref a1), (.int p3)]
        refine own_via (own_ldI X59 hx hZ e59 f60 (j := (1 : Int32)) ⟨by decide, by decide⟩ (v := (.int p1)) rfl (pc := 46) (Ls := #[.val (.ref a1), .val (.ref b6), .val (.int (1 : Int32)), .val (.int (3 : Int32))]) (rest := [(.int p3)]) (hb hby own_d4_46)) ?_
        show own_H T59 47 #[.val (.ref a1), .val (.ref b6), .val (.int (1 : Int32)), .val (.int (3 : Int32))] [(.int p1), (.int p3)]
        by_cases hc65 : p3 = p1
        ·
          refine own_via (fun t k => XS.icmpYes X59.here hx rfl (pc0 := 47) (pc' := 59) rfl (hb hby own_d4_47) rfl (teq hc65).1 (by decide) (by decide) k) ?_
          show own_H T59 59 #[.val (.ref a1), .val (.ref b6), .val (.int (1 : Int32)), .val (.int (3 : Int32))] []
          refine own_via (fun t k => XS.aloadN X59.here hx rfl (hb hby own_d4_59) rfl rfl k) ?_
          refine own_via (fun t k => XS.iloadN X59.here hx rfl (hb hby own_d4_60) rfl k) ?_
          show own_H T59 61 #[.val (.ref a1), .val (.ref b6), .val (.int (1 : Int32)), .val (.int (3 : Int32))] [(.int (3 : Int32)), (.ref a1)]
          refine own_via (own_ldI X59 hx hZ e59 f60 (j := (3 : Int32)) ⟨by decide, by decide⟩ (v := (.int p3)) rfl (pc := 61) (Ls := #[.val (.ref a1), .val (.ref b6), .val (.int (1 : Int32)), .val (.int (3 : Int32))]) (rest := []) (hb hby own_d4_61)) ?_
          show own_H T59 62 #[.val (.ref a1), .val (.ref b6), .val (.int (1 : Int32)), .val (.int (3 : Int32))] [(.int p3)]
          refine own_via (fun t k => XS.aloadN X59.here hx rfl (hb hby own_d4_62) rfl rfl k) ?_
          refine own_via (fun t k => XS.iloadN X59.here hx rfl (hb hby own_d4_63) rfl k) ?_
          show own_H T59 64 #[.val (.ref a1), .val (.ref b6), .val (.int (1 : Int32)), .val (.int (3 : Int32))] [(.int (1 : Int32)), (.ref a1), (.int p3)]
          refine own_via (own_ldI X59 hx hZ e59 f60 (j := (1 : Int32)) ⟨by decide, by decide⟩ (v := (.int p1)) rfl (pc := 64) (Ls := #[.val (.ref a1), .val (.ref b6), .val (.int (1 : Int32)), .val (.int (3 : Int32))]) (rest := [(.int p3)]) (hb hby own_d4_64)) ?_
          show own_H T59 65 #[.val (.ref a1), .val (.ref b6), .val (.int (1 : Int32)), .val (.int (3 : Int32))] [(.int p1), (.int p3)]
          refine own_via (fun t k => XS.icmpNo X59.here hx rfl (hb hby own_d4_65) rfl (teq hc65).2 k) ?_
          show own_H T59 68 #[.val (.ref a1), .val (.ref b6), .val (.int (1 : Int32)), .val (.int (3 : Int32))] []
          refine own_via (fun t k => XS.iinc X59.here hx rfl (hb hby own_d4_68) rfl (l' := #[.val (.ref a1), .val (.ref b6), .val (.int (2 : Int32)), .val (.int (3 : Int32))]) rfl k) ?_
          refine own_via (fun t k => XS.aloadN X59.here hx rfl (hb hby own_d4_71) rfl rfl k) ?_
          refine own_via (fun t k => XS.iloadN X59.here hx rfl (hb hby own_d4_72) rfl k) ?_
          refine own_via (fun t k => XS.iloadN X59.here hx rfl (hb hby own_d4_73) rfl k) ?_
          show own_H T59 74 #[.val (.ref a1), .val (.ref b6), .val (.int (2 : Int32)), .val (.int (3 : Int32))] [(.int (2 : Int32)), (.int (3 : Int32)), (.ref b6)]
          obtain ⟨T66, h66, L66, X66, N66, e66, W66, V66, st66⟩ := own_stI X59 N59 hx hZ e59 f62 g_b6 (j := (3 : Int32)) (x := (2 : Int32)) (i := 3) ⟨by decide, by decide⟩ rfl (Nat.le_of_ble_eq_true rfl) (pc := 74) (Ls := #[.val (.ref a1), .val (.ref b6), .val (.int (2 : Int32)), .val (.int (3 : Int32))]) (rest := []) (hb hby own_d4_74)
          refine own_via st66 ?_
          have f67 := f60.other W66 ne7
          have Kp68 := Kp61.wr W66 (Or.inr sz_b6)
          have f69 : Arv Z h66 b6 k6 .int (4 : Int32) [(.int (0 : Int32)), (.int (1 : Int32)), (.int (1 : Int32)), (.int (2 : Int32))] (.int (0 : Int32)) := V66
          have Wk70 : kw1 ≤ h66.size := by rw [W66.size]; exact Wk63
          show own_H T66 75 #[.val (.ref a1), .val (.ref b6), .val (.int (2 : Int32)), .val (.int (3 : Int32))] []
          clear f60 f62 Kp61 Wk63
          refine own_via (fun t k => XS.iinc X66.here hx rfl (hb hby own_d4_75) rfl (l' := #[.val (.ref a1), .val (.ref b6), .val (.int (2 : Int32)), .val (.int (4 : Int32))]) rfl k) ?_
          show own_H T66 78 #[.val (.ref a1), .val (.ref b6), .val (.int (2 : Int32)), .val (.int (4 : Int32))] []
          refine own_via (fun t k => XS.goto X66.here hx rfl (pc0 := 78) (pc' := 31) rfl (hb hby own_d4_78) (by decide) (by decide) k) ?_
          refine own_via (fun t k => XS.iloadN X66.here hx rfl (hb hby own_d4_31) rfl k) ?_
          refine own_via (fun t k => XS.aloadN X66.here hx rfl (hb hby own_d4_32) rfl rfl k) ?_
          show own_H T66 33 #[.val (.ref a1), .val (.ref b6), .val (.int (2 : Int32)), .val (.int (4 : Int32))] [(.ref a1), (.int (4 : Int32))]
          refine own_via (own_len X66 hx hZ e66 f67 (pc := 33) (Ls := #[.val (.ref a1), .val (.ref b6), .val (.int (2 : Int32)), .val (.int (4 : Int32))]) (rest := [(.int (4 : Int32))]) (hb hby own_d4_33)) ?_
          show own_H T66 34 #[.val (.ref a1), .val (.ref b6), .val (.int (2 : Int32)), .val (.int (4 : Int32))] [(.int (4 : Int32)), (.int (4 : Int32))]
          refine own_via (fun t k => XS.icmpYes X66.here hx rfl (pc0 := 34) (pc' := 81) rfl (hb hby own_d4_34) rfl (flt (by decide : ¬ ((4 : Int32) < (4 : Int32)))).2.1 (by decide) (by decide) k) ?_
          show own_H T66 81 #[.val (.ref a1), .val (.ref b6), .val (.int (2 : Int32)), .val (.int (4 : Int32))] []
          refine own_via (fun t k => XS.aloadN X66.here hx rfl (hb hby own_d4_81) rfl rfl k) ?_
          show own_H T66 82 #[.val (.ref a1), .val (.ref b6), .val (.int (2 : Int32)), .val (.int (4 : Int32))] [(.ref b6)]
          have fo72 : Arv Z h66 b6 k6 .int (4 : Int32) [(.int (0 : Int32)), (.int (own_t1 p0 p1)), (.int (own_t2 p0 p1 p2)), (.int (own_t3 p0 p1 p2 p3))] (.int (0 : Int32)) := by simp only [own_t1, own_t2, own_t3, if_pos hc13, if_neg hc20, if_pos hc58, if_pos hc65]; exact f69
          rw [hPw]
          refine own_wide S1 ?_
          exact own_retA X66 hx Bd.returns rfl rfl Bd.notSynchronized (hb hby own_d4_82) (by rw [e66]; exact ⟨⟨N66, b6, k6, rfl, Kp68, sz_b6, fo72⟩, Wk70⟩) (by decide) (by decide)
        ·
          refine own_via (fun t k => XS.icmpNo X59.here hx rfl (hb hby own_d4_47) rfl (feq hc65).1 k) ?_
          show own_H T59 50 #[.val (.ref a1), .val (.ref b6), .val (.int (1 : Int32)), .val (.int (3 : Int32))] []
          refine own_via (fun t k => XS.aloadN X59.here hx rfl (hb hby own_d4_50) rfl rfl k) ?_
          refine own_via (fun t k => XS.iloadN X59.here hx rfl (hb hby own_d4_51) rfl k) ?_
          refine own_via (fun t k => XS.iconst X59.here hx rfl (hb hby own_d4_52) k) ?_
          show own_H T59 53 #[.val (.ref a1), .val (.ref b6), .val (.int (1 : Int32)), .val (.int (3 : Int32))] [(.int (1 : Int32)), (.int (1 : Int32)), (.ref b6)]
          refine own_via (fun t k => XS.isub X59.here hx rfl (hb hby own_d4_53) rfl k) ?_
          show own_H T59 54 #[.val (.ref a1), .val (.ref b6), .val (.int (1 : Int32)), .val (.int (3 : Int32))] [(.int (0 : Int32)), (.ref b6)]
          refine own_via (own_ldI X59 hx hZ e59 f62 (j := (0 : Int32)) ⟨by decide, by decide⟩ (v := (.int (0 : Int32))) rfl (pc := 54) (Ls := #[.val (.ref a1), .val (.ref b6), .val (.int (1 : Int32)), .val (.int (3 : Int32))]) (rest := []) (hb hby own_d4_54)) ?_
          show own_H T59 55 #[.val (.ref a1), .val (.ref b6), .val (.int (1 : Int32)), .val (.int (3 : Int32))] [(.int (0 : Int32))]
          refine own_via (fun t k => XS.istoreN X59.here hx rfl (hb hby own_d4_55) rfl (l' := #[.val (.ref a1), .val (.ref b6), .val (.int (0 : Int32)), .val (.int (3 : Int32))]) rfl k) ?_
          show own_H T59 56 #[.val (.ref a1), .val (.ref b6), .val (.int (0 : Int32)), .val (.int (3 : Int32))] []
          refine own_via (fun t k => XS.goto X59.here hx rfl (pc0 := 56) (pc' := 37) rfl (hb hby own_d4_56) (by decide) (by decide) k) ?_
          refine own_via (fun t k => XS.iloadN X59.here hx rfl (hb hby own_d4_37) rfl k) ?_
          show own_H T59 38 #[.val (.ref a1), .val (.ref b6), .val (.int (0 : Int32)), .val (.int (3 : Int32))] [(.int (0 : Int32))]
          refine own_via (fun t k => XS.ifYes X59.here hx rfl (pc0 := 38) (pc' := 59) rfl (hb hby own_d4_38) rfl ((if0 _ _).trans (flt (by decide : ¬ ((0 : Int32) < (0 : Int32)))).2.2.2) (by decide) (by decide) k) ?_
          show own_H T59 59 #[.val (.ref a1), .val (.ref b6), .val (.int (0 : Int32)), .val (.int (3 : Int32))] []
          refine own_via (fun t k => XS.aloadN X59.here hx rfl (hb hby own_d4_59) rfl rfl k) ?_
          refine own_via (fun t k => XS.iloadN X59.here hx rfl (hb hby own_d4_60) rfl k) ?_
          show own_H T59 61 #[.val (.ref a1), .val (.ref b6), .val (.int (0 : Int32)), .val (.int (3 : Int32))] [(.int (3 : Int32)), (.ref a1)]
          refine own_via (own_ldI X59 hx hZ e59 f60 (j := (3 : Int32)) ⟨by decide, by decide⟩ (v := (.int p3)) rfl (pc := 61) (Ls := #[.val (.ref a1), .val (.ref b6), .val (.int (0 : Int32)), .val (.int (3 : Int32))]) (rest := []) (hb hby own_d4_61)) ?_
          show own_H T59 62 #[.val (.ref a1), .val (.ref b6), .val (.int (0 : Int32)), .val (.int (3 : Int32))] [(.int p3)]
          refine own_via (fun t k => XS.aloadN X59.here hx rfl (hb hby own_d4_62) rfl rfl k) ?_
          refine own_via (fun t k => XS.iloadN X59.here hx rfl (hb hby own_d4_63) rfl k) ?_
          show own_H T59 64 #[.val (.ref a1), .val (.ref b6), .val (.int (0 : Int32)), .val (.int (3 : Int32))] [(.int (0 : Int32)), (.ref a1), (.int p3)]
          refine own_via (own_ldI X59 hx hZ e59 f60 (j := (0 : Int32)) ⟨by decide, by decide⟩ (v := (.int p0)) rfl (pc := 64) (Ls := #[.val (.ref a1), .val (.ref b6), .val (.int (0 : Int32)), .val (.int (3 : Int32))]) (rest := [(.int p3)]) (hb hby own_d4_64)) ?_
          show own_H T59 65 #[.val (.ref a1), .val (.ref b6), .val (.int (0 : Int32)), .val (.int (3 : Int32))] [(.int p0), (.int p3)]
          by_cases hc73 : p3 = p0
          ·
            refine own_via (fun t k => XS.icmpNo X59.here hx rfl (hb hby own_d4_65) rfl (teq hc73).2 k) ?_
            show own_H T59 68 #[.val (.ref a1), .val (.ref b6), .val (.int (0 : Int32)), .val (.int (3 : Int32))] []
            refine own_via (fun t k => XS.iinc X59.here hx rfl (hb hby own_d4_68) rfl (l' := #[.val (.ref a1), .val (.ref b6), .val (.int (1 : Int32)), .val (.int (3 : Int32))]) rfl k) ?_
            refine own_via (fun t k => XS.aloadN X59.here hx rfl (hb hby own_d4_71) rfl rfl k) ?_
            refine own_via (fun t k => XS.iloadN X59.here hx rfl (hb hby own_d4_72) rfl k) ?_
            refine own_via (fun t k => XS.iloadN X59.here hx rfl (hb hby own_d4_73) rfl k) ?_
            show own_H T59 74 #[.val (.ref a1), .val (.ref b6), .val (.int (1 : Int32)), .val (.int (3 : Int32))] [(.int (1 : Int32)), (.int (3 : Int32)), (.ref b6)]
            obtain ⟨T74, h74, L74, X74, N74, e74, W74, V74, st74⟩ := own_stI X59 N59 hx hZ e59 f62 g_b6 (j := (3 : Int32)) (x := (1 : Int32)) (i := 3) ⟨by decide, by decide⟩ rfl (Nat.le_of_ble_eq_true rfl) (pc := 74) (Ls := #[.val (.ref a1), .val (.ref b6), .val (.int (1 : Int32)), .val (.int (3 : Int32))]) (rest := []) (hb hby own_d4_74)
            refine own_via st74 ?_
            have f75 := f60.other W74 ne7
            have Kp76 := Kp61.wr W74 (Or.inr sz_b6)
            have f77 : Arv Z h74 b6 k6 .int (4 : Int32) [(.int (0 : Int32)), (.int (1 : Int32)), (.int (1 : Int32)), (.int (1 : Int32))] (.int (0 : Int32)) := V74
            have Wk78 : kw1 ≤ h74.size := by rw [W74.size]; exact Wk63
            show own_H T74 75 #[.val (.ref a1), .val (.ref b6), .val (.int (1 : Int32)), .val (.int (3 : Int32))] []
            clear f60 f62 Kp61 Wk63
            refine own_via (fun t k => XS.iinc X74.here hx rfl (hb hby own_d4_75) rfl (l' := #[.val (.ref a1), .val (.ref b6), .val (.int (1 : Int32)), .val (.int (4 : Int32))]) rfl k) ?_
            show own_H T74 78 #[.val (.ref a1), .val (.ref b6), .val (.int (1 : Int32)), .val (.int (4 : Int32))] []
            refine own_via (fun t k => XS.goto X74.here hx rfl (pc0 := 78) (pc' := 31) rfl (hb hby own_d4_78) (by decide) (by decide) k) ?_
            refine own_via (fun t k => XS.iloadN X74.here hx rfl (hb hby own_d4_31) rfl k) ?_
            refine own_via (fun t k => XS.aloadN X74.here hx rfl (hb hby own_d4_32) rfl rfl k) ?_
            show own_H T74 33 #[.val (.ref a1), .val (.ref b6), .val (.int (1 : Int32)), .val (.int (4 : Int32))] [(.ref a1), (.int (4 : Int32))]
            refine own_via (own_len X74 hx hZ e74 f75 (pc := 33) (Ls := #[.val (.ref a1), .val (.ref b6), .val (.int (1 : Int32)), .val (.int (4 : Int32))]) (rest := [(.int (4 : Int32))]) (hb hby own_d4_33)) ?_
            show own_H T74 34 #[.val (.ref a1), .val (.ref b6), .val (.int (1 : Int32)), .val (.int (4 : Int32))] [(.int (4 : Int32)), (.int (4 : Int32))]
            refine own_via (fun t k => XS.icmpYes X74.here hx rfl (pc0 := 34) (pc' := 81) rfl (hb hby own_d4_34) rfl (flt (by decide : ¬ ((4 : Int32) < (4 : Int32)))).2.1 (by decide) (by decide) k) ?_
            show own_H T74 81 #[.val (.ref a1), .val (.ref b6), .val (.int (1 : Int32)), .val (.int (4 : Int32))] []
            refine own_via (fun t k => XS.aloadN X74.here hx rfl (hb hby own_d4_81) rfl rfl k) ?_
            show own_H T74 82 #[.val (.ref a1), .val (.ref b6), .val (.int (1 : Int32)), .val (.int (4 : Int32))] [(.ref b6)]
            have fo80 : Arv Z h74 b6 k6 .int (4 : Int32) [(.int (0 : Int32)), (.int (own_t1 p0 p1)), (.int (own_t2 p0 p1 p2)), (.int (own_t3 p0 p1 p2 p3))] (.int (0 : Int32)) := by simp only [own_t1, own_t2, own_t3, if_pos hc13, if_neg hc20, if_pos hc58, if_neg hc65, if_pos hc73]; exact f77
            rw [hPw]
            refine own_wide S1 ?_
            exact own_retA X74 hx Bd.returns rfl rfl Bd.notSynchronized (hb hby own_d4_82) (by rw [e74]; exact ⟨⟨N74, b6, k6, rfl, Kp76, sz_b6, fo80⟩, Wk78⟩) (by decide) (by decide)
          ·
            refine own_via (fun t k => XS.icmpYes X59.here hx rfl (pc0 := 65) (pc' := 71) rfl (hb hby own_d4_65) rfl (feq hc73).2 (by decide) (by decide) k) ?_
            show own_H T59 71 #[.val (.ref a1), .val (.ref b6), .val (.int (0 : Int32)), .val (.int (3 : Int32))] []
            refine own_via (fun t k => XS.aloadN X59.here hx rfl (hb hby own_d4_71) rfl rfl k) ?_
            refine own_via (fun t k => XS.iloadN X59.here hx rfl (hb hby own_d4_72) rfl k) ?_
            refine own_via (fun t k => XS.iloadN X59.here hx rfl (hb hby own_d4_73) rfl k) ?_
            show own_H T59 74 #[.val (.ref a1), .val (.ref b6), .val (.int (0 : Int32)), .val (.int (3 : Int32))] [(.int (0 : Int32)), (.int (3 : Int32)), (.ref b6)]
            obtain ⟨T81, h81, L81, X81, N81, e81, W81, V81, st81⟩ := own_stI X59 N59 hx hZ e59 f62 g_b6 (j := (3 : Int32)) (x := (0 : Int32)) (i := 3) ⟨by decide, by decide⟩ rfl (Nat.le_of_ble_eq_true rfl) (pc := 74) (Ls := #[.val (.ref a1), .val (.ref b6), .val (.int (0 : Int32)), .val (.int (3 : Int32))]) (rest := []) (hb hby own_d4_74)
            refine own_via st81 ?_
            have f82 := f60.other W81 ne7
            have Kp83 := Kp61.wr W81 (Or.inr sz_b6)
            have f84 : Arv Z h81 b6 k6 .int (4 : Int32) [(.int (0 : Int32)), (.int (1 : Int32)), (.int (1 : Int32)), (.int (0 : Int32))] (.int (0 : Int32)) := V81
            have Wk85 : kw1 ≤ h81.size := by rw [W81.size]; exact Wk63
            show own_H T81 75 #[.val (.ref a1), .val (.ref b6), .val (.int (0 : Int32)), .val (.int (3 : Int32))] []
            clear f60 f62 Kp61 Wk63
            refine own_via (fun t k => XS.iinc X81.here hx rfl (hb hby own_d4_75) rfl (l' := #[.val (.ref a1), .val (.ref b6), .val (.int (0 : Int32)), .val (.int (4 : Int32))]) rfl k) ?_
            show own_H T81 78 #[.val (.ref a1), .val (.ref b6), .val (.int (0 : Int32)), .val (.int (4 : Int32))] []
            refine own_via (fun t k => XS.goto X81.here hx rfl (pc0 := 78) (pc' := 31) rfl (hb hby own_d4_78) (by decide) (by decide) k) ?_
            refine own_via (fun t k => XS.iloadN X81.here hx rfl (hb hby own_d4_31) rfl k) ?_
            refine own_via (fun t k => XS.aloadN X81.here hx rfl (hb hby own_d4_32) rfl rfl k) ?_
            show own_H T81 33 #[.val (.ref a1), .val (.ref b6), .val (.int (0 : Int32)), .val (.int (4 : Int32))] [(.ref a1), (.int (4 : Int32))]
            refine own_via (own_len X81 hx hZ e81 f82 (pc := 33) (Ls := #[.val (.ref a1), .val (.ref b6), .val (.int (0 : Int32)), .val (.int (4 : Int32))]) (rest := [(.int (4 : Int32))]) (hb hby own_d4_33)) ?_
            show own_H T81 34 #[.val (.ref a1), .val (.ref b6), .val (.int (0 : Int32)), .val (.int (4 : Int32))] [(.int (4 : Int32)), (.int (4 : Int32))]
            refine own_via (fun t k => XS.icmpYes X81.here hx rfl (pc0 := 34) (pc' := 81) rfl (hb hby own_d4_34) rfl (flt (by decide : ¬ ((4 : Int32) < (4 : Int32)))).2.1 (by decide) (by decide) k) ?_
            show own_H T81 81 #[.val (.ref a1), .val (.ref b6), .val (.int (0 : Int32)), .val (.int (4 : Int32))] []
            refine own_via (fun t k => XS.aloadN X81.here hx rfl (hb hby own_d4_81) rfl rfl k) ?_
            show own_H T81 82 #[.val (.ref a1), .val (.ref b6), .val (.int (0 : Int32)), .val (.int (4 : Int32))] [(.ref b6)]
            have fo87 : Arv Z h81 b6 k6 .int (4 : Int32) [(.int (0 : Int32)), (.int (own_t1 p0 p1)), (.int (own_t2 p0 p1 p2)), (.int (own_t3 p0 p1 p2 p3))] (.int (0 : Int32)) := by simp only [own_t1, own_t2, own_t3, if_pos hc13, if_neg hc20, if_pos hc58, if_neg hc65, if_neg hc73]; exact f84
            rw [hPw]
            refine own_wide S1 ?_
            exact own_retA X81 hx Bd.returns rfl rfl Bd.notSynchronized (hb hby own_d4_82) (by rw [e81]; exact ⟨⟨N81, b6, k6, rfl, Kp83, sz_b6, fo87⟩, Wk85⟩) (by decide) (by decide)
      ·
        refine own_via (fun t k => XS.icmpYes X14.here hx rfl (pc0 := 65) (pc' := 71) rfl (hb hby own_d4_65) rfl (feq hc58).2 (by decide) (by decide) k) ?_
        show own_H T14 71 #[.val (.ref a1), .val (.ref b6), .val (.int (0 : Int32)), .val (.int (2 : Int32))] []
        refine own_via (fun t k => XS.aloadN X14.here hx rfl (hb hby own_d4_71) rfl rfl k) ?_
        refine own_via (fun t k => XS.iloadN X14.here hx rfl (hb hby own_d4_72) rfl k) ?_
        refine own_via (fun t k => XS.iloadN X14.here hx rfl (hb hby own_d4_73) rfl k) ?_
        show own_H T14 74 #[.val (.ref a1), .val (.ref b6), .val (.int (0 : Int32)), .val (.int (2 : Int32))] [(.int (0 : Int32)), (.int (2 : Int32)), (.ref b6)]
        obtain ⟨T88, h88, L88, X88, N88, e88, W88, V88, st88⟩ := own_stI X14 N14 hx hZ e14 f17 g_b6 (j := (2 : Int32)) (x := (0 : Int32)) (i := 2) ⟨by decide, by decide⟩ rfl (Nat.le_of_ble_eq_true rfl) (pc := 74) (Ls := #[.val (.ref a1), .val (.ref b6), .val (.int (0 : Int32)), .val (.int (2 : Int32))]) (rest := []) (hb hby own_d4_74)
        refine own_via st88 ?_
        have f89 := f15.other W88 ne7
        have Kp90 := Kp16.wr W88 (Or.inr sz_b6)
        have f91 : Arv Z h88 b6 k6 .int (4 : Int32) [(.int (0 : Int32)), (.int (1 : Int32)), (.int (0 : Int32)), (.int (0 : Int32))] (.int (0 : Int32)) := V88
        have Wk92 : kw1 ≤ h88.size := by rw [W88.size]; exact Wk18
        show own_H T88 75 #[.val (.ref a1), .val (.ref b6), .val (.int (0 : Int32)), .val (.int (2 : Int32))] []
        clear f15 f17 Kp16 Wk18
        refine own_via (fun t k => XS.iinc X88.here hx rfl (hb hby own_d4_75) rfl (l' := #[.val (.ref a1), .val (.ref b6), .val (.int (0 : Int32)), .val (.int (3 : Int32))]) rfl k) ?_
        show own_H T88 78 #[.val (.ref a1), .val (.ref b6), .val (.int (0 : Int32)), .val (.int (3 : Int32))] []
        refine own_via (fun t k => XS.goto X88.here hx rfl (pc0 := 78) (pc' := 31) rfl (hb hby own_d4_78) (by decide) (by decide) k) ?_
        refine own_via (fun t k => XS.iloadN X88.here hx rfl (hb hby own_d4_31) rfl k) ?_
        refine own_via (fun t k => XS.aloadN X88.here hx rfl (hb hby own_d4_32) rfl rfl k) ?_
        show own_H T88 33 #[.val (.ref a1), .val (.ref b6), .val (.int (0 : Int32)), .val (.int (3 : Int32))] [(.ref a1), (.int (3 : Int32))]
        refine own_via (own_len X88 hx hZ e88 f89 (pc := 33) (Ls := #[.val (.ref a1), .val (.ref b6), .val (.int (0 : Int32)), .val (.int (3 : Int32))]) (rest := [(.int (3 : Int32))]) (hb hby own_d4_33)) ?_
        show own_H T88 34 #[.val (.ref a1), .val (.ref b6), .val (.int (0 : Int32)), .val (.int (3 : Int32))] [(.int (4 : Int32)), (.int (3 : Int32))]
        refine own_via (fun t k => XS.icmpNo X88.here hx rfl (hb hby own_d4_34) rfl (tlt (by decide : (3 : Int32) < (4 : Int32))).2.1 k) ?_
        show own_H T88 37 #[.val (.ref a1), .val (.ref b6), .val (.int (0 : Int32)), .val (.int (3 : Int32))] []
        refine own_via (fun t k => XS.iloadN X88.here hx rfl (hb hby own_d4_37) rfl k) ?_
        show own_H T88 38 #[.val (.ref a1), .val (.ref b6), .val (.int (0 : Int32)), .val (.int (3 : Int32))] [(.int (0 : Int32))]
        refine own_via (fun t k => XS.ifYes X88.here hx rfl (pc0 := 38) (pc' := 59) rfl (hb hby own_d4_38) rfl ((if0 _ _).trans (flt (by decide : ¬ ((0 : Int32) < (0 : Int32)))).2.2.2) (by decide) (by decide) k) ?_
        show own_H T88 59 #[.val (.ref a1), .val (.ref b6), .val (.int (0 : Int32)), .val (.int (3 : Int32))] []
        refine own_via (fun t k => XS.aloadN X88.here hx rfl (hb hby own_d4_59) rfl rfl k) ?_
        refine own_via (fun t k => XS.iloadN X88.here hx rfl (hb hby own_d4_60) rfl k) ?_
        show own_H T88 61 #[.val (.ref a1), .val (.ref b6), .val (.int (0 : Int32)), .val (.int (3 : Int32))] [(.int (3 : Int32)), (.ref a1)]
        refine own_via (own_ldI X88 hx hZ e88 f89 (j := (3 : Int32)) ⟨by decide, by decide⟩ (v := (.int p3)) rfl (pc := 61) (Ls := #[.val (.ref a1), .val (.ref b6), .val (.int (0 : Int32)), .val (.int (3 : Int32))]) (rest := []) (hb hby own_d4_61)) ?_
        show own_H T88 62 #[.val (.ref a1), .val (.ref b6), .val (.int (0 : Int32)), .val (.int (3 : Int32))] [(.int p3)]
        refine own_via (fun t k => XS.aloadN X88.here hx rfl (hb hby own_d4_62) rfl rfl k) ?_
        refine own_via (fun t k => XS.iloadN X88.here hx rfl (hb hby own_d4_63) rfl k) ?_
        show own_H T88 64 #[.val (.ref a1), .val (.ref b6), .val (.int (0 : Int32)), .val (.int (3 : Int32))] [(.int (0 : Int32)), (.ref a1), (.int p3)]
        refine own_via (own_ldI X88 hx hZ e88 f89 (j := (0 : Int32)) ⟨by decide, by decide⟩ (v := (.int p0)) rfl (pc := 64) (Ls := #[.val (.ref a1), .val (.ref b6), .val (.int (0 : Int32)), .val (.int (3 : Int32))]) (rest := [(.int p3)]) (hb hby own_d4_64)) ?_
        show own_H T88 65 #[.val (.ref a1), .val (.ref b6), .val (.int (0 : Int32)), .val (.int (3 : Int32))] [(.int p0), (.int p3)]
        by_cases hc94 : p3 = p0
        ·
          refine own_via (fun t k => XS.icmpNo X88.here hx rfl (hb hby own_d4_65) rfl (teq hc94).2 k) ?_
          show own_H T88 68 #[.val (.ref a1), .val (.ref b6), .val (.int (0 : Int32)), .val (.int (3 : Int32))] []
          refine own_via (fun t k => XS.iinc X88.here hx rfl (hb hby own_d4_68) rfl (l' := #[.val (.ref a1), .val (.ref b6), .val (.int (1 : Int32)), .val (.int (3 : Int32))]) rfl k) ?_
          refine own_via (fun t k => XS.aloadN X88.here hx rfl (hb hby own_d4_71) rfl rfl k) ?_
          refine own_via (fun t k => XS.iloadN X88.here hx rfl (hb hby own_d4_72) rfl k) ?_
          refine own_via (fun t k => XS.iloadN X88.here hx rfl (hb hby own_d4_73) rfl k) ?_
          show own_H T88 74 #[.val (.ref a1), .val (.ref b6), .val (.int (1 : Int32)), .val (.int (3 : Int32))] [(.int (1 : Int32)), (.int (3 : Int32)), (.ref b6)]
          obtain ⟨T95, h95, L95, X95, N95, e95, W95, V95, st95⟩ := own_stI X88 N88 hx hZ e88 f91 g_b6 (j := (3 : Int32)) (x := (1 : Int32)) (i := 3) ⟨by decide, by decide⟩ rfl (Nat.le_of_ble_eq_true rfl) (pc := 74) (Ls := #[.val (.ref a1), .val (.ref b6), .val (.int (1 : Int32)), .val (.int (3 : Int32))]) (rest := []) (hb hby own_d4_74)
          refine own_via st95 ?_
          have f96 := f89.other W95 ne7
          have Kp97 := Kp90.wr W95 (Or.inr sz_b6)
          have f98 : Arv Z h95 b6 k6 .int (4 : Int32) [(.int (0 : Int32)), (.int (1 : Int32)), (.int (0 : Int32)), (.int (1 : Int32))] (.int (0 : Int32)) := V95
          have Wk99 : kw1 ≤ h95.size := by rw [W95.size]; exact Wk92
          show own_H T95 75 #[.val (.ref a1), .val (.ref b6), .val (.int (1 : Int32)), .val (.int (3 : Int32))] []
          clear f89 f91 Kp90 Wk92
          refine own_via (fun t k => XS.iinc X95.here hx rfl (hb hby own_d4_75) rfl (l' := #[.val (.ref a1), .val (.ref b6), .val (.int (1 : Int32)), .val (.int (4 : Int32))]) rfl k) ?_
          show own_H T95 78 #[.val (.ref a1), .val (.ref b6), .val (.int (1 : Int32)), .val (.int (4 : Int32))] []
          refine own_via (fun t k => XS.goto X95.here hx rfl (pc0 := 78) (pc' := 31) rfl (hb hby own_d4_78) (by decide) (by decide) k) ?_
          refine own_via (fun t k => XS.iloadN X95.here hx rfl (hb hby own_d4_31) rfl k) ?_
          refine own_via (fun t k => XS.aloadN X95.here hx rfl (hb hby own_d4_32) rfl rfl k) ?_
          show own_H T95 33 #[.val (.ref a1), .val (.ref b6), .val (.int (1 : Int32)), .val (.int (4 : Int32))] [(.ref a1), (.int (4 : Int32))]
          refine own_via (own_len X95 hx hZ e95 f96 (pc := 33) (Ls := #[.val (.ref a1), .val (.ref b6), .val (.int (1 : Int32)), .val (.int (4 : Int32))]) (rest := [(.int (4 : Int32))]) (hb hby own_d4_33)) ?_
          show own_H T95 34 #[.val (.ref a1), .val (.ref b6), .val (.int (1 : Int32)), .val (.int (4 : Int32))] [(.int (4 : Int32)), (.int (4 : Int32))]
          refine own_via (fun t k => XS.icmpYes X95.here hx rfl (pc0 := 34) (pc' := 81) rfl (hb hby own_d4_34) rfl (flt (by decide : ¬ ((4 : Int32) < (4 : Int32)))).2.1 (by decide) (by decide) k) ?_
          show own_H T95 81 #[.val (.ref a1), .val (.ref b6), .val (.int (1 : Int32)), .val (.int (4 : Int32))] []
          refine own_via (fun t k => XS.aloadN X95.here hx rfl (hb hby own_d4_81) rfl rfl k) ?_
          show own_H T95 82 #[.val (.ref a1), .val (.ref b6), .val (.int (1 : Int32)), .val (.int (4 : Int32))] [(.ref b6)]
          have fo101 : Arv Z h95 b6 k6 .int (4 : Int32) [(.int (0 : Int32)), (.int (own_t1 p0 p1)), (.int (own_t2 p0 p1 p2)), (.int (own_t3 p0 p1 p2 p3))] (.int (0 : Int32)) := by simp only [own_t1, own_t2, own_t3, if_pos hc13, if_neg hc20, if_neg hc58, if_pos hc94]; exact f98
          rw [hPw]
          refine own_wide S1 ?_
          exact own_retA X95 hx Bd.returns rfl rfl Bd.notSynchronized (hb hby own_d4_82) (by rw [e95]; exact ⟨⟨N95, b6, k6, rfl, Kp97, sz_b6, fo101⟩, Wk99⟩) (by decide) (by decide)
        ·
          refine own_via (fun t k => XS.icmpYes X88.here hx rfl (pc0 := 65) (pc' := 71) rfl (hb hby own_d4_65) rfl (feq hc94).2 (by decide) (by decide) k) ?_
          show own_H T88 71 #[.val (.ref a1), .val (.ref b6), .val (.int (0 : Int32)), .val (.int (3 : Int32))] []
          refine own_via (fun t k => XS.aloadN X88.here hx rfl (hb hby own_d4_71) rfl rfl k) ?_
          refine own_via (fun t k => XS.iloadN X88.here hx rfl (hb hby own_d4_72) rfl k) ?_
          refine own_via (fun t k => XS.iloadN X88.here hx rfl (hb hby own_d4_73) rfl k) ?_
          show own_H T88 74 #[.val (.ref a1), .val (.ref b6), .val (.int (0 : Int32)), .val (.int (3 : Int32))] [(.int (0 : Int32)), (.int (3 : Int32)), (.ref b6)]
          obtain ⟨T102, h102, L102, X102, N102, e102, W102, V102, st102⟩ := own_stI X88 N88 hx hZ e88 f91 g_b6 (j := (3 : Int32)) (x := (0 : Int32)) (i := 3) ⟨by decide, by decide⟩ rfl (Nat.le_of_ble_eq_true rfl) (pc := 74) (Ls := #[.val (.ref a1), .val (.ref b6), .val (.int (0 : Int32)), .val (.int (3 : Int32))]) (rest := []) (hb hby own_d4_74)
          refine own_via st102 ?_
          have f103 := f89.other W102 ne7
          have Kp104 := Kp90.wr W102 (Or.inr sz_b6)
          have f105 : Arv Z h102 b6 k6 .int (4 : Int32) [(.int (0 : Int32)), (.int (1 : Int32)), (.int (0 : Int32)), (.int (0 : Int32))] (.int (0 : Int32)) := V102
          have Wk106 : kw1 ≤ h102.size := by rw [W102.size]; exact Wk92
          show own_H T102 75 #[.val (.ref a1), .val (.ref b6), .val (.int (0 : Int32)), .val (.int (3 : Int32))] []
          clear f89 f91 Kp90 Wk92
          refine own_via (fun t k => XS.iinc X102.here hx rfl (hb hby own_d4_75) rfl (l' := #[.val (.ref a1), .val (.ref b6), .val (.int (0 : Int32)), .val (.int (4 : Int32))]) rfl k) ?_
          show own_H T102 78 #[.val (.ref a1), .val (.ref b6), .val (.int (0 : Int32)), .val (.int (4 : Int32))] []
          refine own_via (fun t k => XS.goto X102.here hx rfl (pc0 := 78) (pc' := 31) rfl (hb hby own_d4_78) (by decide) (by decide) k) ?_
          refine own_via (fun t k => XS.iloadN X102.here hx rfl (hb hby own_d4_31) rfl k) ?_
          refine own_via (fun t k => XS.aloadN X102.here hx rfl (hb hby own_d4_32) rfl rfl k) ?_
          show own_H T102 33 #[.val (.ref a1), .val (.ref b6), .val (.int (0 : Int32)), .val (.int (4 : Int32))] [(.ref a1), (.int (4 : Int32))]
          refine own_via (own_len X102 hx hZ e102 f103 (pc := 33) (Ls := #[.val (.ref a1), .val (.ref b6), .val (.int (0 : Int32)), .val (.int (4 : Int32))]) (rest := [(.int (4 : Int32))]) (hb hby own_d4_33)) ?_
          show own_H T102 34 #[.val (.ref a1), .val (.ref b6), .val (.int (0 : Int32)), .val (.int (4 : Int32))] [(.int (4 : Int32)), (.int (4 : Int32))]
          refine own_via (fun t k => XS.icmpYes X102.here hx rfl (pc0 := 34) (pc' := 81) rfl (hb hby own_d4_34) rfl (flt (by decide : ¬ ((4 : Int32) < (4 : Int32)))).2.1 (by decide) (by decide) k) ?_
          show own_H T102 81 #[.val (.ref a1), .val (.ref b6), .val (.int (0 : Int32)), .val (.int (4 : Int32))] []
          refine own_via (fun t k => XS.aloadN X102.here hx rfl (hb hby own_d4_81) rfl rfl k) ?_
          show own_H T102 82 #[.val (.ref a1), .val (.ref b6), .val (.int (0 : Int32)), .val (.int (4 : Int32))] [(.ref b6)]
          have fo108 : Arv Z h102 b6 k6 .int (4 : Int32) [(.int (0 : Int32)), (.int (own_t1 p0 p1)), (.int (own_t2 p0 p1 p2)), (.int (own_t3 p0 p1 p2 p3))] (.int (0 : Int32)) := by simp only [own_t1, own_t2, own_t3, if_pos hc13, if_neg hc20, if_neg hc58, if_neg hc94]; exact f105
          rw [hPw]
          refine own_wide S1 ?_
          exact own_retA X102 hx Bd.returns rfl rfl Bd.notSynchronized (hb hby own_d4_82) (by rw [e102]; exact ⟨⟨N102, b6, k6, rfl, Kp104, sz_b6, fo108⟩, Wk106⟩) (by decide) (by decide)
  ·
    refine own_via (fun t k => XS.icmpYes X6.here hx rfl (pc0 := 65) (pc' := 71) rfl (hb hby own_d4_65) rfl (feq hc13).2 (by decide) (by decide) k) ?_
    show own_H T6 71 #[.val (.ref a1), .val (.ref b6), .val (.int (0 : Int32)), .val (.int (1 : Int32))] []
    refine own_via (fun t k => XS.aloadN X6.here hx rfl (hb hby own_d4_71) rfl rfl k) ?_
    refine own_via (fun t k => XS.iloadN X6.here hx rfl (hb hby own_d4_72) rfl k) ?_
    refine own_via (fun t k => XS.iloadN X6.here hx rfl (hb hby own_d4_73) rfl k) ?_
    show own_H T6 74 #[.val (.ref a1), .val (.ref b6), .val (.int (0 : Int32)), .val (.int (1 : Int32))] [(.int (0 : Int32)), (.int (1 : Int32)), (.ref b6)]
    obtain ⟨T109, h109, L109, X109, N109, e109, W109, V109, st109⟩ := own_stI X6 N0 hx hZ e6 f10 g_b6 (j := (1 : Int32)) (x := (0 : Int32)) (i := 1) ⟨by decide, by decide⟩ rfl (Nat.le_of_ble_eq_true rfl) (pc := 74) (Ls := #[.val (.ref a1), .val (.ref b6), .val (.int (0 : Int32)), .val (.int (1 : Int32))]) (rest := []) (hb hby own_d4_74)
    refine own_via st109 ?_
    have f110 := f8.other W109 ne7
    have Kp111 := Kp9.wr W109 (Or.inr sz_b6)
    have f112 : Arv Z h109 b6 k6 .int (4 : Int32) [(.int (0 : Int32)), (.int (0 : Int32)), (.int (0 : Int32)), (.int (0 : Int32))] (.int (0 : Int32)) := V109
    have Wk113 : kw1 ≤ h109.size := by rw [W109.size]; exact Wk11
    show own_H T109 75 #[.val (.ref a1), .val (.ref b6), .val (.int (0 : Int32)), .val (.int (1 : Int32))] []
    clear f8 f10 Kp9 Wk11
    refine own_via (fun t k => XS.iinc X109.here hx rfl (hb hby own_d4_75) rfl (l' := #[.val (.ref a1), .val (.ref b6), .val (.int (0 : Int32)), .val (.int (2 : Int32))]) rfl k) ?_
    show own_H T109 78 #[.val (.ref a1), .val (.ref b6), .val (.int (0 : Int32)), .val (.int (2 : Int32))] []
    refine own_via (fun t k => XS.goto X109.here hx rfl (pc0 := 78) (pc' := 31) rfl (hb hby own_d4_78) (by decide) (by decide) k) ?_
    refine own_via (fun t k => XS.iloadN X109.here hx rfl (hb hby own_d4_31) rfl k) ?_
    refine own_via (fun t k => XS.aloadN X109.here hx rfl (hb hby own_d4_32) rfl rfl k) ?_
    show own_H T109 33 #[.val (.ref a1), .val (.ref b6), .val (.int (0 : Int32)), .val (.int (2 : Int32))] [(.ref a1), (.int (2 : Int32))]
    refine own_via (own_len X109 hx hZ e109 f110 (pc := 33) (Ls := #[.val (.ref a1), .val (.ref b6), .val (.int (0 : Int32)), .val (.int (2 : Int32))]) (rest := [(.int (2 : Int32))]) (hb hby own_d4_33)) ?_
    show own_H T109 34 #[.val (.ref a1), .val (.ref b6), .val (.int (0 : Int32)), .val (.int (2 : Int32))] [(.int (4 : Int32)), (.int (2 : Int32))]
    refine own_via (fun t k => XS.icmpNo X109.here hx rfl (hb hby own_d4_34) rfl (tlt (by decide : (2 : Int32) < (4 : Int32))).2.1 k) ?_
    show own_H T109 37 #[.val (.ref a1), .val (.ref b6), .val (.int (0 : Int32)), .val (.int (2 : Int32))] []
    refine own_via (fun t k => XS.iloadN X109.here hx rfl (hb hby own_d4_37) rfl k) ?_
    show own_H T109 38 #[.val (.ref a1), .val (.ref b6), .val (.int (0 : Int32)), .val (.int (2 : Int32))] [(.int (0 : Int32))]
    refine own_via (fun t k => XS.ifYes X109.here hx rfl (pc0 := 38) (pc' := 59) rfl (hb hby own_d4_38) rfl ((if0 _ _).trans (flt (by decide : ¬ ((0 : Int32) < (0 : Int32)))).2.2.2) (by decide) (by decide) k) ?_
    show own_H T109 59 #[.val (.ref a1), .val (.ref b6), .val (.int (0 : Int32)), .val (.int (2 : Int32))] []
    refine own_via (fun t k => XS.aloadN X109.here hx rfl (hb hby own_d4_59) rfl rfl k) ?_
    refine own_via (fun t k => XS.iloadN X109.here hx rfl (hb hby own_d4_60) rfl k) ?_
    show own_H T109 61 #[.val (.ref a1), .val (.ref b6), .val (.int (0 : Int32)), .val (.int (2 : Int32))] [(.int (2 : Int32)), (.ref a1)]
    refine own_via (own_ldI X109 hx hZ e109 f110 (j := (2 : Int32)) ⟨by decide, by decide⟩ (v := (.int p2)) rfl (pc := 61) (Ls := #[.val (.ref a1), .val (.ref b6), .val (.int (0 : Int32)), .val (.int (2 : Int32))]) (rest := []) (hb hby own_d4_61)) ?_
    show own_H T109 62 #[.val (.ref a1), .val (.ref b6), .val (.int (0 : Int32)), .val (.int (2 : Int32))] [(.int p2)]
    refine own_via (fun t k => XS.aloadN X109.here hx rfl (hb hby own_d4_62) rfl rfl k) ?_
    refine own_via (fun t k => XS.iloadN X109.here hx rfl (hb hby own_d4_63) rfl k) ?_
    show own_H T109 64 #[.val (.ref a1), .val (.ref b6), .val (.int (0 : Int32)), .val (.int (2 : Int32))] [(.int (0 : Int32)), (.ref a1), (.int p2)]
    refine own_via (own_ldI X109 hx hZ e109 f110 (j := (0 : Int32)) ⟨by decide, by decide⟩ (v := (.int p0)) rfl (pc := 64) (Ls := #[.val (.ref a1), .val (.ref b6), .val (.int (0 : Int32)), .val (.int (2 : Int32))]) (rest := [(.int p2)]) (hb hby own_d4_64)) ?_
    show own_H T109 65 #[.val (.ref a1), .val (.ref b6), .val (.int (0 : Int32)), .val (.int (2 : Int32))] [(.int p0), (.int p2)]
    by_cases hc115 : p2 = p0
    ·
      refine own_via (fun t k => XS.icmpNo X109.here hx rfl (hb hby own_d4_65) rfl (teq hc115).2 k) ?_
      show own_H T109 68 #[.val (.ref a1), .val (.ref b6), .val (.int (0 : Int32)), .val (.int (2 : Int32))] []
      refine own_via (fun t k => XS.iinc X109.here hx rfl (hb hby own_d4_68) rfl (l' := #[.val (.ref a1), .val (.ref b6), .val (.int (1 : Int32)), .val (.int (2 : Int32))]) rfl k) ?_
      refine own_via (fun t k => XS.aloadN X109.here hx rfl (hb hby own_d4_71) rfl rfl k) ?_
      refine own_via (fun t k => XS.iloadN X109.here hx rfl (hb hby own_d4_72) rfl k) ?_
      refine own_via (fun t k => XS.iloadN X109.here hx rfl (hb hby own_d4_73) rfl k) ?_
      show own_H T109 74 #[.val (.ref a1), .val (.ref b6), .val (.int (1 : Int32)), .val (.int (2 : Int32))] [(.int (1 : Int32)), (.int (2 : Int32)), (.ref b6)]
      obtain ⟨T116, h116, L116, X116, N116, e116, W116, V116, st116⟩ := own_stI X109 N109 hx hZ e109 f112 g_b6 (j := (2 : Int32)) (x := (1 : Int32)) (i := 2) ⟨by decide, by decide⟩ rfl (Nat.le_of_ble_eq_true rfl) (pc := 74) (Ls := #[.val (.ref a1), .val (.ref b6), .val (.int (1 : Int32)), .val (.int (2 : Int32))]) (rest := []) (hb hby own_d4_74)
      refine own_via st116 ?_
      have f117 := f110.other W116 ne7
      have Kp118 := Kp111.wr W116 (Or.inr sz_b6)
      have f119 : Arv Z h116 b6 k6 .int (4 : Int32) [(.int (0 : Int32)), (.int (0 : Int32)), (.int (1 : Int32)), (.int (0 : Int32))] (.int (0 : Int32)) := V116
      have Wk120 : kw1 ≤ h116.size := by rw [W116.size]; exact Wk113
      show own_H T116 75 #[.val (.ref a1), .val (.ref b6), .val (.int (1 : Int32)), .val (.int (2 : Int32))] []
      clear f110 f112 Kp111 Wk113
      refine own_via (fun t k => XS.iinc X116.here hx rfl (hb hby own_d4_75) rfl (l' := #[.val (.ref a1), .val (.ref b6), .val (.int (1 : Int32)), .val (.int (3 : Int32))]) rfl k) ?_
      show own_H T116 78 #[.val (.ref a1), .val (.ref b6), .val (.int (1 : Int32)), .val (.int (3 : Int32))] []
      refine own_via (fun t k => XS.goto X116.here hx rfl (pc0 := 78) (pc' := 31) rfl (hb hby own_d4_78) (by decide) (by decide) k) ?_
      refine own_via (fun t k => XS.iloadN X116.here hx rfl (hb hby own_d4_31) rfl k) ?_
      refine own_via (fun t k => XS.aloadN X116.here hx rfl (hb hby own_d4_32) rfl rfl k) ?_
      show own_H T116 33 #[.val (.ref a1), .val (.ref b6), .val (.int (1 : Int32)), .val (.int (3 : Int32))] [(.ref a1), (.int (3 : Int32))]
      refine own_via (own_len X116 hx hZ e116 f117 (pc := 33) (Ls := #[.val (.ref a1), .val (.ref b6), .val (.int (1 : Int32)), .val (.int (3 : Int32))]) (rest := [(.int (3 : Int32))]) (hb hby own_d4_33)) ?_
      show own_H T116 34 #[.val (.ref a1), .val (.ref b6), .val (.int (1 : Int32)), .val (.int (3 : Int32))] [(.int (4 : Int32)), (.int (3 : Int32))]
      refine own_via (fun t k => XS.icmpNo X116.here hx rfl (hb hby own_d4_34) rfl (tlt (by decide : (3 : Int32) < (4 : Int32))).2.1 k) ?_
      show own_H T116 37 #[.val (.ref a1), .val (.ref b6), .val (.int (1 : Int32)), .val (.int (3 : Int32))] []
      refine own_via (fun t k => XS.iloadN X116.here hx rfl (hb hby own_d4_37) rfl k) ?_
      show own_H T116 38 #[.val (.ref a1), .val (.ref b6), .val (.int (1 : Int32)), .val (.int (3 : Int32))] [(.int (1 : Int32))]
      refine own_via (fun t k => XS.ifNo X116.here hx rfl (hb hby own_d4_38) rfl ((if0 _ _).trans (tlt (by decide : (0 : Int32) < (1 : Int32))).2.2.2) k) ?_
      show own_H T116 41 #[.val (.ref a1), .val (.ref b6), .val (.int (1 : Int32)), .val (.int (3 : Int32))] []
      refine own_via (fun t k => XS.aloadN X116.here hx rfl (hb hby own_d4_41) rfl rfl k) ?_
      refine own_via (fun t k => XS.iloadN X116.here hx rfl (hb hby own_d4_42) rfl k) ?_
      show own_H T116 43 #[.val (.ref a1), .val (.ref b6), .val (.int (1 : Int32)), .val (.int (3 : Int32))] [(.int (3 : Int32)), (.ref a1)]
      refine own_via (own_ldI X116 hx hZ e116 f117 (j := (3 : Int32)) ⟨by decide, by decide⟩ (v := (.int p3)) rfl (pc := 43) (Ls := #[.val (.ref a1), .val (.ref b6), .val (.int (1 : Int32)), .val (.int (3 : Int32))]) (rest := []) (hb hby own_d4_43)) ?_
      show own_H T116 44 #[.val (.ref a1), .val (.ref b6), .val (.int (1 : Int32)), .val (.int (3 : Int32))] [(.int p3)]
      refine own_via (fun t k => XS.aloadN X116.here hx rfl (hb hby own_d4_44) rfl rfl k) ?_
      refine own_via (fun t k => XS.iloadN X116.here hx rfl (hb hby own_d4_45) rfl k) ?_
      show own_H T116 46 #[.val (.ref a1), .val (.ref b6), .val (.int (1 : Int32)), .val (.int (3 : Int32))] [(.int (1 : Int32)), (.ref a1), (.int p3)]
      refine own_via (own_ldI X116 hx hZ e116 f117 (j := (1 : Int32)) ⟨by decide, by decide⟩ (v := (.int p1)) rfl (pc := 46) (Ls := #[.val (.ref a1), .val (.ref b6), .val (.int (1 : Int32)), .val (.int (3 : Int32))]) (rest := [(.int p3)]) (hb hby own_d4_46)) ?_
      show own_H T116 47 #[.val (.ref a1), .val (.ref b6), .val (.int (1 : Int32)), .val (.int (3 : Int32))] [(.int p1), (.int p3)]
      by_cases hc122 : p3 = p1
      ·
        refine own_via (fun t k => XS.icmpYes X116.here hx rfl (pc0 := 47) (pc' := 59) rfl (hb hby own_d4_47) rfl (teq hc122).1 (by decide) (by decide) k) ?_
        show own_H T116 59 #[.val (.ref a1), .val (.ref b6), .val (.int (1 : Int32)), .val (.int (3 : Int32))] []
        refine own_via (fun t k => XS.aloadN X116.here hx rfl (hb hby own_d4_59) rfl rfl k) ?_
        refine own_via (fun t k => XS.iloadN X116.here hx rfl (hb hby own_d4_60) rfl k) ?_
        show own_H T116 61 #[.val (.ref a1), .val (.ref b6), .val (.int (1 : Int32)), .val (.int (3 : Int32))] [(.int (3 : Int32)), (.ref a1)]
        refine own_via (own_ldI X116 hx hZ e116 f117 (j := (3 : Int32)) ⟨by decide, by decide⟩ (v := (.int p3)) rfl (pc := 61) (Ls := #[.val (.ref a1), .val (.ref b6), .val (.int (1 : Int32)), .val (.int (3 : Int32))]) (rest := []) (hb hby own_d4_61)) ?_
        show own_H T116 62 #[.val (.ref a1), .val (.ref b6), .val (.int (1 : Int32)), .val (.int (3 : Int32))] [(.int p3)]
        refine own_via (fun t k => XS.aloadN X116.here hx rfl (hb hby own_d4_62) rfl rfl k) ?_
        refine own_via (fun t k => XS.iloadN X116.here hx rfl (hb hby own_d4_63) rfl k) ?_
        show own_H T116 64 #[.val (.ref a1), .val (.ref b6), .val (.int (1 : Int32)), .val (.int (3 : Int32))] [(.int (1 : Int32)), (.ref a1), (.int p3)]
        refine own_via (own_ldI X116 hx hZ e116 f117 (j := (1 : Int32)) ⟨by decide, by decide⟩ (v := (.int p1)) rfl (pc := 64) (Ls := #[.val (.ref a1), .val (.ref b6), .val (.int (1 : Int32)), .val (.int (3 : Int32))]) (rest := [(.int p3)]) (hb hby own_d4_64)) ?_
        show own_H T116 65 #[.val (.ref a1), .val (.ref b6), .val (.int (1 : Int32)), .val (.int (3 : Int32))] [(.int p1), (.int p3)]
        refine own_via (fun t k => XS.icmpNo X116.here hx rfl (hb hby own_d4_65) rfl (teq hc122).2 k) ?_
        show own_H T116 68 #[.val (.ref a1), .val (.ref b6), .val (.int (1 : Int32)), .val (.int (3 : Int32))] []
        refine own_via (fun t k => XS.iinc X116.here hx rfl (hb hby own_d4_68) rfl (l' := #[.val (.ref a1), .val (.ref b6), .val (.int (2 : Int32)), .val (.int (3 : Int32))]) rfl k) ?_
        refine own_via (fun t k => XS.aloadN X116.here hx rfl (hb hby own_d4_71) rfl rfl k) ?_
        refine own_via (fun t k => XS.iloadN X116.here hx rfl (hb hby own_d4_72) rfl k) ?_
        refine own_via (fun t k => XS.iloadN X116.here hx rfl (hb hby own_d4_73) rfl k) ?_
        show own_H T116 74 #[.val (.ref a1), .val (.ref b6), .val (.int (2 : Int32)), .val (.int (3 : Int32))] [(.int (2 : Int32)), (.int (3 : Int32)), (.ref b6)]
        obtain ⟨T123, h123, L123, X123, N123, e123, W123, V123, st123⟩ := own_stI X116 N116 hx hZ e116 f119 g_b6 (j := (3 : Int32)) (x := (2 : Int32)) (i := 3) ⟨by decide, by decide⟩ rfl (Nat.le_of_ble_eq_true rfl) (pc := 74) (Ls := #[.val (.ref a1), .val (.ref b6), .val (.int (2 : Int32)), .val (.int (3 : Int32))]) (rest := []) (hb hby own_d4_74)
        refine own_via st123 ?_
        have f124 := f117.other W123 ne7
        have Kp125 := Kp118.wr W123 (Or.inr sz_b6)
        have f126 : Arv Z h123 b6 k6 .int (4 : Int32) [(.int (0 : Int32)), (.int (0 : Int32)), (.int (1 : Int32)), (.int (2 : Int32))] (.int (0 : Int32)) := V123
        have Wk127 : kw1 ≤ h123.size := by rw [W123.size]; exact Wk120
        show own_H T123 75 #[.val (.ref a1), .val (.ref b6), .val (.int (2 : Int32)), .val (.int (3 : Int32))] []
        clear f117 f119 Kp118 Wk120
        refine own_via (fun t k => XS.iinc X123.here hx rfl (hb hby own_d4_75) rfl (l' := #[.val (.ref a1), .val (.ref b6), .val (.int (2 : Int32)), .val (.int (4 : Int32))]) rfl k) ?_
        show own_H T123 78 #[.val (.ref a1), .val (.ref b6), .val (.int (2 : Int32)), .val (.int (4 : Int32))] []
        refine own_via (fun t k => XS.goto X123.here hx rfl (pc0 := 78) (pc' := 31) rfl (hb hby own_d4_78) (by decide) (by decide) k) ?_
        refine own_via (fun t k => XS.iloadN X123.here hx rfl (hb hby own_d4_31) rfl k) ?_
        refine own_via (fun t k => XS.aloadN X123.here hx rfl (hb hby own_d4_32) rfl rfl k) ?_
        show own_H T123 33 #[.val (.ref a1), .val (.ref b6), .val (.int (2 : Int32)), .val (.int (4 : Int32))] [(.ref a1), (.int (4 : Int32))]
        refine own_via (own_len X123 hx hZ e123 f124 (pc := 33) (Ls := #[.val (.ref a1), .val (.ref b6), .val (.int (2 : Int32)), .val (.int (4 : Int32))]) (rest := [(.int (4 : Int32))]) (hb hby own_d4_33)) ?_
        show own_H T123 34 #[.val (.ref a1), .val (.ref b6), .val (.int (2 : Int32)), .val (.int (4 : Int32))] [(.int (4 : Int32)), (.int (4 : Int32))]
        refine own_via (fun t k => XS.icmpYes X123.here hx rfl (pc0 := 34) (pc' := 81) rfl (hb hby own_d4_34) rfl (flt (by decide : ¬ ((4 : Int32) < (4 : Int32)))).2.1 (by decide) (by decide) k) ?_
        show own_H T123 81 #[.val (.ref a1), .val (.ref b6), .val (.int (2 : Int32)), .val (.int (4 : Int32))] []
        refine own_via (fun t k => XS.aloadN X123.here hx rfl (hb hby own_d4_81) rfl rfl k) ?_
        show own_H T123 82 #[.val (.ref a1), .val (.ref b6), .val (.int (2 : Int32)), .val (.int (4 : Int32))] [(.ref b6)]
        have fo129 : Arv Z h123 b6 k6 .int (4 : Int32) [(.int (0 : Int32)), (.int (own_t1 p0 p1)), (.int (own_t2 p0 p1 p2)), (.int (own_t3 p0 p1 p2 p3))] (.int (0 : Int32)) := by simp only [own_t1, own_t2, own_t3, if_neg hc13, if_pos hc115, if_pos hc122]; exact f126
        rw [hPw]
        refine own_wide S1 ?_
        exact own_retA X123 hx Bd.returns rfl rfl Bd.notSynchronized (hb hby own_d4_82) (by rw [e123]; exact ⟨⟨N123, b6, k6, rfl, Kp125, sz_b6, fo129⟩, Wk127⟩) (by decide) (by decide)
      ·
        refine own_via (fun t k => XS.icmpNo X116.here hx rfl (hb hby own_d4_47) rfl (feq hc122).1 k) ?_
        show own_H T116 50 #[.val (.ref a1), .val (.ref b6), .val (.int (1 : Int32)), .val (.int (3 : Int32))] []
        refine own_via (fun t k => XS.aloadN X116.here hx rfl (hb hby own_d4_50) rfl rfl k) ?_
        refine own_via (fun t k => XS.iloadN X116.here hx rfl (hb hby own_d4_51) rfl k) ?_
        refine own_via (fun t k => XS.iconst X116.here hx rfl (hb hby own_d4_52) k) ?_
        show own_H T116 53 #[.val (.ref a1), .val (.ref b6), .val (.int (1 : Int32)), .val (.int (3 : Int32))] [(.int (1 : Int32)), (.int (1 : Int32)), (.ref b6)]
        refine own_via (fun t k => XS.isub X116.here hx rfl (hb hby own_d4_53) rfl k) ?_
        show own_H T116 54 #[.val (.ref a1), .val (.ref b6), .val (.int (1 : Int32)), .val (.int (3 : Int32))] [(.int (0 : Int32)), (.ref b6)]
        refine own_via (own_ldI X116 hx hZ e116 f119 (j := (0 : Int32)) ⟨by decide, by decide⟩ (v := (.int (0 : Int32))) rfl (pc := 54) (Ls := #[.val (.ref a1), .val (.ref b6), .val (.int (1 : Int32)), .val (.int (3 : Int32))]) (rest := []) (hb hby own_d4_54)) ?_
        show own_H T116 55 #[.val (.ref a1), .val (.ref b6), .val (.int (1 : Int32)), .val (.int (3 : Int32))] [(.int (0 : Int32))]
        refine own_via (fun t k => XS.istoreN X116.here hx rfl (hb hby own_d4_55) rfl (l' := #[.val (.ref a1), .val (.ref b6), .val (.int (0 : Int32)), .val (.int (3 : Int32))]) rfl k) ?_
        show own_H T116 56 #[.val (.ref a1), .val (.ref b6), .val (.int (0 : Int32)), .val (.int (3 : Int32))] []
        refine own_via (fun t k => XS.goto X116.here hx rfl (pc0 := 56) (pc' := 37) rfl (hb hby own_d4_56) (by decide) (by decide) k) ?_
        refine own_via (fun t k => XS.iloadN X116.here hx rfl (hb hby own_d4_37) rfl k) ?_
        show own_H T116 38 #[.val (.ref a1), .val (.ref b6), .val (.int (0 : Int32)), .val (.int (3 : Int32))] [(.int (0 : Int32))]
        refine own_via (fun t k => XS.ifYes X116.here hx rfl (pc0 := 38) (pc' := 59) rfl (hb hby own_d4_38) rfl ((if0 _ _).trans (flt (by decide : ¬ ((0 : Int32) < (0 : Int32)))).2.2.2) (by decide) (by decide) k) ?_
        show own_H T116 59 #[.val (.ref a1), .val (.ref b6), .val (.int (0 : Int32)), .val (.int (3 : Int32))] []
        refine own_via (fun t k => XS.aloadN X116.here hx rfl (hb hby own_d4_59) rfl rfl k) ?_
        refine own_via (fun t k => XS.iloadN X116.here hx rfl (hb hby own_d4_60) rfl k) ?_
        show own_H T116 61 #[.val (.ref a1), .val (.ref b6), .val (.int (0 : Int32)), .val (.int (3 : Int32))] [(.int (3 : Int32)), (.ref a1)]
        refine own_via (own_ldI X116 hx hZ e116 f117 (j := (3 : Int32)) ⟨by decide, by decide⟩ (v := (.int p3)) rfl (pc := 61) (Ls := #[.val (.ref a1), .val (.ref b6), .val (.int (0 : Int32)), .val (.int (3 : Int32))]) (rest := []) (hb hby own_d4_61)) ?_
        show own_H T116 62 #[.val (.ref a1), .val (.ref b6), .val (.int (0 : Int32)), .val (.int (3 : Int32))] [(.int p3)]
        refine own_via (fun t k => XS.aloadN X116.here hx rfl (hb hby own_d4_62) rfl rfl k) ?_
        refine own_via (fun t k => XS.iloadN X116.here hx rfl (hb hby own_d4_63) rfl k) ?_
        show own_H T116 64 #[.val (.ref a1), .val (.ref b6), .val (.int (0 : Int32)), .val (.int (3 : Int32))] [(.int (0 : Int32)), (.ref a1), (.int p3)]
        refine own_via (own_ldI X116 hx hZ e116 f117 (j := (0 : Int32)) ⟨by decide, by decide⟩ (v := (.int p0)) rfl (pc := 64) (Ls := #[.val (.ref a1), .val (.ref b6), .val (.int (0 : Int32)), .val (.int (3 : Int32))]) (rest := [(.int p3)]) (hb hby own_d4_64)) ?_
        show own_H T116 65 #[.val (.ref a1), .val (.ref b6), .val (.int (0 : Int32)), .val (.int (3 : Int32))] [(.int p0), (.int p3)]
        by_cases hc130 : p3 = p0
        ·
          refine own_via (fun t k => XS.icmpNo X116.here hx rfl (hb hby own_d4_65) rfl (teq hc130).2 k) ?_
          show own_H T116 68 #[.val (.ref a1), .val (.ref b6), .val (.int (0 : Int32)), .val (.int (3 : Int32))] []
          refine own_via (fun t k => XS.iinc X116.here hx rfl (hb hby own_d4_68) rfl (l' := #[.val (.ref a1), .val (.ref b6), .val (.int (1 : Int32)), .val (.int (3 : Int32))]) rfl k) ?_
          refine own_via (fun t k => XS.aloadN X116.here hx rfl (hb hby own_d4_71) rfl rfl k) ?_
          refine own_via (fun t k => XS.iloadN X116.here hx rfl (hb hby own_d4_72) rfl k) ?_
          refine own_via (fun t k => XS.iloadN X116.here hx rfl (hb hby own_d4_73) rfl k) ?_
          show own_H T116 74 #[.val (.ref a1), .val (.ref b6), .val (.int (1 : Int32)), .val (.int (3 : Int32))] [(.int (1 : Int32)), (.int (3 : Int32)), (.ref b6)]
          obtain ⟨T131, h131, L131, X131, N131, e131, W131, V131, st131⟩ := own_stI X116 N116 hx hZ e116 f119 g_b6 (j := (3 : Int32)) (x := (1 : Int32)) (i := 3) ⟨by decide, by decide⟩ rfl (Nat.le_of_ble_eq_true rfl) (pc := 74) (Ls := #[.val (.ref a1), .val (.ref b6), .val (.int (1 : Int32)), .val (.int (3 : Int32))]) (rest := []) (hb hby own_d4_74)
          refine own_via st131 ?_
          have f132 := f117.other W131 ne7
          have Kp133 := Kp118.wr W131 (Or.inr sz_b6)
          have f134 : Arv Z h131 b6 k6 .int (4 : Int32) [(.int (0 : Int32)), (.int (0 : Int32)), (.int (1 : Int32)), (.int (1 : Int32))] (.int (0 : Int32)) := V131
          have Wk135 : kw1 ≤ h131.size := by rw [W131.size]; exact Wk120
          show own_H T131 75 #[.val (.ref a1), .val (.ref b6), .val (.int (1 : Int32)), .val (.int (3 : Int32))] []
          clear f117 f119 Kp118 Wk120
          refine own_via (fun t k => XS.iinc X131.here hx rfl (hb hby own_d4_75) rfl (l' := #[.val (.ref a1), .val (.ref b6), .val (.int (1 : Int32)), .val (.int (4 : Int32))]) rfl k) ?_
          show own_H T131 78 #[.val (.ref a1), .val (.ref b6), .val (.int (1 : Int32)), .val (.int (4 : Int32))] []
          refine own_via (fun t k => XS.goto X131.here hx rfl (pc0 := 78) (pc' := 31) rfl (hb hby own_d4_78) (by decide) (by decide) k) ?_
          refine own_via (fun t k => XS.iloadN X131.here hx rfl (hb hby own_d4_31) rfl k) ?_
          refine own_via (fun t k => XS.aloadN X131.here hx rfl (hb hby own_d4_32) rfl rfl k) ?_
          show own_H T131 33 #[.val (.ref a1), .val (.ref b6), .val (.int (1 : Int32)), .val (.int (4 : Int32))] [(.ref a1), (.int (4 : Int32))]
          refine own_via (own_len X131 hx hZ e131 f132 (pc := 33) (Ls := #[.val (.ref a1), .val (.ref b6), .val (.int (1 : Int32)), .val (.int (4 : Int32))]) (rest := [(.int (4 : Int32))]) (hb hby own_d4_33)) ?_
          show own_H T131 34 #[.val (.ref a1), .val (.ref b6), .val (.int (1 : Int32)), .val (.int (4 : Int32))] [(.int (4 : Int32)), (.int (4 : Int32))]
          refine own_via (fun t k => XS.icmpYes X131.here hx rfl (pc0 := 34) (pc' := 81) rfl (hb hby own_d4_34) rfl (flt (by decide : ¬ ((4 : Int32) < (4 : Int32)))).2.1 (by decide) (by decide) k) ?_
          show own_H T131 81 #[.val (.ref a1), .val (.ref b6), .val (.int (1 : Int32)), .val (.int (4 : Int32))] []
          refine own_via (fun t k => XS.aloadN X131.here hx rfl (hb hby own_d4_81) rfl rfl k) ?_
          show own_H T131 82 #[.val (.ref a1), .val (.ref b6), .val (.int (1 : Int32)), .val (.int (4 : Int32))] [(.ref b6)]
          have fo137 : Arv Z h131 b6 k6 .int (4 : Int32) [(.int (0 : Int32)), (.int (own_t1 p0 p1)), (.int (own_t2 p0 p1 p2)), (.int (own_t3 p0 p1 p2 p3))] (.int (0 : Int32)) := by simp only [own_t1, own_t2, own_t3, if_neg hc13, if_pos hc115, if_neg hc122, if_pos hc130]; exact f134
          rw [hPw]
          refine own_wide S1 ?_
          exact own_retA X131 hx Bd.returns rfl rfl Bd.notSynchronized (hb hby own_d4_82) (by rw [e131]; exact ⟨⟨N131, b6, k6, rfl, Kp133, sz_b6, fo137⟩, Wk135⟩) (by decide) (by decide)
        ·
          refine own_via (fun t k => XS.icmpYes X116.here hx rfl (pc0 := 65) (pc' := 71) rfl (hb hby own_d4_65) rfl (feq hc130).2 (by decide) (by decide) k) ?_
          show own_H T116 71 #[.val (.ref a1), .val (.ref b6), .val (.int (0 : Int32)), .val (.int (3 : Int32))] []
          refine own_via (fun t k => XS.aloadN X116.here hx rfl (hb hby own_d4_71) rfl rfl k) ?_
          refine own_via (fun t k => XS.iloadN X116.here hx rfl (hb hby own_d4_72) rfl k) ?_
          refine own_via (fun t k => XS.iloadN X116.here hx rfl (hb hby own_d4_73) rfl k) ?_
          show own_H T116 74 #[.val (.ref a1), .val (.ref b6), .val (.int (0 : Int32)), .val (.int (3 : Int32))] [(.int (0 : Int32)), (.int (3 : Int32)), (.ref b6)]
          obtain ⟨T138, h138, L138, X138, N138, e138, W138, V138, st138⟩ := own_stI X116 N116 hx hZ e116 f119 g_b6 (j := (3 : Int32)) (x := (0 : Int32)) (i := 3) ⟨by decide, by decide⟩ rfl (Nat.le_of_ble_eq_true rfl) (pc := 74) (Ls := #[.val (.ref a1), .val (.ref b6), .val (.int (0 : Int32)), .val (.int (3 : Int32))]) (rest := []) (hb hby own_d4_74)
          refine own_via st138 ?_
          have f139 := f117.other W138 ne7
          have Kp140 := Kp118.wr W138 (Or.inr sz_b6)
          have f141 : Arv Z h138 b6 k6 .int (4 : Int32) [(.int (0 : Int32)), (.int (0 : Int32)), (.int (1 : Int32)), (.int (0 : Int32))] (.int (0 : Int32)) := V138
          have Wk142 : kw1 ≤ h138.size := by rw [W138.size]; exact Wk120
          show own_H T138 75 #[.val (.ref a1), .val (.ref b6), .val (.int (0 : Int32)), .val (.int (3 : Int32))] []
          clear f117 f119 Kp118 Wk120
          refine own_via (fun t k => XS.iinc X138.here hx rfl (hb hby own_d4_75) rfl (l' := #[.val (.ref a1), .val (.ref b6), .val (.int (0 : Int32)), .val (.int (4 : Int32))]) rfl k) ?_
          show own_H T138 78 #[.val (.ref a1), .val (.ref b6), .val (.int (0 : Int32)), .val (.int (4 : Int32))] []
          refine own_via (fun t k => XS.goto X138.here hx rfl (pc0 := 78) (pc' := 31) rfl (hb hby own_d4_78) (by decide) (by decide) k) ?_
          refine own_via (fun t k => XS.iloadN X138.here hx rfl (hb hby own_d4_31) rfl k) ?_
          refine own_via (fun t k => XS.aloadN X138.here hx rfl (hb hby own_d4_32) rfl rfl k) ?_
          show own_H T138 33 #[.val (.ref a1), .val (.ref b6), .val (.int (0 : Int32)), .val (.int (4 : Int32))] [(.ref a1), (.int (4 : Int32))]
          refine own_via (own_len X138 hx hZ e138 f139 (pc := 33) (Ls := #[.val (.ref a1), .val (.ref b6), .val (.int (0 : Int32)), .val (.int (4 : Int32))]) (rest := [(.int (4 : Int32))]) (hb hby own_d4_33)) ?_
          show own_H T138 34 #[.val (.ref a1), .val (.ref b6), .val (.int (0 : Int32)), .val (.int (4 : Int32))] [(.int (4 : Int32)), (.int (4 : Int32))]
          refine own_via (fun t k => XS.icmpYes X138.here hx rfl (pc0 := 34) (pc' := 81) rfl (hb hby own_d4_34) rfl (flt (by decide : ¬ ((4 : Int32) < (4 : Int32)))).2.1 (by decide) (by decide) k) ?_
          show own_H T138 81 #[.val (.ref a1), .val (.ref b6), .val (.int (0 : Int32)), .val (.int (4 : Int32))] []
          refine own_via (fun t k => XS.aloadN X138.here hx rfl (hb hby own_d4_81) rfl rfl k) ?_
          show own_H T138 82 #[.val (.ref a1), .val (.ref b6), .val (.int (0 : Int32)), .val (.int (4 : Int32))] [(.ref b6)]
          have fo144 : Arv Z h138 b6 k6 .int (4 : Int32) [(.int (0 : Int32)), (.int (own_t1 p0 p1)), (.int (own_t2 p0 p1 p2)), (.int (own_t3 p0 p1 p2 p3))] (.int (0 : Int32)) := by simp only [own_t1, own_t2, own_t3, if_neg hc13, if_pos hc115, if_neg hc122, if_neg hc130]; exact f141
          rw [hPw]
          refine own_wide S1 ?_
          exact own_retA X138 hx Bd.returns rfl rfl Bd.notSynchronized (hb hby own_d4_82) (by rw [e138]; exact ⟨⟨N138, b6, k6, rfl, Kp140, sz_b6, fo144⟩, Wk142⟩) (by decide) (by decide)
    ·
      refine own_via (fun t k => XS.icmpYes X109.here hx rfl (pc0 := 65) (pc' := 71) rfl (hb hby own_d4_65) rfl (feq hc115).2 (by decide) (by decide) k) ?_
      show own_H T109 71 #[.val (.ref a1), .val (.ref b6), .val (.int (0 : Int32)), .val (.int (2 : Int32))] []
      refine own_via (fun t k => XS.aloadN X109.here hx rfl (hb hby own_d4_71) rfl rfl k) ?_
      refine own_via (fun t k => XS.iloadN X109.here hx rfl (hb hby own_d4_72) rfl k) ?_
      refine own_via (fun t k => XS.iloadN X109.here hx rfl (hb hby own_d4_73) rfl k) ?_
      show own_H T109 74 #[.val (.ref a1), .val (.ref b6), .val (.int (0 : Int32)), .val (.int (2 : Int32))] [(.int (0 : Int32)), (.int (2 : Int32)), (.ref b6)]
      obtain ⟨T145, h145, L145, X145, N145, e145, W145, V145, st145⟩ := own_stI X109 N109 hx hZ e109 f112 g_b6 (j := (2 : Int32)) (x := (0 : Int32)) (i := 2) ⟨by decide, by decide⟩ rfl (Nat.le_of_ble_eq_true rfl) (pc := 74) (Ls := #[.val (.ref a1), .val (.ref b6), .val (.int (0 : Int32)), .val (.int (2 : Int32))]) (rest := []) (hb hby own_d4_74)
      refine own_via st145 ?_
      have f146 := f110.other W145 ne7
      have Kp147 := Kp111.wr W145 (Or.inr sz_b6)
      have f148 : Arv Z h145 b6 k6 .int (4 : Int32) [(.int (0 : Int32)), (.int (0 : Int32)), (.int (0 : Int32)), (.int (0 : Int32))] (.int (0 : Int32)) := V145
      have Wk149 : kw1 ≤ h145.size := by rw [W145.size]; exact Wk113
      show own_H T145 75 #[.val (.ref a1), .val (.ref b6), .val (.int (0 : Int32)), .val (.int (2 : Int32))] []
      clear f110 f112 Kp111 Wk113
      refine own_via (fun t k => XS.iinc X145.here hx rfl (hb hby own_d4_75) rfl (l' := #[.val (.ref a1), .val (.ref b6), .val (.int (0 : Int32)), .val (.int (3 : Int32))]) rfl k) ?_
      show own_H T145 78 #[.val (.ref a1), .val (.ref b6), .val (.int (0 : Int32)), .val (.int (3 : Int32))] []
      refine own_via (fun t k => XS.goto X145.here hx rfl (pc0 := 78) (pc' := 31) rfl (hb hby own_d4_78) (by decide) (by decide) k) ?_
      refine own_via (fun t k => XS.iloadN X145.here hx rfl (hb hby own_d4_31) rfl k) ?_
      refine own_via (fun t k => XS.aloadN X145.here hx rfl (hb hby own_d4_32) rfl rfl k) ?_
      show own_H T145 33 #[.val (.ref a1), .val (.ref b6), .val (.int (0 : Int32)), .val (.int (3 : Int32))] [(.ref a1), (.int (3 : Int32))]
      refine own_via (own_len X145 hx hZ e145 f146 (pc := 33) (Ls := #[.val (.ref a1), .val (.ref b6), .val (.int (0 : Int32)), .val (.int (3 : Int32))]) (rest := [(.int (3 : Int32))]) (hb hby own_d4_33)) ?_
      show own_H T145 34 #[.val (.ref a1), .val (.ref b6), .val (.int (0 : Int32)), .val (.int (3 : Int32))] [(.int (4 : Int32)), (.int (3 : Int32))]
      refine own_via (fun t k => XS.icmpNo X145.here hx rfl (hb hby own_d4_34) rfl (tlt (by decide : (3 : Int32) < (4 : Int32))).2.1 k) ?_
      show own_H T145 37 #[.val (.ref a1), .val (.ref b6), .val (.int (0 : Int32)), .val (.int (3 : Int32))] []
      refine own_via (fun t k => XS.iloadN X145.here hx rfl (hb hby own_d4_37) rfl k) ?_
      show own_H T145 38 #[.val (.ref a1), .val (.ref b6), .val (.int (0 : Int32)), .val (.int (3 : Int32))] [(.int (0 : Int32))]
      refine own_via (fun t k => XS.ifYes X145.here hx rfl (pc0 := 38) (pc' := 59) rfl (hb hby own_d4_38) rfl ((if0 _ _).trans (flt (by decide : ¬ ((0 : Int32) < (0 : Int32)))).2.2.2) (by decide) (by decide) k) ?_
      show own_H T145 59 #[.val (.ref a1), .val (.ref b6), .val (.int (0 : Int32)), .val (.int (3 : Int32))] []
      refine own_via (fun t k => XS.aloadN X145.here hx rfl (hb hby own_d4_59) rfl rfl k) ?_
      refine own_via (fun t k => XS.iloadN X145.here hx rfl (hb hby own_d4_60) rfl k) ?_
      show own_H T145 61 #[.val (.ref a1), .val (.ref b6), .val (.int (0 : Int32)), .val (.int (3 : Int32))] [(.int (3 : Int32)), (.ref a1)]
      refine own_via (own_ldI X145 hx hZ e145 f146 (j := (3 : Int32)) ⟨by decide, by decide⟩ (v := (.int p3)) rfl (pc := 61) (Ls := #[.val (.ref a1), .val (.ref b6), .val (.int (0 : Int32)), .val (.int (3 : Int32))]) (rest := []) (hb hby own_d4_61)) ?_
      show own_H T145 62 #[.val (.ref a1), .val (.ref b6), .val (.int (0 : Int32)), .val (.int (3 : Int32))] [(.int p3)]
      refine own_via (fun t k => XS.aloadN X145.here hx rfl (hb hby own_d4_62) rfl rfl k) ?_
      refine own_via (fun t k => XS.iloadN X145.here hx rfl (hb hby own_d4_63) rfl k) ?_
      show own_H T145 64 #[.val (.ref a1), .val (.ref b6), .val (.int (0 : Int32)), .val (.int (3 : Int32))] [(.int (0 : Int32)), (.ref a1), (.int p3)]
      refine own_via (own_ldI X145 hx hZ e145 f146 (j := (0 : Int32)) ⟨by decide, by decide⟩ (v := (.int p0)) rfl (pc := 64) (Ls := #[.val (.ref a1), .val (.ref b6), .val (.int (0 : Int32)), .val (.int (3 : Int32))]) (rest := [(.int p3)]) (hb hby own_d4_64)) ?_
      show own_H T145 65 #[.val (.ref a1), .val (.ref b6), .val (.int (0 : Int32)), .val (.int (3 : Int32))] [(.int p0), (.int p3)]
      by_cases hc151 : p3 = p0
      ·
        refine own_via (fun t k => XS.icmpNo X145.here hx rfl (hb hby own_d4_65) rfl (teq hc151).2 k) ?_
        show own_H T145 68 #[.val (.ref a1), .val (.ref b6), .val (.int (0 : Int32)), .val (.int (3 : Int32))] []
        refine own_via (fun t k => XS.iinc X145.here hx rfl (hb hby own_d4_68) rfl (l' := #[.val (.ref a1), .val (.ref b6), .val (.int (1 : Int32)), .val (.int (3 : Int32))]) rfl k) ?_
        refine own_via (fun t k => XS.aloadN X145.here hx rfl (hb hby own_d4_71) rfl rfl k) ?_
        refine own_via (fun t k => XS.iloadN X145.here hx rfl (hb hby own_d4_72) rfl k) ?_
        refine own_via (fun t k => XS.iloadN X145.here hx rfl (hb hby own_d4_73) rfl k) ?_
        show own_H T145 74 #[.val (.ref a1), .val (.ref b6), .val (.int (1 : Int32)), .val (.int (3 : Int32))] [(.int (1 : Int32)), (.int (3 : Int32)), (.ref b6)]
        obtain ⟨T152, h152, L152, X152, N152, e152, W152, V152, st152⟩ := own_stI X145 N145 hx hZ e145 f148 g_b6 (j := (3 : Int32)) (x := (1 : Int32)) (i := 3) ⟨by decide, by decide⟩ rfl (Nat.le_of_ble_eq_true rfl) (pc := 74) (Ls := #[.val (.ref a1), .val (.ref b6), .val (.int (1 : Int32)), .val (.int (3 : Int32))]) (rest := []) (hb hby own_d4_74)
        refine own_via st152 ?_
        have f153 := f146.other W152 ne7
        have Kp154 := Kp147.wr W152 (Or.inr sz_b6)
        have f155 : Arv Z h152 b6 k6 .int (4 : Int32) [(.int (0 : Int32)), (.int (0 : Int32)), (.int (0 : Int32)), (.int (1 : Int32))] (.int (0 : Int32)) := V152
        have Wk156 : kw1 ≤ h152.size := by rw [W152.size]; exact Wk149
        show own_H T152 75 #[.val (.ref a1), .val (.ref b6), .val (.int (1 : Int32)), .val (.int (3 : Int32))] []
        clear f146 f148 Kp147 Wk149
        refine own_via (fun t k => XS.iinc X152.here hx rfl (hb hby own_d4_75) rfl (l' := #[.val (.ref a1), .val (.ref b6), .val (.int (1 : Int32)), .val (.int (4 : Int32))]) rfl k) ?_
        show own_H T152 78 #[.val (.ref a1), .val (.ref b6), .val (.int (1 : Int32)), .val (.int (4 : Int32))] []
        refine own_via (fun t k => XS.goto X152.here hx rfl (pc0 := 78) (pc' := 31) rfl (hb hby own_d4_78) (by decide) (by decide) k) ?_
        refine own_via (fun t k => XS.iloadN X152.here hx rfl (hb hby own_d4_31) rfl k) ?_
        refine own_via (fun t k => XS.aloadN X152.here hx rfl (hb hby own_d4_32) rfl rfl k) ?_
        show own_H T152 33 #[.val (.ref a1), .val (.ref b6), .val (.int (1 : Int32)), .val (.int (4 : Int32))] [(.ref a1), (.int (4 : Int32))]
        refine own_via (own_len X152 hx hZ e152 f153 (pc := 33) (Ls := #[.val (.ref a1), .val (.ref b6), .val (.int (1 : Int32)), .val (.int (4 : Int32))]) (rest := [(.int (4 : Int32))]) (hb hby own_d4_33)) ?_
        show own_H T152 34 #[.val (.ref a1), .val (.ref b6), .val (.int (1 : Int32)), .val (.int (4 : Int32))] [(.int (4 : Int32)), (.int (4 : Int32))]
        refine own_via (fun t k => XS.icmpYes X152.here hx rfl (pc0 := 34) (pc' := 81) rfl (hb hby own_d4_34) rfl (flt (by decide : ¬ ((4 : Int32) < (4 : Int32)))).2.1 (by decide) (by decide) k) ?_
        show own_H T152 81 #[.val (.ref a1), .val (.ref b6), .val (.int (1 : Int32)), .val (.int (4 : Int32))] []
        refine own_via (fun t k => XS.aloadN X152.here hx rfl (hb hby own_d4_81) rfl rfl k) ?_
        show own_H T152 82 #[.val (.ref a1), .val (.ref b6), .val (.int (1 : Int32)), .val (.int (4 : Int32))] [(.ref b6)]
        have fo158 : Arv Z h152 b6 k6 .int (4 : Int32) [(.int (0 : Int32)), (.int (own_t1 p0 p1)), (.int (own_t2 p0 p1 p2)), (.int (own_t3 p0 p1 p2 p3))] (.int (0 : Int32)) := by simp only [own_t1, own_t2, own_t3, if_neg hc13, if_neg hc115, if_pos hc151]; exact f155
        rw [hPw]
        refine own_wide S1 ?_
        exact own_retA X152 hx Bd.returns rfl rfl Bd.notSynchronized (hb hby own_d4_82) (by rw [e152]; exact ⟨⟨N152, b6, k6, rfl, Kp154, sz_b6, fo158⟩, Wk156⟩) (by decide) (by decide)
      ·
        refine own_via (fun t k => XS.icmpYes X145.here hx rfl (pc0 := 65) (pc' := 71) rfl (hb hby own_d4_65) rfl (feq hc151).2 (by decide) (by decide) k) ?_
        show own_H T145 71 #[.val (.ref a1), .val (.ref b6), .val (.int (0 : Int32)), .val (.int (3 : Int32))] []
        refine own_via (fun t k => XS.aloadN X145.here hx rfl (hb hby own_d4_71) rfl rfl k) ?_
        refine own_via (fun t k => XS.iloadN X145.here hx rfl (hb hby own_d4_72) rfl k) ?_
        refine own_via (fun t k => XS.iloadN X145.here hx rfl (hb hby own_d4_73) rfl k) ?_
        show own_H T145 74 #[.val (.ref a1), .val (.ref b6), .val (.int (0 : Int32)), .val (.int (3 : Int32))] [(.int (0 : Int32)), (.int (3 : Int32)), (.ref b6)]
        obtain ⟨T159, h159, L159, X159, N159, e159, W159, V159, st159⟩ := own_stI X145 N145 hx hZ e145 f148 g_b6 (j := (3 : Int32)) (x := (0 : Int32)) (i := 3) ⟨by decide, by decide⟩ rfl (Nat.le_of_ble_eq_true rfl) (pc := 74) (Ls := #[.val (.ref a1), .val (.ref b6), .val (.int (0 : Int32)), .val (.int (3 : Int32))]) (rest := []) (hb hby own_d4_74)
        refine own_via st159 ?_
        have f160 := f146.other W159 ne7
        have Kp161 := Kp147.wr W159 (Or.inr sz_b6)
        have f162 : Arv Z h159 b6 k6 .int (4 : Int32) [(.int (0 : Int32)), (.int (0 : Int32)), (.int (0 : Int32)), (.int (0 : Int32))] (.int (0 : Int32)) := V159
        have Wk163 : kw1 ≤ h159.size := by rw [W159.size]; exact Wk149
        show own_H T159 75 #[.val (.ref a1), .val (.ref b6), .val (.int (0 : Int32)), .val (.int (3 : Int32))] []
        clear f146 f148 Kp147 Wk149
        refine own_via (fun t k => XS.iinc X159.here hx rfl (hb hby own_d4_75) rfl (l' := #[.val (.ref a1), .val (.ref b6), .val (.int (0 : Int32)), .val (.int (4 : Int32))]) rfl k) ?_
        show own_H T159 78 #[.val (.ref a1), .val (.ref b6), .val (.int (0 : Int32)), .val (.int (4 : Int32))] []
        refine own_via (fun t k => XS.goto X159.here hx rfl (pc0 := 78) (pc' := 31) rfl (hb hby own_d4_78) (by decide) (by decide) k) ?_
        refine own_via (fun t k => XS.iloadN X159.here hx rfl (hb hby own_d4_31) rfl k) ?_
        refine own_via (fun t k => XS.aloadN X159.here hx rfl (hb hby own_d4_32) rfl rfl k) ?_
        show own_H T159 33 #[.val (.ref a1), .val (.ref b6), .val (.int (0 : Int32)), .val (.int (4 : Int32))] [(.ref a1), (.int (4 : Int32))]
        refine own_via (own_len X159 hx hZ e159 f160 (pc := 33) (Ls := #[.val (.ref a1), .val (.ref b6), .val (.int (0 : Int32)), .val (.int (4 : Int32))]) (rest := [(.int (4 : Int32))]) (hb hby own_d4_33)) ?_
        show own_H T159 34 #[.val (.ref a1), .val (.ref b6), .val (.int (0 : Int32)), .val (.int (4 : Int32))] [(.int (4 : Int32)), (.int (4 : Int32))]
        refine own_via (fun t k => XS.icmpYes X159.here hx rfl (pc0 := 34) (pc' := 81) rfl (hb hby own_d4_34) rfl (flt (by decide : ¬ ((4 : Int32) < (4 : Int32)))).2.1 (by decide) (by decide) k) ?_
        show own_H T159 81 #[.val (.ref a1), .val (.ref b6), .val (.int (0 : Int32)), .val (.int (4 : Int32))] []
        refine own_via (fun t k => XS.aloadN X159.here hx rfl (hb hby own_d4_81) rfl rfl k) ?_
        show own_H T159 82 #[.val (.ref a1), .val (.ref b6), .val (.int (0 : Int32)), .val (.int (4 : Int32))] [(.ref b6)]
        have fo165 : Arv Z h159 b6 k6 .int (4 : Int32) [(.int (0 : Int32)), (.int (own_t1 p0 p1)), (.int (own_t2 p0 p1 p2)), (.int (own_t3 p0 p1 p2 p3))] (.int (0 : Int32)) := by simp only [own_t1, own_t2, own_t3, if_neg hc13, if_neg hc115, if_neg hc151]; exact f162
        rw [hPw]
        refine own_wide S1 ?_
        exact own_retA X159 hx Bd.returns rfl rfl Bd.notSynchronized (hb hby own_d4_82) (by rw [e159]; exact ⟨⟨N159, b6, k6, rfl, Kp161, sz_b6, fo165⟩, Wk163⟩) (by decide) (by decide)
def own_FB1 (p0 : Int32) : List Int32 := [(0 : Int32), (0 : Int32)]
theorem own_d3_0 : decode prog_9_method_3_code 0 = .ok (.aload_n 0, 1) := by decide +kernel
theorem own_d3_1 : decode prog_9_method_3_code 1 = .ok (.invokestatic 22, 3) := by decide +kernel
theorem own_d3_4 : decode prog_9_method_3_code 4 = .ok (.astore_n 1, 1) := by decide +kernel
theorem own_d3_5 : decode prog_9_method_3_code 5 = .ok (.aload_n 0, 1) := by decide +kernel
theorem own_d3_6 : decode prog_9_method_3_code 6 = .ok (.arraylength, 1) := by decide +kernel
theorem own_d3_7 : decode prog_9_method_3_code 7 = .ok (.iconst 1, 1) := by decide +kernel
theorem own_d3_8 : decode prog_9_method_3_code 8 = .ok (.iadd, 1) := by decide +kernel
theorem own_d3_9 : decode prog_9_method_3_code 9 = .ok (.newarray .int, 2) := by decide +kernel
theorem own_d3_11 : decode prog_9_method_3_code 11 = .ok (.astore_n 2, 1) := by decide +kernel
theorem own_d3_12 : decode prog_9_method_3_code 12 = .ok (.iconst 1, 1) := by decide +kernel
theorem own_d3_13 : decode prog_9_method_3_code 13 = .ok (.istore_n 3, 1) := by decide +kernel
theorem own_d3_14 : decode prog_9_method_3_code 14 = .ok (.iload_n 3, 1) := by decide +kernel
theorem own_d3_15 : decode prog_9_method_3_code 15 = .ok (.aload_n 0, 1) := by decide +kernel
theorem own_d3_16 : decode prog_9_method_3_code 16 = .ok (.arraylength, 1) := by decide +kernel
theorem own_d3_17 : decode prog_9_method_3_code 17 = .ok (.if_icmp .ge 38, 3) := by decide +kernel
theorem own_d3_55 : decode prog_9_method_3_code 55 = .ok (.aload_n 2, 1) := by decide +kernel
theorem own_d3_56 : decode prog_9_method_3_code 56 = .ok (.aload_n 0, 1) := by decide +kernel
theorem own_d3_57 : decode prog_9_method_3_code 57 = .ok (.arraylength, 1) := by decide +kernel
theorem own_d3_58 : decode prog_9_method_3_code 58 = .ok (.aload_n 1, 1) := by decide +kernel
theorem own_d3_59 : decode prog_9_method_3_code 59 = .ok (.aload_n 0, 1) := by decide +kernel
theorem own_d3_60 : decode prog_9_method_3_code 60 = .ok (.arraylength, 1) := by decide +kernel
theorem own_d3_61 : decode prog_9_method_3_code 61 = .ok (.iconst 1, 1) := by decide +kernel
theorem own_d3_62 : decode prog_9_method_3_code 62 = .ok (.isub, 1) := by decide +kernel
theorem own_d3_63 : decode prog_9_method_3_code 63 = .ok (.iaload, 1) := by decide +kernel
theorem own_d3_64 : decode prog_9_method_3_code 64 = .ok (.iastore, 1) := by decide +kernel
theorem own_d3_65 : decode prog_9_method_3_code 65 = .ok (.aload_n 2, 1) := by decide +kernel
theorem own_d3_66 : decode prog_9_method_3_code 66 = .ok (.areturn, 1) := by decide +kernel
abbrev own_fb1_R : Room := { frames := 2, cells := 4, slots := 103, locals := 28 }
theorem own_pn3 : plainFor (⟨"com/example/skipstitch/skipstitch/PartialMatchTable", "fallbacksOf", "([I)[I"⟩ : MethodName) = true := plainFor_of_name (by first | (simp [plainName, overriddenIn]; done) | decide +kernel)
theorem own_fb1_ef (m : MethodId) (a1 : Addr) : entryFrame m #[(.ref a1)] 5 = mkF m 0 #[.val (.ref a1), .unset, .unset, .unset, .unset] [] := by first | (simp [entryFrame, mkF, argsToLocals, Value.category]; done) | rfl
def own_fb1_q (Z : State) (a1 : Addr) (k_1 : ClassId) (p0 : Int32) (h0 : Heap) (v : Option Value) (h : Heap) : Prop := ∃ (x : Addr) (kx : ClassId), v = some (.ref x) ∧ Keep h0 h [] ∧ h0.size ≤ x ∧ Arv Z h x kx .int (2 : Int32) ((own_FB1 p0).map Value.int) (.int (0 : Int32))
set_option maxRecDepth 65536 in
set_option maxHeartbeats 40000000 in
theorem own_fb1 (l : Launch) (Z : State) (a0 : Array Value) (hw : ∀ d ∈ tables_1, d.before a0 Z = true) (ws : List Jvm.Cond) (a1 : Addr) (k_1 : ClassId) (p0 : Int32) (h0 : Heap) (n0 : Nat) (Z0 : n0 ≤ h0.size) (i_A1 : Arv Z h0 a1 k_1 .int (1 : Int32) [(.int p0)] (.int (0 : Int32))) :
    own_CW l Z (⟨"com/example/skipstitch/skipstitch/PartialMatchTable", "fallbacksOf", "([I)[I"⟩ : MethodName) prog_9_method_3_code 5 (some (.array .int)) ws own_fb1_R #[(.ref a1)] h0 (own_W n0 (own_fb1_q Z a1 k_1 p0 h0)) := by
  refine MetFree.of_bodySF own_pn3 hisR ?_
  intro p e s m args below meth c s₁ Bd hml0 hP hK
  obtain ⟨rfl, hZ, hh⟩ := hP
  have hx := Bd.exec
  have hby := Bd.bytes
  have hml : c.maxLocals = 5 := hml0
  have hown : s.vm.findClass "com/example/skipstitch/skipstitch/PartialMatchTable" = some m.cls := findClass_of_methodNamed Bd.named
  have hnm := (name_of_methodNamed Bd.named Bd.method).1
  have X0 : Stand p l e own_fb1_R s m #[(.ref a1)] below meth c s₁ [] 0 0 := Stand.of_body Bd
  have e0 : s₁.heap = h0 := by rw [← hh, Bd.state]; rfl
  have N0 := Fr.nil n0
  have K0 : Keep h0 h0 [] := Keep.refl h0 _
  have S0 := own_S0 s
  have W0 : 0 ≤ h0.size := Nat.zero_le _
  obtain ⟨Pw, hPw⟩ : ∃ P, P = (own_PW s (own_W n0 (own_fb1_q Z a1 k_1 p0 h0)) own_fb1_R.cells own_fb1_R.slots) := ⟨_, rfl⟩
  show own_G p e below (own_PW s (own_W n0 (own_fb1_q Z a1 k_1 p0 h0)) own_fb1_R.cells own_fb1_R.slots) (s₁.setTop (entryFrame m #[(.ref a1)] 5))
  rw [← hPw]
  rw [own_fb1_ef m a1]
  show own_H s₁ 0 #[.val (.ref a1), .unset, .unset, .unset, .unset] []
  refine own_via (fun t k => XS.aloadN X0.here hx rfl (hb hby own_d3_0) rfl rfl k) ?_
  show own_H s₁ 1 #[.val (.ref a1), .unset, .unset, .unset, .unset] [(.ref a1)]
  obtain ⟨v1, T1, h1, L1, s, kw1, X1, N1, e1, hq1, S1, Wk1, hZ, hown, st1⟩ := own_callSX (y := (⟨"com/example/skipstitch/skipstitch/PartialMatchTable", "of", "([I)[I"⟩ : MethodName)) (W := 0) S0 W0 X0 N0 hx hZ hown (own_u hw 17 rfl) (own_u hw 18 rfl) (own_u hw 15 rfl) (own_u hw 19 rfl) (by decide) (own_of1 l Z a0 hw [] a1 k_1 p0 h0 n0 Z0 i_A1) (by decide) (by decide) (by decide) (by decide) e0 (pc := 1) (Ls := #[.val (.ref a1), .unset, .unset, .unset, .unset]) (st := [(.ref a1)]) (argsL := [(.ref a1)]) (rest := []) (by rw [hml]; rfl) (lenOf own_pd1 rfl) rfl rfl (Nat.le_of_eq rfl) (hb hby own_d3_1)
  obtain ⟨x1, kx1, rfl, K1, zf_x1, o1_0⟩ := hq1
  refine own_via st1 ?_
  have f3 := i_A1.ext (own_ke K1)
  have Kp4 := K0.trans K1 (fun x hx => nomatch hx)
  have Zs5 : n0 ≤ h1.size := Nat.le_trans Z0 K1.1
  show own_H T1 4 #[.val (.ref a1), .unset, .unset, .unset, .unset] [(.ref x1)]
  clear i_A1 K0
  refine own_via (fun t k => XS.astoreN X1.here hx rfl (hb hby own_d3_4) rfl rfl (l' := #[.val (.ref a1), .val (.ref x1), .unset, .unset, .unset]) rfl k) ?_
  refine own_via (fun t k => XS.aloadN X1.here hx rfl (hb hby own_d3_5) rfl rfl k) ?_
  show own_H T1 6 #[.val (.ref a1), .val (.ref x1), .unset, .unset, .unset] [(.ref a1)]
  refine own_via (own_len X1 hx hZ e1 f3 (pc := 6) (Ls := #[.val (.ref a1), .val (.ref x1), .unset, .unset, .unset]) (rest := []) (hb hby own_d3_6)) ?_
  show own_H T1 7 #[.val (.ref a1), .val (.ref x1), .unset, .unset, .unset] [(.int (1 : Int32))]
  refine own_via (fun t k => XS.iconst X1.here hx rfl (hb hby own_d3_7) k) ?_
  show own_H T1 8 #[.val (.ref a1), .val (.ref x1), .unset, .unset, .unset] [(.int (1 : Int32)), (.int (1 : Int32))]
  refine own_via (fun t k => XS.iadd X1.here hx rfl (hb hby own_d3_8) rfl k) ?_
  show own_H T1 9 #[.val (.ref a1), .val (.ref x1), .unset, .unset, .unset] [(.int (2 : Int32))]
  obtain ⟨T6, h6, k6, b6, X6, e6, E6, ga6, V6, Ex6, st6⟩ := own_newA X1 hx hZ (own_u hw 0 rfl) e1 (pc := 9) (Ls := #[.val (.ref a1), .val (.ref x1), .unset, .unset, .unset]) (rest := []) (hb hby own_d3_9) (n := (2 : Int32)) (by decide) (cap := 2) (by decide) (by decide) (by decide) (by decide) 2 rfl
  refine own_via st6 ?_
  have sz_b6 : h0.size ≤ b6 := Nat.le_trans Kp4.1 (Nat.le_of_eq ga6.symm)
  have f9 := f3.ext E6
  have f10 := o1_0.ext E6
  have Kp11 := Kp4.ext E6
  have f12 : Arv Z h6 b6 k6 .int (2 : Int32) [(.int (0 : Int32)), (.int (0 : Int32))] (.int (0 : Int32)) := V6
  have g_b6 : n0 ≤ b6 := Nat.le_trans Zs5 (Nat.le_of_eq ga6.symm)
  have Wk13 : kw1 ≤ h6.size := Nat.le_trans Wk1 E6.1
  show own_H T6 11 #[.val (.ref a1), .val (.ref x1), .unset, .unset, .unset] [(.ref b6)]
  clear f3 o1_0 Kp4 Zs5 Wk1
  refine own_via (fun t k => XS.astoreN X6.here hx rfl (hb hby own_d3_11) rfl rfl (l' := #[.val (.ref a1), .val (.ref x1), .val (.ref b6), .unset, .unset]) rfl k) ?_
  refine own_via (fun t k => XS.iconst X6.here hx rfl (hb hby own_d3_12) k) ?_
  show own_H T6 13 #[.val (.ref a1), .val (.ref x1), .val (.ref b6), .unset, .unset] [(.int (1 : Int32))]
  refine own_via (fun t k => XS.istoreN X6.here hx rfl (hb hby own_d3_13) rfl (l' := #[.val (.ref a1), .val (.ref x1), .val (.ref b6), .val (.int (1 : Int32)), .unset]) rfl k) ?_
  refine own_via (fun t k => XS.iloadN X6.here hx rfl (hb hby own_d3_14) rfl k) ?_
  refine own_via (fun t k => XS.aloadN X6.here hx rfl (hb hby own_d3_15) rfl rfl k) ?_
  show own_H T6 16 #[.val (.ref a1), .val (.ref x1), .val (.ref b6), .val (.int (1 : Int32)), .unset] [(.ref a1), (.int (1 : Int32))]
  refine own_via (own_len X6 hx hZ e6 f9 (pc := 16) (Ls := #[.val (.ref a1), .val (.ref x1), .val (.ref b6), .val (.int (1 : Int32)), .unset]) (rest := [(.int (1 : Int32))]) (hb hby own_d3_16)) ?_
  show own_H T6 17 #[.val (.ref a1), .val (.ref x1), .val (.ref b6), .val (.int (1 : Int32)), .unset] [(.int (1 : Int32)), (.int (1 : Int32))]
  refine own_via (fun t k => XS.icmpYes X6.here hx rfl (pc0 := 17) (pc' := 55) rfl (hb hby own_d3_17) rfl (flt (by decide : ¬ ((1 : Int32) < (1 : Int32)))).2.1 (by decide) (by decide) k) ?_
  show own_H T6 55 #[.val (.ref a1), .val (.ref x1), .val (.ref b6), .val (.int (1 : Int32)), .unset] []
  refine own_via (fun t k => XS.aloadN X6.here hx rfl (hb hby own_d3_55) rfl rfl k) ?_
  refine own_via (fun t k => XS.aloadN X6.here hx rfl (hb hby own_d3_56) rfl rfl k) ?_
  show own_H T6 57 #[.val (.ref a1), .val (.ref x1), .val (.ref b6), .val (.int (1 : Int32)), .unset] [(.ref a1), (.ref b6)]
  refine own_via (own_len X6 hx hZ e6 f9 (pc := 57) (Ls := #[.val (.ref a1), .val (.ref x1), .val (.ref b6), .val (.int (1 : Int32)), .unset]) (rest := [(.ref b6)]) (hb hby own_d3_57)) ?_
  show own_H T6 58 #[.val (.ref a1), .val (.ref x1), .val (.ref b6), .val (.int (1 : Int32)), .unset] [(.int (1 : Int32)), (.ref b6)]
  refine own_via (fun t k => XS.aloadN X6.here hx rfl (hb hby own_d3_58) rfl rfl k) ?_
  refine own_via (fun t k => XS.aloadN X6.here hx rfl (hb hby own_d3_59) rfl rfl k) ?_
  show own_H T6 60 #[.val (.ref a1), .val (.ref x1), .val (.ref b6), .val (.int (1 : Int32)), .unset] [(.ref a1), (.ref x1), (.int (1 : Int32)), (.ref b6)]
  refine own_via (own_len X6 hx hZ e6 f9 (pc := 60) (Ls := #[.val (.ref a1), .val (.ref x1), .val (.ref b6), .val (.int (1 : Int32)), .unset]) (rest := [(.ref x1), (.int (1 : Int32)), (.ref b6)]) (hb hby own_d3_60)) ?_
  show own_H T6 61 #[.val (.ref a1), .val (.ref x1), .val (.ref b6), .val (.int (1 : Int32)), .unset] [(.int (1 : Int32)), (.ref x1), (.int (1 : Int32)), (.ref b6)]
  refine own_via (fun t k => XS.iconst X6.here hx rfl (hb hby own_d3_61) k) ?_
  show own_H T6 62 #[.val (.ref a1), .val (.ref x1), .val (.ref b6), .val (.int (1 : Int32)), .unset] [(.int (1 : Int32)), (.int (1 : Int32)), (.ref x1), (.int (1 : Int32)), (.ref b6)]
  refine own_via (fun t k => XS.isub X6.here hx rfl (hb hby own_d3_62) rfl k) ?_
  show own_H T6 63 #[.val (.ref a1), .val (.ref x1), .val (.ref b6), .val (.int (1 : Int32)), .unset] [(.int (0 : Int32)), (.ref x1), (.int (1 : Int32)), (.ref b6)]
  refine own_via (own_ldI X6 hx hZ e6 f10 (j := (0 : Int32)) ⟨by decide, by decide⟩ (v := (.int (0 : Int32))) rfl (pc := 63) (Ls := #[.val (.ref a1), .val (.ref x1), .val (.ref b6), .val (.int (1 : Int32)), .unset]) (rest := [(.int (1 : Int32)), (.ref b6)]) (hb hby own_d3_63)) ?_
  show own_H T6 64 #[.val (.ref a1), .val (.ref x1), .val (.ref b6), .val (.int (1 : Int32)), .unset] [(.int (0 : Int32)), (.int (1 : Int32)), (.ref b6)]
  obtain ⟨T15, h15, L15, X15, N15, e15, W15, V15, st15⟩ := own_stI X6 N1 hx hZ e6 f12 g_b6 (j := (1 : Int32)) (x := (0 : Int32)) (i := 1) ⟨by decide, by decide⟩ rfl (Nat.le_of_ble_eq_true rfl) (pc := 64) (Ls := #[.val (.ref a1), .val (.ref x1), .val (.ref b6), .val (.int (1 : Int32)), .unset]) (rest := []) (hb hby own_d3_64)
  refine own_via st15 ?_
  have Kp18 := Kp11.wr W15 (Or.inr sz_b6)
  have f19 : Arv Z h15 b6 k6 .int (2 : Int32) [(.int (0 : Int32)), (.int (0 : Int32))] (.int (0 : Int32)) := V15
  have Wk20 : kw1 ≤ h15.size := by rw [W15.size]; exact Wk13
  show own_H T15 65 #[.val (.ref a1), .val (.ref x1), .val (.ref b6), .val (.int (1 : Int32)), .unset] []
  clear f9 f10 f12 Kp11 Wk13
  refine own_via (fun t k => XS.aloadN X15.here hx rfl (hb hby own_d3_65) rfl rfl k) ?_
  show own_H T15 66 #[.val (.ref a1), .val (.ref x1), .val (.ref b6), .val (.int (1 : Int32)), .unset] [(.ref b6)]
  rw [hPw]
  refine own_wide S1 ?_
  exact own_retA X15 hx Bd.returns rfl rfl Bd.notSynchronized (hb hby own_d3_66) (by rw [e15]; exact ⟨⟨N15, b6, k6, rfl, Kp18, sz_b6, f19⟩, Wk20⟩) (by decide) (by decide)
def own_FB2 (p0 p1 : Int32) : List Int32 := [(0 : Int32), (0 : Int32), (own_t1 p0 p1)]
theorem own_d3_20 : decode prog_9_method_3_code 20 = .ok (.aload_n 1, 1) := by decide +kernel
theorem own_d3_21 : decode prog_9_method_3_code 21 = .ok (.iload_n 3, 1) := by decide +kernel
theorem own_d3_22 : decode prog_9_method_3_code 22 = .ok (.iconst 1, 1) := by decide +kernel
theorem own_d3_23 : decode prog_9_method_3_code 23 = .ok (.isub, 1) := by decide +kernel
theorem own_d3_24 : decode prog_9_method_3_code 24 = .ok (.iaload, 1) := by decide +kernel
theorem own_d3_25 : decode prog_9_method_3_code 25 = .ok (.istore 4, 2) := by decide +kernel
theorem own_d3_27 : decode prog_9_method_3_code 27 = .ok (.aload_n 2, 1) := by decide +kernel
theorem own_d3_28 : decode prog_9_method_3_code 28 = .ok (.iload_n 3, 1) := by decide +kernel
theorem own_d3_29 : decode prog_9_method_3_code 29 = .ok (.aload_n 0, 1) := by decide +kernel
theorem own_d3_30 : decode prog_9_method_3_code 30 = .ok (.iload 4, 2) := by decide +kernel
theorem own_d3_32 : decode prog_9_method_3_code 32 = .ok (.iaload, 1) := by decide +kernel
theorem own_d3_33 : decode prog_9_method_3_code 33 = .ok (.aload_n 0, 1) := by decide +kernel
theorem own_d3_34 : decode prog_9_method_3_code 34 = .ok (.iload_n 3, 1) := by decide +kernel
theorem own_d3_35 : decode prog_9_method_3_code 35 = .ok (.iaload, 1) := by decide +kernel
theorem own_d3_36 : decode prog_9_method_3_code 36 = .ok (.if_icmp .ne 10, 3) := by decide +kernel
theorem own_d3_39 : decode prog_9_method_3_code 39 = .ok (.aload_n 2, 1) := by decide +kernel
theorem own_d3_40 : decode prog_9_method_3_code 40 = .ok (.iload 4, 2) := by decide +kernel
theorem own_d3_42 : decode prog_9_method_3_code 42 = .ok (.iaload, 1) := by decide +kernel
theorem own_d3_43 : decode prog_9_method_3_code 43 = .ok (.goto 5, 3) := by decide +kernel
theorem own_d3_46 : decode prog_9_method_3_code 46 = .ok (.iload 4, 2) := by decide +kernel
theorem own_d3_48 : decode prog_9_method_3_code 48 = .ok (.iastore, 1) := by decide +kernel
theorem own_d3_49 : decode prog_9_method_3_code 49 = .ok (.iinc 3 1, 3) := by decide +kernel
theorem own_d3_52 : decode prog_9_method_3_code 52 = .ok (.goto (-38), 3) := by decide +kernel
abbrev own_fb2_R : Room := { frames := 2, cells := 4, slots := 105, locals := 28 }
theorem own_fb2_ef (m : MethodId) (a1 : Addr) : entryFrame m #[(.ref a1)] 5 = mkF m 0 #[.val (.ref a1), .unset, .unset, .unset, .unset] [] := by first | (simp [entryFrame, mkF, argsToLocals, Value.category]; done) | rfl
def own_fb2_q (Z : State) (a1 : Addr) (k_1 : ClassId) (p0 : Int32) (p1 : Int32) (h0 : Heap) (v : Option Value) (h : Heap) : Prop := ∃ (x : Addr) (kx : ClassId), v = some (.ref x) ∧ Keep h0 h [] ∧ h0.size ≤ x ∧ Arv Z h x kx .int (3 : Int32) ((own_FB2 p0 p1).map Value.int) (.int (0 : Int32))
set_option maxRecDepth 65536 in
set_option maxHeartbeats 40000000 in
theorem own_fb2 (l : Launch) (Z : State) (a0 : Array Value) (hw : ∀ d ∈ tables_1, d.before a0 Z = true) (ws : List Jvm.Cond) (a1 : Addr) (k_1 : ClassId) (p0 : Int32) (p1 : Int32) (h0 : Heap) (n0 : Nat) (Z0 : n0 ≤ h0.size) (i_A1 : Arv Z h0 a1 k_1 .int (2 : Int32) [(.int p0), (.int p1)] (.int (0 : Int32))) :
    own_CW l Z (⟨"com/example/skipstitch/skipstitch/PartialMatchTable", "fallbacksOf", "([I)[I"⟩ : MethodName) prog_9_method_3_code 5 (some (.array .int)) ws own_fb2_R #[(.ref a1)] h0 (own_W n0 (own_fb2_q Z a1 k_1 p0 p1 h0)) := by
  refine MetFree.of_bodySF own_pn3 hisR ?_
  intro p e s m args below meth c s₁ Bd hml0 hP hK
  obtain ⟨rfl, hZ, hh⟩ := hP
  have hx := Bd.exec
  have hby := Bd.bytes
  have hml : c.maxLocals = 5 := hml0
  have hown : s.vm.findClass "com/example/skipstitch/skipstitch/PartialMatchTable" = some m.cls := findClass_of_methodNamed Bd.named
  have hnm := (name_of_methodNamed Bd.named Bd.method).1
  have X0 : Stand p l e own_fb2_R s m #[(.ref a1)] below meth c s₁ [] 0 0 := Stand.of_body Bd
  have e0 : s₁.heap = h0 := by rw [← hh, Bd.state]; rfl
  have N0 := Fr.nil n0
  have K0 : Keep h0 h0 [] := Keep.refl h0 _
  have S0 := own_S0 s
  have W0 : 0 ≤ h0.size := Nat.zero_le _
  obtain ⟨Pw, hPw⟩ : ∃ P, P = (own_PW s (own_W n0 (own_fb2_q Z a1 k_1 p0 p1 h0)) own_fb2_R.cells own_fb2_R.slots) := ⟨_, rfl⟩
  show own_G p e below (own_PW s (own_W n0 (own_fb2_q Z a1 k_1 p0 p1 h0)) own_fb2_R.cells own_fb2_R.slots) (s₁.setTop (entryFrame m #[(.ref a1)] 5))
  rw [← hPw]
  rw [own_fb2_ef m a1]
  show own_H s₁ 0 #[.val (.ref a1), .unset, .unset, .unset, .unset] []
  refine own_via (fun t k => XS.aloadN X0.here hx rfl (hb hby own_d3_0) rfl rfl k) ?_
  show own_H s₁ 1 #[.val (.ref a1), .unset, .unset, .unset, .unset] [(.ref a1)]
  obtain ⟨v1, T1, h1, L1, s, kw1, X1, N1, e1, hq1, S1, Wk1, hZ, hown, st1⟩ := own_callSX (y := (⟨"com/example/skipstitch/skipstitch/PartialMatchTable", "of", "([I)[I"⟩ : MethodName)) (W := 0) S0 W0 X0 N0 hx hZ hown (own_u hw 17 rfl) (own_u hw 18 rfl) (own_u hw 15 rfl) (own_u hw 19 rfl) (by decide) (own_of2 l Z a0 hw [] a1 k_1 p0 p1 h0 n0 Z0 i_A1) (by decide) (by decide) (by decide) (by decide) e0 (pc := 1) (Ls := #[.val (.ref a1), .unset, .unset, .unset, .unset]) (st := [(.ref a1)]) (argsL := [(.ref a1)]) (rest := []) (by rw [hml]; rfl) (lenOf own_pd1 rfl) rfl rfl (Nat.le_of_eq rfl) (hb hby own_d3_1)
  obtain ⟨x1, kx1, rfl, K1, zf_x1, o1_0⟩ := hq1
  refine own_via st1 ?_
  have f3 := i_A1.ext (own_ke K1)
  have Kp4 := K0.trans K1 (fun x hx => nomatch hx)
  have Zs5 : n0 ≤ h1.size := Nat.le_trans Z0 K1.1
  show own_H T1 4 #[.val (.ref a1), .unset, .unset, .unset, .unset] [(.ref x1)]
  clear i_A1 K0
  refine own_via (fun t k => XS.astoreN X1.here hx rfl (hb hby own_d3_4) rfl rfl (l' := #[.val (.ref a1), .val (.ref x1), .unset, .unset, .unset]) rfl k) ?_
  refine own_via (fun t k => XS.aloadN X1.here hx rfl (hb hby own_d3_5) rfl rfl k) ?_
  show own_H T1 6 #[.val (.ref a1), .val (.ref x1), .unset, .unset, .unset] [(.ref a1)]
  refine own_via (own_len X1 hx hZ e1 f3 (pc := 6) (Ls := #[.val (.ref a1), .val (.ref x1), .unset, .unset, .unset]) (rest := []) (hb hby own_d3_6)) ?_
  show own_H T1 7 #[.val (.ref a1), .val (.ref x1), .unset, .unset, .unset] [(.int (2 : Int32))]
  refine own_via (fun t k => XS.iconst X1.here hx rfl (hb hby own_d3_7) k) ?_
  show own_H T1 8 #[.val (.ref a1), .val (.ref x1), .unset, .unset, .unset] [(.int (1 : Int32)), (.int (2 : Int32))]
  refine own_via (fun t k => XS.iadd X1.here hx rfl (hb hby own_d3_8) rfl k) ?_
  show own_H T1 9 #[.val (.ref a1), .val (.ref x1), .unset, .unset, .unset] [(.int (3 : Int32))]
  obtain ⟨T6, h6, k6, b6, X6, e6, E6, ga6, V6, Ex6, st6⟩ := own_newA X1 hx hZ (own_u hw 0 rfl) e1 (pc := 9) (Ls := #[.val (.ref a1), .val (.ref x1), .unset, .unset, .unset]) (rest := []) (hb hby own_d3_9) (n := (3 : Int32)) (by decide) (cap := 3) (by decide) (by decide) (by decide) (by decide) 3 rfl
  refine own_via st6 ?_
  have sz_b6 : h0.size ≤ b6 := Nat.le_trans Kp4.1 (Nat.le_of_eq ga6.symm)
  have ne7 : a1 ≠ b6 := Nat.ne_of_lt (Nat.lt_of_lt_of_le f3.lt (Nat.le_of_eq ga6.symm))
  have ne8 : x1 ≠ b6 := Nat.ne_of_lt (Nat.lt_of_lt_of_le o1_0.lt (Nat.le_of_eq ga6.symm))
  have f9 := f3.ext E6
  have f10 := o1_0.ext E6
  have Kp11 := Kp4.ext E6
  have f12 : Arv Z h6 b6 k6 .int (3 : Int32) [(.int (0 : Int32)), (.int (0 : Int32)), (.int (0 : Int32))] (.int (0 : Int32)) := V6
  have g_b6 : n0 ≤ b6 := Nat.le_trans Zs5 (Nat.le_of_eq ga6.symm)
  have Wk13 : kw1 ≤ h6.size := Nat.le_trans Wk1 E6.1
  show own_H T6 11 #[.val (.ref a1), .val (.ref x1), .unset, .unset, .unset] [(.ref b6)]
  clear f3 o1_0 Kp4 Zs5 Wk1
  refine own_via (fun t k => XS.astoreN X6.here hx rfl (hb hby own_d3_11) rfl rfl (l' := #[.val (.ref a1), .val (.ref x1), .val (.ref b6), .unset, .unset]) rfl k) ?_
  refine own_via (fun t k => XS.iconst X6.here hx rfl (hb hby own_d3_12) k) ?_
  show own_H T6 13 #[.val (.ref a1), .val (.ref x1), .val (.ref b6), .unset, .unset] [(.int (1 : Int32))]
  refine own_via (fun t k => XS.istoreN X6.here hx rfl (hb hby own_d3_13) rfl (l' := #[.val (.ref a1), .val (.ref x1), .val (.ref b6), .val (.int (1 : Int32)), .unset]) rfl k) ?_
  refine own_via (fun t k => XS.iloadN X6.here hx rfl (hb hby own_d3_14) rfl k) ?_
  refine own_via (fun t k => XS.aloadN X6.here hx rfl (hb hby own_d3_15) rfl rfl k) ?_
  show own_H T6 16 #[.val (.ref a1), .val (.ref x1), .val (.ref b6), .val (.int (1 : Int32)), .unset] [(.ref a1), (.int (1 : Int32))]
  refine own_via (own_len X6 hx hZ e6 f9 (pc := 16) (Ls := #[.val (.ref a1), .val (.ref x1), .val (.ref b6), .val (.int (1 : Int32)), .unset]) (rest := [(.int (1 : Int32))]) (hb hby own_d3_16)) ?_
  show own_H T6 17 #[.val (.ref a1), .val (.ref x1), .val (.ref b6), .val (.int (1 : Int32)), .unset] [(.int (2 : Int32)), (.int (1 : Int32))]
  refine own_via (fun t k => XS.icmpNo X6.here hx rfl (hb hby own_d3_17) rfl (tlt (by decide : (1 : Int32) < (2 : Int32))).2.1 k) ?_
  show own_H T6 20 #[.val (.ref a1), .val (.ref x1), .val (.ref b6), .val (.int (1 : Int32)), .unset] []
  refine own_via (fun t k => XS.aloadN X6.here hx rfl (hb hby own_d3_20) rfl rfl k) ?_
  refine own_via (fun t k => XS.iloadN X6.here hx rfl (hb hby own_d3_21) rfl k) ?_
  refine own_via (fun t k => XS.iconst X6.here hx rfl (hb hby own_d3_22) k) ?_
  show own_H T6 23 #[.val (.ref a1), .val (.ref x1), .val (.ref b6), .val (.int (1 : Int32)), .unset] [(.int (1 : Int32)), (.int (1 : Int32)), (.ref x1)]
  refine own_via (fun t k => XS.isub X6.here hx rfl (hb hby own_d3_23) rfl k) ?_
  show own_H T6 24 #[.val (.ref a1), .val (.ref x1), .val (.ref b6), .val (.int (1 : Int32)), .unset] [(.int (0 : Int32)), (.ref x1)]
  refine own_via (own_ldI X6 hx hZ e6 f10 (j := (0 : Int32)) ⟨by decide, by decide⟩ (v := (.int (0 : Int32))) rfl (pc := 24) (Ls := #[.val (.ref a1), .val (.ref x1), .val (.ref b6), .val (.int (1 : Int32)), .unset]) (rest := []) (hb hby own_d3_24)) ?_
  show own_H T6 25 #[.val (.ref a1), .val (.ref x1), .val (.ref b6), .val (.int (1 : Int32)), .unset] [(.int (0 : Int32))]
  refine own_via (fun t k => XS.istore X6.here hx rfl (hb hby own_d3_25) rfl (l' := #[.val (.ref a1), .val (.ref x1), .val (.ref b6), .val (.int (1 : Int32)), .val (.int (0 : Int32))]) rfl k) ?_
  refine own_via (fun t k => XS.aloadN X6.here hx rfl (hb hby own_d3_27) rfl rfl k) ?_
  refine own_via (fun t k => XS.iloadN X6.here hx rfl (hb hby own_d3_28) rfl k) ?_
  refine own_via (fun t k => XS.aloadN X6.here hx rfl (hb hby own_d3_29) rfl rfl k) ?_
  refine own_via (fun t k => XS.iload X6.here hx rfl (hb hby own_d3_30) rfl k) ?_
  show own_H T6 32 #[.val (.ref a1), .val (.ref x1), .val (.ref b6), .val (.int (1 : Int32)), .val (.int (0 : Int32))] [(.int (0 : Int32)), (.ref a1), (.int (1 : Int32)), (.ref b6)]
  refine own_via (own_ldI X6 hx hZ e6 f9 (j := (0 : Int32)) ⟨by decide, by decide⟩ (v := (.int p0)) rfl (pc := 32) (Ls := #[.val (.ref a1), .val (.ref x1), .val (.ref b6), .val (.int (1 : Int32)), .val (.int (0 : Int32))]) (rest := [(.int (1 : Int32)), (.ref b6)]) (hb hby own_d3_32)) ?_
  show own_H T6 33 #[.val (.ref a1), .val (.ref x1), .val (.ref b6), .val (.int (1 : Int32)), .val (.int (0 : Int32))] [(.int p0), (.int (1 : Int32)), (.ref b6)]
  refine own_via (fun t k => XS.aloadN X6.here hx rfl (hb hby own_d3_33) rfl rfl k) ?_
  refine own_via (fun t k => XS.iloadN X6.here hx rfl (hb hby own_d3_34) rfl k) ?_
  show own_H T6 35 #[.val (.ref a1), .val (.ref x1), .val (.ref b6), .val (.int (1 : Int32)), .val (.int (0 : Int32))] [(.int (1 : Int32)), (.ref a1), (.int p0), (.int (1 : Int32)), (.ref b6)]
  refine own_via (own_ldI X6 hx hZ e6 f9 (j := (1 : Int32)) ⟨by decide, by decide⟩ (v := (.int p1)) rfl (pc := 35) (Ls := #[.val (.ref a1), .val (.ref x1), .val (.ref b6), .val (.int (1 : Int32)), .val (.int (0 : Int32))]) (rest := [(.int p0), (.int (1 : Int32)), (.ref b6)]) (hb hby own_d3_35)) ?_
  show own_H T6 36 #[.val (.ref a1), .val (.ref x1), .val (.ref b6), .val (.int (1 : Int32)), .val (.int (0 : Int32))] [(.int p1), (.int p0), (.int (1 : Int32)), (.ref b6)]
  have J15 : ∀ (TJ15 : State) (XJ15 : Stand p l e own_fb2_R s m #[(.ref a1)] below meth c TJ15 L1 4 105) (EJ15 : TJ15.heap = h6) (_ : True), own_G p e below Pw (TJ15.setTop (mkF m 48 #[.val (.ref a1), .val (.ref x1), .val (.ref b6), .val (.int (1 : Int32)), .val (.int (0 : Int32))] [(.int (0 : Int32)), (.int (1 : Int32)), (.ref b6)])) := by
    intro TJ15 XJ15 EJ15 _
    obtain ⟨T16, h16, L16, X16, N16, e16, W16, V16, st16⟩ := own_stI XJ15 N1 hx hZ EJ15 f12 g_b6 (j := (1 : Int32)) (x := (0 : Int32)) (i := 1) ⟨by decide, by decide⟩ rfl (Nat.le_of_ble_eq_true rfl) (pc := 48) (Ls := #[.val (.ref a1), .val (.ref x1), .val (.ref b6), .val (.int (1 : Int32)), .val (.int (0 : Int32))]) (rest := []) (hb hby own_d3_48)
    refine own_via st16 ?_
    have f17 := f9.other W16 ne7
    have f18 := f10.other W16 ne8
    have Kp19 := Kp11.wr W16 (Or.inr sz_b6)
    have f20 : Arv Z h16 b6 k6 .int (3 : Int32) [(.int (0 : Int32)), (.int (0 : Int32)), (.int (0 : Int32))] (.int (0 : Int32)) := V16
    have Wk21 : kw1 ≤ h16.size := by rw [W16.size]; exact Wk13
    show own_H T16 49 #[.val (.ref a1), .val (.ref x1), .val (.ref b6), .val (.int (1 : Int32)), .val (.int (0 : Int32))] []
    clear f9 f10 f12 Kp11 Wk13
    refine own_via (fun t k => XS.iinc X16.here hx rfl (hb hby own_d3_49) rfl (l' := #[.val (.ref a1), .val (.ref x1), .val (.ref b6), .val (.int (2 : Int32)), .val (.int (0 : Int32))]) rfl k) ?_
    show own_H T16 52 #[.val (.ref a1), .val (.ref x1), .val (.ref b6), .val (.int (2 : Int32)), .val (.int (0 : Int32))] []
    refine own_via (fun t k => XS.goto X16.here hx rfl (pc0 := 52) (pc' := 14) rfl (hb hby own_d3_52) (by decide) (by decide) k) ?_
    refine own_via (fun t k => XS.iloadN X16.here hx rfl (hb hby own_d3_14) rfl k) ?_
    refine own_via (fun t k => XS.aloadN X16.here hx rfl (hb hby own_d3_15) rfl rfl k) ?_
    show own_H T16 16 #[.val (.ref a1), .val (.ref x1), .val (.ref b6), .val (.int (2 : Int32)), .val (.int (0 : Int32))] [(.ref a1), (.int (2 : Int32))]
    refine own_via (own_len X16 hx hZ e16 f17 (pc := 16) (Ls := #[.val (.ref a1), .val (.ref x1), .val (.ref b6), .val (.int (2 : Int32)), .val (.int (0 : Int32))]) (rest := [(.int (2 : Int32))]) (hb hby own_d3_16)) ?_
    show own_H T16 17 #[.val (.ref a1), .val (.ref x1), .val (.ref b6), .val (.int (2 : Int32)), .val (.int (0 : Int32))] [(.int (2 : Int32)), (.int (2 : Int32))]
    refine own_via (fun t k => XS.icmpYes X16.here hx rfl (pc0 := 17) (pc' := 55) rfl (hb hby own_d3_17) rfl (flt (by decide : ¬ ((2 : Int32) < (2 : Int32)))).2.1 (by decide) (by decide) k) ?_
    show own_H T16 55 #[.val (.ref a1), .val (.ref x1), .val (.ref b6), .val (.int (2 : Int32)), .val (.int (0 : Int32))] []
    refine own_via (fun t k => XS.aloadN X16.here hx rfl (hb hby own_d3_55) rfl rfl k) ?_
    refine own_via (fun t k => XS.aloadN X16.here hx rfl (hb hby own_d3_56) rfl rfl k) ?_
    show own_H T16 57 #[.val (.ref a1), .val (.ref x1), .val (.ref b6), .val (.int (2 : Int32)), .val (.int (0 : Int32))] [(.ref a1), (.ref b6)]
    refine own_via (own_len X16 hx hZ e16 f17 (pc := 57) (Ls := #[.val (.ref a1), .val (.ref x1), .val (.ref b6), .val (.int (2 : Int32)), .val (.int (0 : Int32))]) (rest := [(.ref b6)]) (hb hby own_d3_57)) ?_
    show own_H T16 58 #[.val (.ref a1), .val (.ref x1), .val (.ref b6), .val (.int (2 : Int32)), .val (.int (0 : Int32))] [(.int (2 : Int32)), (.ref b6)]
    refine own_via (fun t k => XS.aloadN X16.here hx rfl (hb hby own_d3_58) rfl rfl k) ?_
    refine own_via (fun t k => XS.aloadN X16.here hx rfl (hb hby own_d3_59) rfl rfl k) ?_
    show own_H T16 60 #[.val (.ref a1), .val (.ref x1), .val (.ref b6), .val (.int (2 : Int32)), .val (.int (0 : Int32))] [(.ref a1), (.ref x1), (.int (2 : Int32)), (.ref b6)]
    refine own_via (own_len X16 hx hZ e16 f17 (pc := 60) (Ls := #[.val (.ref a1), .val (.ref x1), .val (.ref b6), .val (.int (2 : Int32)), .val (.int (0 : Int32))]) (rest := [(.ref x1), (.int (2 : Int32)), (.ref b6)]) (hb hby own_d3_60)) ?_
    show own_H T16 61 #[.val (.ref a1), .val (.ref x1), .val (.ref b6), .val (.int (2 : Int32)), .val (.int (0 : Int32))] [(.int (2 : Int32)), (.ref x1), (.int (2 : Int32)), (.ref b6)]
    refine own_via (fun t k => XS.iconst X16.here hx rfl (hb hby own_d3_61) k) ?_
    show own_H T16 62 #[.val (.ref a1), .val (.ref x1), .val (.ref b6), .val (.int (2 : Int32)), .val (.int (0 : Int32))] [(.int (1 : Int32)), (.int (2 : Int32)), (.ref x1), (.int (2 : Int32)), (.ref b6)]
    refine own_via (fun t k => XS.isub X16.here hx rfl (hb hby own_d3_62) rfl k) ?_
    show own_H T16 63 #[.val (.ref a1), .val (.ref x1), .val (.ref b6), .val (.int (2 : Int32)), .val (.int (0 : Int32))] [(.int (1 : Int32)), (.ref x1), (.int (2 : Int32)), (.ref b6)]
    refine own_via (own_ldI X16 hx hZ e16 f18 (j := (1 : Int32)) ⟨by decide, by decide⟩ (v := (.int (own_t1 p0 p1))) rfl (pc := 63) (Ls := #[.val (.ref a1), .val (.ref x1), .val (.ref b6), .val (.int (2 : Int32)), .val (.int (0 : Int32))]) (rest := [(.int (2 : Int32)), (.ref b6)]) (hb hby own_d3_63)) ?_
    show own_H T16 64 #[.val (.ref a1), .val (.ref x1), .val (.ref b6), .val (.int (2 : Int32)), .val (.int (0 : Int32))] [(.int (own_t1 p0 p1)), (.int (2 : Int32)), (.ref b6)]
    obtain ⟨T23, h23, L23, X23, N23, e23, W23, V23, st23⟩ := own_stI X16 N16 hx hZ e16 f20 g_b6 (j := (2 : Int32)) (x := (own_t1 p0 p1)) (i := 2) ⟨by decide, by decide⟩ rfl (Nat.le_of_ble_eq_true rfl) (pc := 64) (Ls := #[.val (.ref a1), .val (.ref x1), .val (.ref b6), .val (.int (2 : Int32)), .val (.int (0 : Int32))]) (rest := []) (hb hby own_d3_64)
    refine own_via st23 ?_
    have Kp26 := Kp19.wr W23 (Or.inr sz_b6)
    have f27 : Arv Z h23 b6 k6 .int (3 : Int32) [(.int (0 : Int32)), (.int (0 : Int32)), (.int (own_t1 p0 p1))] (.int (0 : Int32)) := V23
    have Wk28 : kw1 ≤ h23.size := by rw [W23.size]; exact Wk21
    show own_H T23 65 #[.val (.ref a1), .val (.ref x1), .val (.ref b6), .val (.int (2 : Int32)), .val (.int (0 : Int32))] []
    clear f17 f18 f20 Kp19 Wk21
    refine own_via (fun t k => XS.aloadN X23.here hx rfl (hb hby own_d3_65) rfl rfl k) ?_
    show own_H T23 66 #[.val (.ref a1), .val (.ref x1), .val (.ref b6), .val (.int (2 : Int32)), .val (.int (0 : Int32))] [(.ref b6)]
    rw [hPw]
    refine own_wide S1 ?_
    exact own_retA X23 hx Bd.returns rfl rfl Bd.notSynchronized (hb hby own_d3_66) (by rw [e23]; exact ⟨⟨N23, b6, k6, rfl, Kp26, sz_b6, f27⟩, Wk28⟩) (by decide) (by decide)
  by_cases hc30 : p0 = p1
  ·
    refine own_via (fun t k => XS.icmpNo X6.here hx rfl (hb hby own_d3_36) rfl (teq hc30).2 k) ?_
    show own_H T6 39 #[.val (.ref a1), .val (.ref x1), .val (.ref b6), .val (.int (1 : Int32)), .val (.int (0 : Int32))] [(.int (1 : Int32)), (.ref b6)]
    refine own_via (fun t k => XS.aloadN X6.here hx rfl (hb hby own_d3_39) rfl rfl k) ?_
    show own_H T6 40 #[.val (.ref a1), .val (.ref x1), .val (.ref b6), .val (.int (1 : Int32)), .val (.int (0 : Int32))] [(.ref b6), (.int (1 : Int32)), (.ref b6)]
    refine own_via (fun t k => XS.iload X6.here hx rfl (hb hby own_d3_40) rfl k) ?_
    show own_H T6 42 #[.val (.ref a1), .val (.ref x1), .val (.ref b6), .val (.int (1 : Int32)), .val (.int (0 : Int32))] [(.int (0 : Int32)), (.ref b6), (.int (1 : Int32)), (.ref b6)]
    refine own_via (own_ldI X6 hx hZ e6 f12 (j := (0 : Int32)) ⟨by decide, by decide⟩ (v := (.int (0 : Int32))) rfl (pc := 42) (Ls := #[.val (.ref a1), .val (.ref x1), .val (.ref b6), .val (.int (1 : Int32)), .val (.int (0 : Int32))]) (rest := [(.int (1 : Int32)), (.ref b6)]) (hb hby own_d3_42)) ?_
    show own_H T6 43 #[.val (.ref a1), .val (.ref x1), .val (.ref b6), .val (.int (1 : Int32)), .val (.int (0 : Int32))] [(.int (0 : Int32)), (.int (1 : Int32)), (.ref b6)]
    refine own_via (fun t k => XS.goto X6.here hx rfl (pc0 := 43) (pc' := 48) rfl (hb hby own_d3_43) (by decide) (by decide) k) ?_
    show own_H T6 48 #[.val (.ref a1), .val (.ref x1), .val (.ref b6), .val (.int (1 : Int32)), .val (.int (0 : Int32))] [(.int (0 : Int32)), (.int (1 : Int32)), (.ref b6)]
    exact J15 _ X6 e6 trivial
  ·
    refine own_via (fun t k => XS.icmpYes X6.here hx rfl (pc0 := 36) (pc' := 46) rfl (hb hby own_d3_36) rfl (feq hc30).2 (by decide) (by decide) k) ?_
    show own_H T6 46 #[.val (.ref a1), .val (.ref x1), .val (.ref b6), .val (.int (1 : Int32)), .val (.int (0 : Int32))] [(.int (1 : Int32)), (.ref b6)]
    refine own_via (fun t k => XS.iload X6.here hx rfl (hb hby own_d3_46) rfl k) ?_
    show own_H T6 48 #[.val (.ref a1), .val (.ref x1), .val (.ref b6), .val (.int (1 : Int32)), .val (.int (0 : Int32))] [(.int (0 : Int32)), (.int (1 : Int32)), (.ref b6)]
    exact J15 _ X6 e6 trivial
def own_FB3 (p0 p1 p2 : Int32) : List Int32 := [(0 : Int32), (0 : Int32), ((if (own_get ([p0, p1, p2] : List Int32) (own_t1 p0 p1)) = p2 then (own_get ([(0 : Int32), (0 : Int32), (0 : Int32), (0 : Int32)] : List Int32) (own_t1 p0 p1)) else (own_t1 p0 p1))), (own_t2 p0 p1 p2)]
abbrev own_fb3_R : Room := { frames := 2, cells := 4, slots := 107, locals := 28 }
theorem own_fb3_ef (m : MethodId) (a1 : Addr) : entryFrame m #[(.ref a1)] 5 = mkF m 0 #[.val (.ref a1), .unset, .unset, .unset, .unset] [] := by first | (simp [entryFrame, mkF, argsToLocals, Value.category]; done) | rfl
def own_fb3_q (Z : State) (a1 : Addr) (k_1 : ClassId) (p0 : Int32) (p1 : Int32) (p2 : Int32) (h0 : Heap) (v : Option Value) (h : Heap) : Prop := ∃ (x : Addr) (kx : ClassId), v = some (.ref x) ∧ Keep h0 h [] ∧ h0.size ≤ x ∧ Arv Z h x kx .int (4 : Int32) ((own_FB3 p0 p1 p2).map Value.int) (.int (0 : Int32))
set_option maxRecDepth 65536 in
set_option maxHeartbeats 40000000 in
theorem own_fb3 (l : Launch) (Z : State) (a0 : Array Value) (hw : ∀ d ∈ tables_1, d.before a0 Z = true) (ws : List Jvm.Cond) (a1 : Addr) (k_1 : ClassId) (p0 : Int32) (p1 : Int32) (p2 : Int32) (h0 : Heap) (n0 : Nat) (Z0 : n0 ≤ h0.size) (i_A1 : Arv Z h0 a1 k_1 .int (3 : Int32) [(.int p0), (.int p1), (.int p2)] (.int (0 : Int32))) :
    own_CW l Z (⟨"com/example/skipstitch/skipstitch/PartialMatchTable", "fallbacksOf", "([I)[I"⟩ : MethodName) prog_9_method_3_code 5 (some (.array .int)) ws own_fb3_R #[(.ref a1)] h0 (own_W n0 (own_fb3_q Z a1 k_1 p0 p1 p2 h0)) := by
  refine MetFree.of_bodySF own_pn3 hisR ?_
  intro p e s m args below meth c s₁ Bd hml0 hP hK
  obtain ⟨rfl, hZ, hh⟩ := hP
  have hx := Bd.exec
  have hby := Bd.bytes
  have hml : c.maxLocals = 5 := hml0
  have hown : s.vm.findClass "com/example/skipstitch/skipstitch/PartialMatchTable" = some m.cls := findClass_of_methodNamed Bd.named
  have hnm := (name_of_methodNamed Bd.named Bd.method).1
  have X0 : Stand p l e own_fb3_R s m #[(.ref a1)] below meth c s₁ [] 0 0 := Stand.of_body Bd
  have e0 : s₁.heap = h0 := by rw [← hh, Bd.state]; rfl
  have N0 := Fr.nil n0
  have K0 : Keep h0 h0 [] := Keep.refl h0 _
  have S0 := own_S0 s
  have W0 : 0 ≤ h0.size := Nat.zero_le _
  obtain ⟨Pw, hPw⟩ : ∃ P, P = (own_PW s (own_W n0 (own_fb3_q Z a1 k_1 p0 p1 p2 h0)) own_fb3_R.cells own_fb3_R.slots) := ⟨_, rfl⟩
  show own_G p e below (own_PW s (own_W n0 (own_fb3_q Z a1 k_1 p0 p1 p2 h0)) own_fb3_R.cells own_fb3_R.slots) (s₁.setTop (entryFrame m #[(.ref a1)] 5))
  rw [← hPw]
  rw [own_fb3_ef m a1]
  show own_H s₁ 0 #[.val (.ref a1), .unset, .unset, .unset, .unset] []
  refine own_via (fun t k => XS.aloadN X0.here hx rfl (hb hby own_d3_0) rfl rfl k) ?_
  show own_H s₁ 1 #[.val (.ref a1), .unset, .unset, .unset, .unset] [(.ref a1)]
  obtain ⟨v1, T1, h1, L1, s, kw1, X1, N1, e1, hq1, S1, Wk1, hZ, hown, st1⟩ := own_callSX (y := (⟨"com/example/skipstitch/skipstitch/PartialMatchTable", "of", "([I)[I"⟩ : MethodName)) (W := 0) S0 W0 X0 N0 hx hZ hown (own_u hw 17 rfl) (own_u hw 18 rfl) (own_u hw 15 rfl) (own_u hw 19 rfl) (by decide) (own_of3 l Z a0 hw [] a1 k_1 p0 p1 p2 h0 n0 Z0 i_A1) (by decide) (by decide) (by decide) (by decide) e0 (pc := 1) (Ls := #[.val (.ref a1), .unset, .unset, .unset, .unset]) (st := [(.ref a1)]) (argsL := [(.ref a1)]) (rest := []) (by rw [hml]; rfl) (lenOf own_pd1 rfl) rfl rfl (Nat.le_of_eq rfl) (hb hby own_d3_1)
  obtain ⟨x1, kx1, rfl, K1, zf_x1, o1_0⟩ := hq1
  refine own_via st1 ?_
  have f3 := i_A1.ext (own_ke K1)
  have Kp4 := K0.trans K1 (fun x hx => nomatch hx)
  have Zs5 : n0 ≤ h1.size := Nat.le_trans Z0 K1.1
  show own_H T1 4 #[.val (.ref a1), .unset, .unset, .unset, .unset] [(.ref x1)]
  clear i_A1 K0
  refine own_via (fun t k => XS.astoreN X1.here hx rfl (hb hby own_d3_4) rfl rfl (l' := #[.val (.ref a1), .val (.ref x1), .unset, .unset, .unset]) rfl k) ?_
  refine own_via (fun t k => XS.aloadN X1.here hx rfl (hb hby own_d3_5) rfl rfl k) ?_
  show own_H T1 6 #[.val (.ref a1), .val (.ref x1), .unset, .unset, .unset] [(.ref a1)]
  refine own_via (own_len X1 hx hZ e1 f3 (pc := 6) (Ls := #[.val (.ref a1), .val (.ref x1), .unset, .unset, .unset]) (rest := []) (hb hby own_d3_6)) ?_
  show own_H T1 7 #[.val (.ref a1), .val (.ref x1), .unset, .unset, .unset] [(.int (3 : Int32))]
  refine own_via (fun t k => XS.iconst X1.here hx rfl (hb hby own_d3_7) k) ?_
  show own_H T1 8 #[.val (.ref a1), .val (.ref x1), .unset, .unset, .unset] [(.int (1 : Int32)), (.int (3 : Int32))]
  refine own_via (fun t k => XS.iadd X1.here hx rfl (hb hby own_d3_8) rfl k) ?_
  show own_H T1 9 #[.val (.ref a1), .val (.ref x1), .unset, .unset, .unset] [(.int (4 : Int32))]
  obtain ⟨T6, h6, k6, b6, X6, e6, E6, ga6, V6, Ex6, st6⟩ := own_newA X1 hx hZ (own_u hw 0 rfl) e1 (pc := 9) (Ls := #[.val (.ref a1), .val (.ref x1), .unset, .unset, .unset]) (rest := []) (hb hby own_d3_9) (n := (4 : Int32)) (by decide) (cap := 4) (by decide) (by decide) (by decide) (by decide) 4 rfl
  refine own_via st6 ?_
  have sz_b6 : h0.size ≤ b6 := Nat.le_trans Kp4.1 (Nat.le_of_eq ga6.symm)
  have ne7 : a1 ≠ b6 := Nat.ne_of_lt (Nat.lt_of_lt_of_le f3.lt (Nat.le_of_eq ga6.symm))
  have ne8 : x1 ≠ b6 := Nat.ne_of_lt (Nat.lt_of_lt_of_le o1_0.lt (Nat.le_of_eq ga6.symm))
  have f9 := f3.ext E6
  have f10 := o1_0.ext E6
  have Kp11 := Kp4.ext E6
  have f12 : Arv Z h6 b6 k6 .int (4 : Int32) [(.int (0 : Int32)), (.int (0 : Int32)), (.int (0 : Int32)), (.int (0 : Int32))] (.int (0 : Int32)) := V6
  have g_b6 : n0 ≤ b6 := Nat.le_trans Zs5 (Nat.le_of_eq ga6.symm)
  have Wk13 : kw1 ≤ h6.size := Nat.le_trans Wk1 E6.1
  show own_H T6 11 #[.val (.ref a1), .val (.ref x1), .unset, .unset, .unset] [(.ref b6)]
  clear f3 o1_0 Kp4 Zs5 Wk1
  refine own_via (fun t k => XS.astoreN X6.here hx rfl (hb hby own_d3_11) rfl rfl (l' := #[.val (.ref a1), .val (.ref x1), .val (.ref b6), .unset, .unset]) rfl k) ?_
  refine own_via (fun t k => XS.iconst X6.here hx rfl (hb hby own_d3_12) k) ?_
  show own_H T6 13 #[.val (.ref a1), .val (.ref x1), .val (.ref b6), .unset, .unset] [(.int (1 : Int32))]
  refine own_via (fun t k => XS.istoreN X6.here hx rfl (hb hby own_d3_13) rfl (l' := #[.val (.ref a1), .val (.ref x1), .val (.ref b6), .val (.int (1 : Int32)), .unset]) rfl k) ?_
  refine own_via (fun t k => XS.iloadN X6.here hx rfl (hb hby own_d3_14) rfl k) ?_
  refine own_via (fun t k => XS.aloadN X6.here hx rfl (hb hby own_d3_15) rfl rfl k) ?_
  show own_H T6 16 #[.val (.ref a1), .val (.ref x1), .val (.ref b6), .val (.int (1 : Int32)), .unset] [(.ref a1), (.int (1 : Int32))]
  refine own_via (own_len X6 hx hZ e6 f9 (pc := 16) (Ls := #[.val (.ref a1), .val (.ref x1), .val (.ref b6), .val (.int (1 : Int32)), .unset]) (rest := [(.int (1 : Int32))]) (hb hby own_d3_16)) ?_
  show own_H T6 17 #[.val (.ref a1), .val (.ref x1), .val (.ref b6), .val (.int (1 : Int32)), .unset] [(.int (3 : Int32)), (.int (1 : Int32))]
  refine own_via (fun t k => XS.icmpNo X6.here hx rfl (hb hby own_d3_17) rfl (tlt (by decide : (1 : Int32) < (3 : Int32))).2.1 k) ?_
  show own_H T6 20 #[.val (.ref a1), .val (.ref x1), .val (.ref b6), .val (.int (1 : Int32)), .unset] []
  refine own_via (fun t k => XS.aloadN X6.here hx rfl (hb hby own_d3_20) rfl rfl k) ?_
  refine own_via (fun t k => XS.iloadN X6.here hx rfl (hb hby own_d3_21) rfl k) ?_
  refine own_via (fun t k => XS.iconst X6.here hx rfl (hb hby own_d3_22) k) ?_
  show own_H T6 23 #[.val (.ref a1), .val (.ref x1), .val (.ref b6), .val (.int (1 : Int32)), .unset] [(.int (1 : Int32)), (.int (1 : Int32)), (.ref x1)]
  refine own_via (fun t k => XS.isub X6.here hx rfl (hb hby own_d3_23) rfl k) ?_
  show own_H T6 24 #[.val (.ref a1), .val (.ref x1), .val (.ref b6), .val (.int (1 : Int32)), .unset] [(.int (0 : Int32)), (.ref x1)]
  refine own_via (own_ldI X6 hx hZ e6 f10 (j := (0 : Int32)) ⟨by decide, by decide⟩ (v := (.int (0 : Int32))) rfl (pc := 24) (Ls := #[.val (.ref a1), .val (.ref x1), .val (.ref b6), .val (.int (1 : Int32)), .unset]) (rest := []) (hb hby own_d3_24)) ?_
  show own_H T6 25 #[.val (.ref a1), .val (.ref x1), .val (.ref b6), .val (.int (1 : Int32)), .unset] [(.int (0 : Int32))]
  refine own_via (fun t k => XS.istore X6.here hx rfl (hb hby own_d3_25) rfl (l' := #[.val (.ref a1), .val (.ref x1), .val (.ref b6), .val (.int (1 : Int32)), .val (.int (0 : Int32))]) rfl k) ?_
  refine own_via (fun t k => XS.aloadN X6.here hx rfl (hb hby own_d3_27) rfl rfl k) ?_
  refine own_via (fun t k => XS.iloadN X6.here hx rfl (hb hby own_d3_28) rfl k) ?_
  refine own_via (fun t k => XS.aloadN X6.here hx rfl (hb hby own_d3_29) rfl rfl k) ?_
  refine own_via (fun t k => XS.iload X6.here hx rfl (hb hby own_d3_30) rfl k) ?_
  show own_H T6 32 #[.val (.ref a1), .val (.ref x1), .val (.ref b6), .val (.int (1 : Int32)), .val (.int (0 : Int32))] [(.int (0 : Int32)), (.ref a1), (.int (1 : Int32)), (.ref b6)]
  refine own_via (own_ldI X6 hx hZ e6 f9 (j := (0 : Int32)) ⟨by decide, by decide⟩ (v := (.int p0)) rfl (pc := 32) (Ls := #[.val (.ref a1), .val (.ref x1), .val (.ref b6), .val (.int (1 : Int32)), .val (.int (0 : Int32))]) (rest := [(.int (1 : Int32)), (.ref b6)]) (hb hby own_d3_32)) ?_
  show own_H T6 33 #[.val (.ref a1), .val (.ref x1), .val (.ref b6), .val (.int (1 : Int32)), .val (.int (0 : Int32))] [(.int p0), (.int (1 : Int32)), (.ref b6)]
  refine own_via (fun t k => XS.aloadN X6.here hx rfl (hb hby own_d3_33) rfl rfl k) ?_
  refine own_via (fun t k => XS.iloadN X6.here hx rfl (hb hby own_d3_34) rfl k) ?_
  show own_H T6 35 #[.val (.ref a1), .val (.ref x1), .val (.ref b6), .val (.int (1 : Int32)), .val (.int (0 : Int32))] [(.int (1 : Int32)), (.ref a1), (.int p0), (.int (1 : Int32)), (.ref b6)]
  refine own_via (own_ldI X6 hx hZ e6 f9 (j := (1 : Int32)) ⟨by decide, by decide⟩ (v := (.int p1)) rfl (pc := 35) (Ls := #[.val (.ref a1), .val (.ref x1), .val (.ref b6), .val (.int (1 : Int32)), .val (.int (0 : Int32))]) (rest := [(.int p0), (.int (1 : Int32)), (.ref b6)]) (hb hby own_d3_35)) ?_
  show own_H T6 36 #[.val (.ref a1), .val (.ref x1), .val (.ref b6), .val (.int (1 : Int32)), .val (.int (0 : Int32))] [(.int p1), (.int p0), (.int (1 : Int32)), (.ref b6)]
  have J15 : ∀ (TJ15 : State) (XJ15 : Stand p l e own_fb3_R s m #[(.ref a1)] below meth c TJ15 L1 4 107) (EJ15 : TJ15.heap = h6) (_ : True), own_G p e below Pw (TJ15.setTop (mkF m 48 #[.val (.ref a1), .val (.ref x1), .val (.ref b6), .val (.int (1 : Int32)), .val (.int (0 : Int32))] [(.int (0 : Int32)), (.int (1 : Int32)), (.ref b6)])) := by
    intro TJ15 XJ15 EJ15 _
    obtain ⟨T16, h16, L16, X16, N16, e16, W16, V16, st16⟩ := own_stI XJ15 N1 hx hZ EJ15 f12 g_b6 (j := (1 : Int32)) (x := (0 : Int32)) (i := 1) ⟨by decide, by decide⟩ rfl (Nat.le_of_ble_eq_true rfl) (pc := 48) (Ls := #[.val (.ref a1), .val (.ref x1), .val (.ref b6), .val (.int (1 : Int32)), .val (.int (0 : Int32))]) (rest := []) (hb hby own_d3_48)
    refine own_via st16 ?_
    have f17 := f9.other W16 ne7
    have f18 := f10.other W16 ne8
    have Kp19 := Kp11.wr W16 (Or.inr sz_b6)
    have f20 : Arv Z h16 b6 k6 .int (4 : Int32) [(.int (0 : Int32)), (.int (0 : Int32)), (.int (0 : Int32)), (.int (0 : Int32))] (.int (0 : Int32)) := V16
    have Wk21 : kw1 ≤ h16.size := by rw [W16.size]; exact Wk13
    show own_H T16 49 #[.val (.ref a1), .val (.ref x1), .val (.ref b6), .val (.int (1 : Int32)), .val (.int (0 : Int32))] []
    clear f9 f10 f12 Kp11 Wk13
    refine own_via (fun t k => XS.iinc X16.here hx rfl (hb hby own_d3_49) rfl (l' := #[.val (.ref a1), .val (.ref x1), .val (.ref b6), .val (.int (2 : Int32)), .val (.int (0 : Int32))]) rfl k) ?_
    show own_H T16 52 #[.val (.ref a1), .val (.ref x1), .val (.ref b6), .val (.int (2 : Int32)), .val (.int (0 : Int32))] []
    refine own_via (fun t k => XS.goto X16.here hx rfl (pc0 := 52) (pc' := 14) rfl (hb hby own_d3_52) (by decide) (by decide) k) ?_
    refine own_via (fun t k => XS.iloadN X16.here hx rfl (hb hby own_d3_14) rfl k) ?_
    refine own_via (fun t k => XS.aloadN X16.here hx rfl (hb hby own_d3_15) rfl rfl k) ?_
    show own_H T16 16 #[.val (.ref a1), .val (.ref x1), .val (.ref b6), .val (.int (2 : Int32)), .val (.int (0 : Int32))] [(.ref a1), (.int (2 : Int32))]
    refine own_via (own_len X16 hx hZ e16 f17 (pc := 16) (Ls := #[.val (.ref a1), .val (.ref x1), .val (.ref b6), .val (.int (2 : Int32)), .val (.int (0 : Int32))]) (rest := [(.int (2 : Int32))]) (hb hby own_d3_16)) ?_
    show own_H T16 17 #[.val (.ref a1), .val (.ref x1), .val (.ref b6), .val (.int (2 : Int32)), .val (.int (0 : Int32))] [(.int (3 : Int32)), (.int (2 : Int32))]
    refine own_via (fun t k => XS.icmpNo X16.here hx rfl (hb hby own_d3_17) rfl (tlt (by decide : (2 : Int32) < (3 : Int32))).2.1 k) ?_
    show own_H T16 20 #[.val (.ref a1), .val (.ref x1), .val (.ref b6), .val (.int (2 : Int32)), .val (.int (0 : Int32))] []
    refine own_via (fun t k => XS.aloadN X16.here hx rfl (hb hby own_d3_20) rfl rfl k) ?_
    refine own_via (fun t k => XS.iloadN X16.here hx rfl (hb hby own_d3_21) rfl k) ?_
    refine own_via (fun t k => XS.iconst X16.here hx rfl (hb hby own_d3_22) k) ?_
    show own_H T16 23 #[.val (.ref a1), .val (.ref x1), .val (.ref b6), .val (.int (2 : Int32)), .val (.int (0 : Int32))] [(.int (1 : Int32)), (.int (2 : Int32)), (.ref x1)]
    refine own_via (fun t k => XS.isub X16.here hx rfl (hb hby own_d3_23) rfl k) ?_
    show own_H T16 24 #[.val (.ref a1), .val (.ref x1), .val (.ref b6), .val (.int (2 : Int32)), .val (.int (0 : Int32))] [(.int (1 : Int32)), (.ref x1)]
    refine own_via (own_ldI X16 hx hZ e16 f18 (j := (1 : Int32)) ⟨by decide, by decide⟩ (v := (.int (own_t1 p0 p1))) rfl (pc := 24) (Ls := #[.val (.ref a1), .val (.ref x1), .val (.ref b6), .val (.int (2 : Int32)), .val (.int (0 : Int32))]) (rest := []) (hb hby own_d3_24)) ?_
    show own_H T16 25 #[.val (.ref a1), .val (.ref x1), .val (.ref b6), .val (.int (2 : Int32)), .val (.int (0 : Int32))] [(.int (own_t1 p0 p1))]
    refine own_via (fun t k => XS.istore X16.here hx rfl (hb hby own_d3_25) rfl (l' := #[.val (.ref a1), .val (.ref x1), .val (.ref b6), .val (.int (2 : Int32)), .val (.int (own_t1 p0 p1))]) rfl k) ?_
    refine own_via (fun t k => XS.aloadN X16.here hx rfl (hb hby own_d3_27) rfl rfl k) ?_
    refine own_via (fun t k => XS.iloadN X16.here hx rfl (hb hby own_d3_28) rfl k) ?_
    refine own_via (fun t k => XS.aloadN X16.here hx rfl (hb hby own_d3_29) rfl rfl k) ?_
    refine own_via (fun t k => XS.iload X16.here hx rfl (hb hby own_d3_30) rfl k) ?_
    show own_H T16 32 #[.val (.ref a1), .val (.ref x1), .val (.ref b6), .val (.int (2 : Int32)), .val (.int (own_t1 p0 p1))] [(.int (own_t1 p0 p1)), (.ref a1), (.int (2 : Int32)), (.ref b6)]
    refine own_via (own_ldS (L := ([p0, p1, p2] : List Int32)) X16 hx hZ e16 f17 (j := (own_t1 p0 p1)) (own_in2 (L := ([p0, p1, p2] : List Int32)) (z := (3 : Int32)) (own_t1r p0 p1) (by decide) (Nat.le_of_ble_eq_true rfl)).1 (pc := 32) (Ls := #[.val (.ref a1), .val (.ref x1), .val (.ref b6), .val (.int (2 : Int32)), .val (.int (own_t1 p0 p1))]) (rest := [(.int (2 : Int32)), (.ref b6)]) (hb hby own_d3_32)) ?_
    show own_H T16 33 #[.val (.ref a1), .val (.ref x1), .val (.ref b6), .val (.int (2 : Int32)), .val (.int (own_t1 p0 p1))] [(.int (own_get ([p0, p1, p2] : List Int32) (own_t1 p0 p1))), (.int (2 : Int32)), (.ref b6)]
    refine own_via (fun t k => XS.aloadN X16.here hx rfl (hb hby own_d3_33) rfl rfl k) ?_
    refine own_via (fun t k => XS.iloadN X16.here hx rfl (hb hby own_d3_34) rfl k) ?_
    show own_H T16 35 #[.val (.ref a1), .val (.ref x1), .val (.ref b6), .val (.int (2 : Int32)), .val (.int (own_t1 p0 p1))] [(.int (2 : Int32)), (.ref a1), (.int (own_get ([p0, p1, p2] : List Int32) (own_t1 p0 p1))), (.int (2 : Int32)), (.ref b6)]
    refine own_via (own_ldI X16 hx hZ e16 f17 (j := (2 : Int32)) ⟨by decide, by decide⟩ (v := (.int p2)) rfl (pc := 35) (Ls := #[.val (.ref a1), .val (.ref x1), .val (.ref b6), .val (.int (2 : Int32)), .val (.int (own_t1 p0 p1))]) (rest := [(.int (own_get ([p0, p1, p2] : List Int32) (own_t1 p0 p1))), (.int (2 : Int32)), (.ref b6)]) (hb hby own_d3_35)) ?_
    show own_H T16 36 #[.val (.ref a1), .val (.ref x1), .val (.ref b6), .val (.int (2 : Int32)), .val (.int (own_t1 p0 p1))] [(.int p2), (.int (own_get ([p0, p1, p2] : List Int32) (own_t1 p0 p1))), (.int (2 : Int32)), (.ref b6)]
    have J23 : ∀ (TJ23 : State) (XJ23 : Stand p l e own_fb3_R s m #[(.ref a1)] below meth c TJ23 L16 4 107) (EJ23 : TJ23.heap = h16) (zj24 : Int32), zj24 = (if (own_get ([p0, p1, p2] : List Int32) (own_t1 p0 p1)) = p2 then (own_get ([(0 : Int32), (0 : Int32), (0 : Int32), (0 : Int32)] : List Int32) (own_t1 p0 p1)) else (own_t1 p0 p1)) → own_G p e below Pw (TJ23.setTop (mkF m 48 #[.val (.ref a1), .val (.ref x1), .val (.ref b6), .val (.int (2 : Int32)), .val (.int (own_t1 p0 p1))] [(.int zj24), (.int (2 : Int32)), (.ref b6)])) := by
      intro TJ23 XJ23 EJ23 zj24 hzj24
      obtain ⟨T25, h25, L25, X25, N25, e25, W25, V25, st25⟩ := own_stI XJ23 N16 hx hZ EJ23 f20 g_b6 (j := (2 : Int32)) (x := zj24) (i := 2) ⟨by decide, by decide⟩ rfl (Nat.le_of_ble_eq_true rfl) (pc := 48) (Ls := #[.val (.ref a1), .val (.ref x1), .val (.ref b6), .val (.int (2 : Int32)), .val (.int (own_t1 p0 p1))]) (rest := []) (hb hby own_d3_48)
      refine own_via st25 ?_
      have f26 := f17.other W25 ne7
      have f27 := f18.other W25 ne8
      have Kp28 := Kp19.wr W25 (Or.inr sz_b6)
      have f29 : Arv Z h25 b6 k6 .int (4 : Int32) [(.int (0 : Int32)), (.int (0 : Int32)), (.int zj24), (.int (0 : Int32))] (.int (0 : Int32)) := V25
      have Wk30 : kw1 ≤ h25.size := by rw [W25.size]; exact Wk21
      show own_H T25 49 #[.val (.ref a1), .val (.ref x1), .val (.ref b6), .val (.int (2 : Int32)), .val (.int (own_t1 p0 p1))] []
      clear f17 f18 f20 Kp19 Wk21
      refine own_via (fun t k => XS.iinc X25.here hx rfl (hb hby own_d3_49) rfl (l' := #[.val (.ref a1), .val (.ref x1), .val (.ref b6), .val (.int (3 : Int32)), .val (.int (own_t1 p0 p1))]) rfl k) ?_
      show own_H T25 52 #[.val (.ref a1), .val (.ref x1), .val (.ref b6), .val (.int (3 : Int32)), .val (.int (own_t1 p0 p1))] []
      refine own_via (fun t k => XS.goto X25.here hx rfl (pc0 := 52) (pc' := 14) rfl (hb hby own_d3_52) (by decide) (by decide) k) ?_
      refine own_via (fun t k => XS.iloadN X25.here hx rfl (hb hby own_d3_14) rfl k) ?_
      refine own_via (fun t k => XS.aloadN X25.here hx rfl (hb hby own_d3_15) rfl rfl k) ?_
      show own_H T25 16 #[.val (.ref a1), .val (.ref x1), .val (.ref b6), .val (.int (3 : Int32)), .val (.int (own_t1 p0 p1))] [(.ref a1), (.int (3 : Int32))]
      refine own_via (own_len X25 hx hZ e25 f26 (pc := 16) (Ls := #[.val (.ref a1), .val (.ref x1), .val (.ref b6), .val (.int (3 : Int32)), .val (.int (own_t1 p0 p1))]) (rest := [(.int (3 : Int32))]) (hb hby own_d3_16)) ?_
      show own_H T25 17 #[.val (.ref a1), .val (.ref x1), .val (.ref b6), .val (.int (3 : Int32)), .val (.int (own_t1 p0 p1))] [(.int (3 : Int32)), (.int (3 : Int32))]
      refine own_via (fun t k => XS.icmpYes X25.here hx rfl (pc0 := 17) (pc' := 55) rfl (hb hby own_d3_17) rfl (flt (by decide : ¬ ((3 : Int32) < (3 : Int32)))).2.1 (by decide) (by decide) k) ?_
      show own_H T25 55 #[.val (.ref a1), .val (.ref x1), .val (.ref b6), .val (.int (3 : Int32)), .val (.int (own_t1 p0 p1))] []
      refine own_via (fun t k => XS.aloadN X25.here hx rfl (hb hby own_d3_55) rfl rfl k) ?_
      refine own_via (fun t k => XS.aloadN X25.here hx rfl (hb hby own_d3_56) rfl rfl k) ?_
      show own_H T25 57 #[.val (.ref a1), .val (.ref x1), .val (.ref b6), .val (.int (3 : Int32)), .val (.int (own_t1 p0 p1))] [(.ref a1), (.ref b6)]
      refine own_via (own_len X25 hx hZ e25 f26 (pc := 57) (Ls := #[.val (.ref a1), .val (.ref x1), .val (.ref b6), .val (.int (3 : Int32)), .val (.int (own_t1 p0 p1))]) (rest := [(.ref b6)]) (hb hby own_d3_57)) ?_
      show own_H T25 58 #[.val (.ref a1), .val (.ref x1), .val (.ref b6), .val (.int (3 : Int32)), .val (.int (own_t1 p0 p1))] [(.int (3 : Int32)), (.ref b6)]
      refine own_via (fun t k => XS.aloadN X25.here hx rfl (hb hby own_d3_58) rfl rfl k) ?_
      refine own_via (fun t k => XS.aloadN X25.here hx rfl (hb hby own_d3_59) rfl rfl k) ?_
      show own_H T25 60 #[.val (.ref a1), .val (.ref x1), .val (.ref b6), .val (.int (3 : Int32)), .val (.int (own_t1 p0 p1))] [(.ref a1), (.ref x1), (.int (3 : Int32)), (.ref b6)]
      refine own_via (own_len X25 hx hZ e25 f26 (pc := 60) (Ls := #[.val (.ref a1), .val (.ref x1), .val (.ref b6), .val (.int (3 : Int32)), .val (.int (own_t1 p0 p1))]) (rest := [(.ref x1), (.int (3 : Int32)), (.ref b6)]) (hb hby own_d3_60)) ?_
      show own_H T25 61 #[.val (.ref a1), .val (.ref x1), .val (.ref b6), .val (.int (3 : Int32)), .val (.int (own_t1 p0 p1))] [(.int (3 : Int32)), (.ref x1), (.int (3 : Int32)), (.ref b6)]
      refine own_via (fun t k => XS.iconst X25.here hx rfl (hb hby own_d3_61) k) ?_
      show own_H T25 62 #[.val (.ref a1), .val (.ref x1), .val (.ref b6), .val (.int (3 : Int32)), .val (.int (own_t1 p0 p1))] [(.int (1 : Int32)), (.int (3 : Int32)), (.ref x1), (.int (3 : Int32)), (.ref b6)]
      refine own_via (fun t k => XS.isub X25.here hx rfl (hb hby own_d3_62) rfl k) ?_
      show own_H T25 63 #[.val (.ref a1), .val (.ref x1), .val (.ref b6), .val (.int (3 : Int32)), .val (.int (own_t1 p0 p1))] [(.int (2 : Int32)), (.ref x1), (.int (3 : Int32)), (.ref b6)]
      refine own_via (own_ldI X25 hx hZ e25 f27 (j := (2 : Int32)) ⟨by decide, by decide⟩ (v := (.int (own_t2 p0 p1 p2))) rfl (pc := 63) (Ls := #[.val (.ref a1), .val (.ref x1), .val (.ref b6), .val (.int (3 : Int32)), .val (.int (own_t1 p0 p1))]) (rest := [(.int (3 : Int32)), (.ref b6)]) (hb hby own_d3_63)) ?_
      show own_H T25 64 #[.val (.ref a1), .val (.ref x1), .val (.ref b6), .val (.int (3 : Int32)), .val (.int (own_t1 p0 p1))] [(.int (own_t2 p0 p1 p2)), (.int (3 : Int32)), (.ref b6)]
      obtain ⟨T32, h32, L32, X32, N32, e32, W32, V32, st32⟩ := own_stI X25 N25 hx hZ e25 f29 g_b6 (j := (3 : Int32)) (x := (own_t2 p0 p1 p2)) (i := 3) ⟨by decide, by decide⟩ rfl (Nat.le_of_ble_eq_true rfl) (pc := 64) (Ls := #[.val (.ref a1), .val (.ref x1), .val (.ref b6), .val (.int (3 : Int32)), .val (.int (own_t1 p0 p1))]) (rest := []) (hb hby own_d3_64)
      refine own_via st32 ?_
      have Kp35 := Kp28.wr W32 (Or.inr sz_b6)
      have f36 : Arv Z h32 b6 k6 .int (4 : Int32) [(.int (0 : Int32)), (.int (0 : Int32)), (.int zj24), (.int (own_t2 p0 p1 p2))] (.int (0 : Int32)) := V32
      have Wk37 : kw1 ≤ h32.size := by rw [W32.size]; exact Wk30
      show own_H T32 65 #[.val (.ref a1), .val (.ref x1), .val (.ref b6), .val (.int (3 : Int32)), .val (.int (own_t1 p0 p1))] []
      clear f26 f27 f29 Kp28 Wk30
      refine own_via (fun t k => XS.aloadN X32.here hx rfl (hb hby own_d3_65) rfl rfl k) ?_
      show own_H T32 66 #[.val (.ref a1), .val (.ref x1), .val (.ref b6), .val (.int (3 : Int32)), .val (.int (own_t1 p0 p1))] [(.ref b6)]
      subst hzj24
      rw [hPw]
      refine own_wide S1 ?_
      exact own_retA X32 hx Bd.returns rfl rfl Bd.notSynchronized (hb hby own_d3_66) (by rw [e32]; exact ⟨⟨N32, b6, k6, rfl, Kp35, sz_b6, f36⟩, Wk37⟩) (by decide) (by decide)
    by_cases hc39 : (own_get ([p0, p1, p2] : List Int32) (own_t1 p0 p1)) = p2
    ·
      refine own_via (fun t k => XS.icmpNo X16.here hx rfl (hb hby own_d3_36) rfl (teq hc39).2 k) ?_
      show own_H T16 39 #[.val (.ref a1), .val (.ref x1), .val (.ref b6), .val (.int (2 : Int32)), .val (.int (own_t1 p0 p1))] [(.int (2 : Int32)), (.ref b6)]
      refine own_via (fun t k => XS.aloadN X16.here hx rfl (hb hby own_d3_39) rfl rfl k) ?_
      show own_H T16 40 #[.val (.ref a1), .val (.ref x1), .val (.ref b6), .val (.int (2 : Int32)), .val (.int (own_t1 p0 p1))] [(.ref b6), (.int (2 : Int32)), (.ref b6)]
      refine own_via (fun t k => XS.iload X16.here hx rfl (hb hby own_d3_40) rfl k) ?_
      show own_H T16 42 #[.val (.ref a1), .val (.ref x1), .val (.ref b6), .val (.int (2 : Int32)), .val (.int (own_t1 p0 p1))] [(.int (own_t1 p0 p1)), (.ref b6), (.int (2 : Int32)), (.ref b6)]
      refine own_via (own_ldS (L := ([(0 : Int32), (0 : Int32), (0 : Int32), (0 : Int32)] : List Int32)) X16 hx hZ e16 f20 (j := (own_t1 p0 p1)) (own_in2 (L := ([(0 : Int32), (0 : Int32), (0 : Int32), (0 : Int32)] : List Int32)) (z := (4 : Int32)) (own_t1r p0 p1) (by decide) (Nat.le_of_ble_eq_true rfl)).1 (pc := 42) (Ls := #[.val (.ref a1), .val (.ref x1), .val (.ref b6), .val (.int (2 : Int32)), .val (.int (own_t1 p0 p1))]) (rest := [(.int (2 : Int32)), (.ref b6)]) (hb hby own_d3_42)) ?_
      show own_H T16 43 #[.val (.ref a1), .val (.ref x1), .val (.ref b6), .val (.int (2 : Int32)), .val (.int (own_t1 p0 p1))] [(.int (own_get ([(0 : Int32), (0 : Int32), (0 : Int32), (0 : Int32)] : List Int32) (own_t1 p0 p1))), (.int (2 : Int32)), (.ref b6)]
      refine own_via (fun t k => XS.goto X16.here hx rfl (pc0 := 43) (pc' := 48) rfl (hb hby own_d3_43) (by decide) (by decide) k) ?_
      show own_H T16 48 #[.val (.ref a1), .val (.ref x1), .val (.ref b6), .val (.int (2 : Int32)), .val (.int (own_t1 p0 p1))] [(.int (own_get ([(0 : Int32), (0 : Int32), (0 : Int32), (0 : Int32)] : List Int32) (own_t1 p0 p1))), (.int (2 : Int32)), (.ref b6)]
      exact J23 _ X16 e16 _ (by simp only [if_pos hc39])
    ·
      refine own_via (fun t k => XS.icmpYes X16.here hx rfl (pc0 := 36) (pc' := 46) rfl (hb hby own_d3_36) rfl (feq hc39).2 (by decide) (by decide) k) ?_
      show own_H T16 46 #[.val (.ref a1), .val (.ref x1), .val (.ref b6), .val (.int (2 : Int32)), .val (.int (own_t1 p0 p1))] [(.int (2 : Int32)), (.ref b6)]
      refine own_via (fun t k => XS.iload X16.here hx rfl (hb hby own_d3_46) rfl k) ?_
      show own_H T16 48 #[.val (.ref a1), .val (.ref x1), .val (.ref b6), .val (.int (2 : Int32)), .val (.int (own_t1 p0 p1))] [(.int (own_t1 p0 p1)), (.int (2 : Int32)), (.ref b6)]
      exact J23 _ X16 e16 _ (by simp only [if_neg hc39])
  by_cases hc40 : p0 = p1
  ·
    refine own_via (fun t k => XS.icmpNo X6.here hx rfl (hb hby own_d3_36) rfl (teq hc40).2 k) ?_
    show own_H T6 39 #[.val (.ref a1), .val (.ref x1), .val (.ref b6), .val (.int (1 : Int32)), .val (.int (0 : Int32))] [(.int (1 : Int32)), (.ref b6)]
    refine own_via (fun t k => XS.aloadN X6.here hx rfl (hb hby own_d3_39) rfl rfl k) ?_
    show own_H T6 40 #[.val (.ref a1), .val (.ref x1), .val (.ref b6), .val (.int (1 : Int32)), .val (.int (0 : Int32))] [(.ref b6), (.int (1 : Int32)), (.ref b6)]
    refine own_via (fun t k => XS.iload X6.here hx rfl (hb hby own_d3_40) rfl k) ?_
    show own_H T6 42 #[.val (.ref a1), .val (.ref x1), .val (.ref b6), .val (.int (1 : Int32)), .val (.int (0 : Int32))] [(.int (0 : Int32)), (.ref b6), (.int (1 : Int32)), (.ref b6)]
    refine own_via (own_ldI X6 hx hZ e6 f12 (j := (0 : Int32)) ⟨by decide, by decide⟩ (v := (.int (0 : Int32))) rfl (pc := 42) (Ls := #[.val (.ref a1), .val (.ref x1), .val (.ref b6), .val (.int (1 : Int32)), .val (.int (0 : Int32))]) (rest := [(.int (1 : Int32)), (.ref b6)]) (hb hby own_d3_42)) ?_
    show own_H T6 43 #[.val (.ref a1), .val (.ref x1), .val (.ref b6), .val (.int (1 : Int32)), .val (.int (0 : Int32))] [(.int (0 : Int32)), (.int (1 : Int32)), (.ref b6)]
    refine own_via (fun t k => XS.goto X6.here hx rfl (pc0 := 43) (pc' := 48) rfl (hb hby own_d3_43) (by decide) (by decide) k) ?_
    show own_H T6 48 #[.val (.ref a1), .val (.ref x1), .val (.ref b6), .val (.int (1 : Int32)), .val (.int (0 : Int32))] [(.int (0 : Int32)), (.int (1 : Int32)), (.ref b6)]
    exact J15 _ X6 e6 trivial
  ·
    refine own_via (fun t k => XS.icmpYes X6.here hx rfl (pc0 := 36) (pc' := 46) rfl (hb hby own_d3_36) rfl (feq hc40).2 (by decide) (by decide) k) ?_
    show own_H T6 46 #[.val (.ref a1), .val (.ref x1), .val (.ref b6), .val (.int (1 : Int32)), .val (.int (0 : Int32))] [(.int (1 : Int32)), (.ref b6)]
    refine own_via (fun t k => XS.iload X6.here hx rfl (hb hby own_d3_46) rfl k) ?_
    show own_H T6 48 #[.val (.ref a1), .val (.ref x1), .val (.ref b6), .val (.int (1 : Int32)), .val (.int (0 : Int32))] [(.int (0 : Int32)), (.int (1 : Int32)), (.ref b6)]
    exact J15 _ X6 e6 trivial
def own_FB4 (p0 p1 p2 p3 : Int32) : List Int32 := [(0 : Int32), (0 : Int32), ((if (own_get ([p0, p1, p2, p3] : List Int32) (own_t1 p0 p1)) = p2 then (own_get ([(0 : Int32), (0 : Int32), (0 : Int32), (0 : Int32), (0 : Int32)] : List Int32) (own_t1 p0 p1)) else (own_t1 p0 p1))), ((if (own_get ([p0, p1, p2, p3] : List Int32) (own_t2 p0 p1 p2)) = p3 then (own_get ([(0 : Int32), (0 : Int32), ((if (own_get ([p0, p1, p2, p3] : List Int32) (own_t1 p0 p1)) = p2 then (own_get ([(0 : Int32), (0 : Int32), (0 : Int32), (0 : Int32), (0 : Int32)] : List Int32) (own_t1 p0 p1)) else (own_t1 p0 p1))), (0 : Int32), (0 : Int32)] : List Int32) (own_t2 p0 p1 p2)) else (own_t2 p0 p1 p2))), (own_t3 p0 p1 p2 p3)]
abbrev own_fb4_R : Room := { frames := 2, cells := 4, slots := 109, locals := 28 }
theorem own_fb4_ef (m : MethodId) (a1 : Addr) : entryFrame m #[(.ref a1)] 5 = mkF m 0 #[.val (.ref a1), .unset, .unset, .unset, .unset] [] := by first | (simp [entryFrame, mkF, argsToLocals, Value.category]; done) | rfl
def own_fb4_q (Z : State) (a1 : Addr) (k_1 : ClassId) (p0 : Int32) (p1 : Int32) (p2 : Int32) (p3 : Int32) (h0 : Heap) (v : Option Value) (h : Heap) : Prop := ∃ (x : Addr) (kx : ClassId), v = some (.ref x) ∧ Keep h0 h [] ∧ h0.size ≤ x ∧ Arv Z h x kx .int (5 : Int32) ((own_FB4 p0 p1 p2 p3).map Value.int) (.int (0 : Int32))
set_option maxRecDepth 65536 in
set_option maxHeartbeats 40000000 in
theorem own_fb4 (l : Launch) (Z : State) (a0 : Array Value) (hw : ∀ d ∈ tables_1, d.before a0 Z = true) (ws : List Jvm.Cond) (a1 : Addr) (k_1 : ClassId) (p0 : Int32) (p1 : Int32) (p2 : Int32) (p3 : Int32) (h0 : Heap) (n0 : Nat) (Z0 : n0 ≤ h0.size) (i_A1 : Arv Z h0 a1 k_1 .int (4 : Int32) [(.int p0), (.int p1), (.int p2), (.int p3)] (.int (0 : Int32))) :
    own_CW l Z (⟨"com/example/skipstitch/skipstitch/PartialMatchTable", "fallbacksOf", "([I)[I"⟩ : MethodName) prog_9_method_3_code 5 (some (.array .int)) ws own_fb4_R #[(.ref a1)] h0 (own_W n0 (own_fb4_q Z a1 k_1 p0 p1 p2 p3 h0)) := by
  refine MetFree.of_bodySF own_pn3 hisR ?_
  intro p e s m args below meth c s₁ Bd hml0 hP hK
  obtain ⟨rfl, hZ, hh⟩ := hP
  have hx := Bd.exec
  have hby := Bd.bytes
  have hml : c.maxLocals = 5 := hml0
  have hown : s.vm.findClass "com/example/skipstitch/skipstitch/PartialMatchTable" = some m.cls := findClass_of_methodNamed Bd.named
  have hnm := (name_of_methodNamed Bd.named Bd.method).1
  have X0 : Stand p l e own_fb4_R s m #[(.ref a1)] below meth c s₁ [] 0 0 := Stand.of_body Bd
  have e0 : s₁.heap = h0 := by rw [← hh, Bd.state]; rfl
  have N0 := Fr.nil n0
  have K0 : Keep h0 h0 [] := Keep.refl h0 _
  have S0 := own_S0 s
  have W0 : 0 ≤ h0.size := Nat.zero_le _
  obtain ⟨Pw, hPw⟩ : ∃ P, P = (own_PW s (own_W n0 (own_fb4_q Z a1 k_1 p0 p1 p2 p3 h0)) own_fb4_R.cells own_fb4_R.slots) := ⟨_, rfl⟩
  show own_G p e below (own_PW s (own_W n0 (own_fb4_q Z a1 k_1 p0 p1 p2 p3 h0)) own_fb4_R.cells own_fb4_R.slots) (s₁.setTop (entryFrame m #[(.ref a1)] 5))
  rw [← hPw]
  rw [own_fb4_ef m a1]
  show own_H s₁ 0 #[.val (.ref a1), .unset, .unset, .unset, .unset] []
  refine own_via (fun t k => XS.aloadN X0.here hx rfl (hb hby own_d3_0) rfl rfl k) ?_
  show own_H s₁ 1 #[.val (.ref a1), .unset, .unset, .unset, .unset] [(.ref a1)]
  obtain ⟨v1, T1, h1, L1, s, kw1, X1, N1, e1, hq1, S1, Wk1, hZ, hown, st1⟩ := own_callSX (y := (⟨"com/example/skipstitch/skipstitch/PartialMatchTable", "of", "([I)[I"⟩ : MethodName)) (W := 0) S0 W0 X0 N0 hx hZ hown (own_u hw 17 rfl) (own_u hw 18 rfl) (own_u hw 15 rfl) (own_u hw 19 rfl) (by decide) (own_of4 l Z a0 hw [] a1 k_1 p0 p1 p2 p3 h0 n0 Z0 i_A1) (by decide) (by decide) (by decide) (by decide) e0 (pc := 1) (Ls := #[.val (.ref a1), .unset, .unset, .unset, .unset]) (st := [(.ref a1)]) (argsL := [(.ref a1)]) (rest := []) (by rw [hml]; rfl) (lenOf own_pd1 rfl) rfl rfl (Nat.le_of_eq rfl) (hb hby own_d3_1)
  obtain ⟨x1, kx1, rfl, K1, zf_x1, o1_0⟩ := hq1
  refine own_via st1 ?_
  have f3 := i_A1.ext (own_ke K1)
  have Kp4 := K0.trans K1 (fun x hx => nomatch hx)
  have Zs5 : n0 ≤ h1.size := Nat.le_trans Z0 K1.1
  show own_H T1 4 #[.val (.ref a1), .unset, .unset, .unset, .unset] [(.ref x1)]
  clear i_A1 K0
  refine own_via (fun t k => XS.astoreN X1.here hx rfl (hb hby own_d3_4) rfl rfl (l' := #[.val (.ref a1), .val (.ref x1), .unset, .unset, .unset]) rfl k) ?_
  refine own_via (fun t k => XS.aloadN X1.here hx rfl (hb hby own_d3_5) rfl rfl k) ?_
  show own_H T1 6 #[.val (.ref a1), .val (.ref x1), .unset, .unset, .unset] [(.ref a1)]
  refine own_via (own_len X1 hx hZ e1 f3 (pc := 6) (Ls := #[.val (.ref a1), .val (.ref x1), .unset, .unset, .unset]) (rest := []) (hb hby own_d3_6)) ?_
  show own_H T1 7 #[.val (.ref a1), .val (.ref x1), .unset, .unset, .unset] [(.int (4 : Int32))]
  refine own_via (fun t k => XS.iconst X1.here hx rfl (hb hby own_d3_7) k) ?_
  show own_H T1 8 #[.val (.ref a1), .val (.ref x1), .unset, .unset, .unset] [(.int (1 : Int32)), (.int (4 : Int32))]
  refine own_via (fun t k => XS.iadd X1.here hx rfl (hb hby own_d3_8) rfl k) ?_
  show own_H T1 9 #[.val (.ref a1), .val (.ref x1), .unset, .unset, .unset] [(.int (5 : Int32))]
  obtain ⟨T6, h6, k6, b6, X6, e6, E6, ga6, V6, Ex6, st6⟩ := own_newA X1 hx hZ (own_u hw 0 rfl) e1 (pc := 9) (Ls := #[.val (.ref a1), .val (.ref x1), .unset, .unset, .unset]) (rest := []) (hb hby own_d3_9) (n := (5 : Int32)) (by decide) (cap := 5) (by decide) (by decide) (by decide) (by decide) 5 rfl
  refine own_via st6 ?_
  have sz_b6 : h0.size ≤ b6 := Nat.le_trans Kp4.1 (Nat.le_of_eq ga6.symm)
  have ne7 : a1 ≠ b6 := Nat.ne_of_lt (Nat.lt_of_lt_of_le f3.lt (Nat.le_of_eq ga6.symm))
  have ne8 : x1 ≠ b6 := Nat.ne_of_lt (Nat.lt_of_lt_of_le o1_0.lt (Nat.le_of_eq ga6.symm))
  have f9 := f3.ext E6
  have f10 := o1_0.ext E6
  have Kp11 := Kp4.ext E6
  have f12 : Arv Z h6 b6 k6 .int (5 : Int32) [(.int (0 : Int32)), (.int (0 : Int32)), (.int (0 : Int32)), (.int (0 : Int32)), (.int (0 : Int32))] (.int (0 : Int32)) := V6
  have g_b6 : n0 ≤ b6 := Nat.le_trans Zs5 (Nat.le_of_eq ga6.symm)
  have Wk13 : kw1 ≤ h6.size := Nat.le_trans Wk1 E6.1
  show own_H T6 11 #[.val (.ref a1), .val (.ref x1), .unset, .unset, .unset] [(.ref b6)]
  clear f3 o1_0 Kp4 Zs5 Wk1
  refine own_via (fun t k => XS.astoreN X6.here hx rfl (hb hby own_d3_11) rfl rfl (l' := #[.val (.ref a1), .val (.ref x1), .val (.ref b6), .unset, .unset]) rfl k) ?_
  refine own_via (fun t k => XS.iconst X6.here hx rfl (hb hby own_d3_12) k) ?_
  show own_H T6 13 #[.val (.ref a1), .val (.ref x1), .val (.ref b6), .unset, .unset] [(.int (1 : Int32))]
  refine own_via (fun t k => XS.istoreN X6.here hx rfl (hb hby own_d3_13) rfl (l' := #[.val (.ref a1), .val (.ref x1), .val (.ref b6), .val (.int (1 : Int32)), .unset]) rfl k) ?_
  refine own_via (fun t k => XS.iloadN X6.here hx rfl (hb hby own_d3_14) rfl k) ?_
  refine own_via (fun t k => XS.aloadN X6.here hx rfl (hb hby own_d3_15) rfl rfl k) ?_
  show own_H T6 16 #[.val (.ref a1), .val (.ref x1), .val (.ref b6), .val (.int (1 : Int32)), .unset] [(.ref a1), (.int (1 : Int32))]
  refine own_via (own_len X6 hx hZ e6 f9 (pc := 16) (Ls := #[.val (.ref a1), .val (.ref x1), .val (.ref b6), .val (.int (1 : Int32)), .unset]) (rest := [(.int (1 : Int32))]) (hb hby own_d3_16)) ?_
  show own_H T6 17 #[.val (.ref a1), .val (.ref x1), .val (.ref b6), .val (.int (1 : Int32)), .unset] [(.int (4 : Int32)), (.int (1 : Int32))]
  refine own_via (fun t k => XS.icmpNo X6.here hx rfl (hb hby own_d3_17) rfl (tlt (by decide : (1 : Int32) < (4 : Int32))).2.1 k) ?_
  show own_H T6 20 #[.val (.ref a1), .val (.ref x1), .val (.ref b6), .val (.int (1 : Int32)), .unset] []
  refine own_via (fun t k => XS.aloadN X6.here hx rfl (hb hby own_d3_20) rfl rfl k) ?_
  refine own_via (fun t k => XS.iloadN X6.here hx rfl (hb hby own_d3_21) rfl k) ?_
  refine own_via (fun t k => XS.iconst X6.here hx rfl (hb hby own_d3_22) k) ?_
  show own_H T6 23 #[.val (.ref a1), .val (.ref x1), .val (.ref b6), .val (.int (1 : Int32)), .unset] [(.int (1 : Int32)), (.int (1 : Int32)), (.ref x1)]
  refine own_via (fun t k => XS.isub X6.here hx rfl (hb hby own_d3_23) rfl k) ?_
  show own_H T6 24 #[.val (.ref a1), .val (.ref x1), .val (.ref b6), .val (.int (1 : Int32)), .unset] [(.int (0 : Int32)), (.ref x1)]
  refine own_via (own_ldI X6 hx hZ e6 f10 (j := (0 : Int32)) ⟨by decide, by decide⟩ (v := (.int (0 : Int32))) rfl (pc := 24) (Ls := #[.val (.ref a1), .val (.ref x1), .val (.ref b6), .val (.int (1 : Int32)), .unset]) (rest := []) (hb hby own_d3_24)) ?_
  show own_H T6 25 #[.val (.ref a1), .val (.ref x1), .val (.ref b6), .val (.int (1 : Int32)), .unset] [(.int (0 : Int32))]
  refine own_via (fun t k => XS.istore X6.here hx rfl (hb hby own_d3_25) rfl (l' := #[.val (.ref a1), .val (.ref x1), .val (.ref b6), .val (.int (1 : Int32)), .val (.int (0 : Int32))]) rfl k) ?_
  refine own_via (fun t k => XS.aloadN X6.here hx rfl (hb hby own_d3_27) rfl rfl k) ?_
  refine own_via (fun t k => XS.iloadN X6.here hx rfl (hb hby own_d3_28) rfl k) ?_
  refine own_via (fun t k => XS.aloadN X6.here hx rfl (hb hby own_d3_29) rfl rfl k) ?_
  refine own_via (fun t k => XS.iload X6.here hx rfl (hb hby own_d3_30) rfl k) ?_
  show own_H T6 32 #[.val (.ref a1), .val (.ref x1), .val (.ref b6), .val (.int (1 : Int32)), .val (.int (0 : Int32))] [(.int (0 : Int32)), (.ref a1), (.int (1 : Int32)), (.ref b6)]
  refine own_via (own_ldI X6 hx hZ e6 f9 (j := (0 : Int32)) ⟨by decide, by decide⟩ (v := (.int p0)) rfl (pc := 32) (Ls := #[.val (.ref a1), .val (.ref x1), .val (.ref b6), .val (.int (1 : Int32)), .val (.int (0 : Int32))]) (rest := [(.int (1 : Int32)), (.ref b6)]) (hb hby own_d3_32)) ?_
  show own_H T6 33 #[.val (.ref a1), .val (.ref x1), .val (.ref b6), .val (.int (1 : Int32)), .val (.int (0 : Int32))] [(.int p0), (.int (1 : Int32)), (.ref b6)]
  refine own_via (fun t k => XS.aloadN X6.here hx rfl (hb hby own_d3_33) rfl rfl k) ?_
  refine own_via (fun t k => XS.iloadN X6.here hx rfl (hb hby own_d3_34) rfl k) ?_
  show own_H T6 35 #[.val (.ref a1), .val (.ref x1), .val (.ref b6), .val (.int (1 : Int32)), .val (.int (0 : Int32))] [(.int (1 : Int32)), (.ref a1), (.int p0), (.int (1 : Int32)), (.ref b6)]
  refine own_via (own_ldI X6 hx hZ e6 f9 (j := (1 : Int32)) ⟨by decide, by decide⟩ (v := (.int p1)) rfl (pc := 35) (Ls := #[.val (.ref a1), .val (.ref x1), .val (.ref b6), .val (.int (1 : Int32)), .val (.int (0 : Int32))]) (rest := [(.int p0), (.int (1 : Int32)), (.ref b6)]) (hb hby own_d3_35)) ?_
  show own_H T6 36 #[.val (.ref a1), .val (.ref x1), .val (.ref b6), .val (.int (1 : Int32)), .val (.int (0 : Int32))] [(.int p1), (.int p0), (.int (1 : Int32)), (.ref b6)]
  have J15 : ∀ (TJ15 : State) (XJ15 : Stand p l e own_fb4_R s m #[(.ref a1)] below meth c TJ15 L1 4 109) (EJ15 : TJ15.heap = h6) (_ : True), own_G p e below Pw (TJ15.setTop (mkF m 48 #[.val (.ref a1), .val (.ref x1), .val (.ref b6), .val (.int (1 : Int32)), .val (.int (0 : Int32))] [(.int (0 : Int32)), (.int (1 : Int32)), (.ref b6)])) := by
    intro TJ15 XJ15 EJ15 _
    obtain ⟨T16, h16, L16, X16, N16, e16, W16, V16, st16⟩ := own_stI XJ15 N1 hx hZ EJ15 f12 g_b6 (j := (1 : Int32)) (x := (0 : Int32)) (i := 1) ⟨by decide, by decide⟩ rfl (Nat.le_of_ble_eq_true rfl) (pc := 48) (Ls := #[.val (.ref a1), .val (.ref x1), .val (.ref b6), .val (.int (1 : Int32)), .val (.int (0 : Int32))]) (rest := []) (hb hby own_d3_48)
    refine own_via st16 ?_
    have f17 := f9.other W16 ne7
    have f18 := f10.other W16 ne8
    have Kp19 := Kp11.wr W16 (Or.inr sz_b6)
    have f20 : Arv Z h16 b6 k6 .int (5 : Int32) [(.int (0 : Int32)), (.int (0 : Int32)), (.int (0 : Int32)), (.int (0 : Int32)), (.int (0 : Int32))] (.int (0 : Int32)) := V16
    have Wk21 : kw1 ≤ h16.size := by rw [W16.size]; exact Wk13
    show own_H T16 49 #[.val (.ref a1), .val (.ref x1), .val (.ref b6), .val (.int (1 : Int32)), .val (.int (0 : Int32))] []
    clear f9 f10 f12 Kp11 Wk13
    refine own_via (fun t k => XS.iinc X16.here hx rfl (hb hby own_d3_49) rfl (l' := #[.val (.ref a1), .val (.ref x1), .val (.ref b6), .val (.int (2 : Int32)), .val (.int (0 : Int32))]) rfl k) ?_
    show own_H T16 52 #[.val (.ref a1), .val (.ref x1), .val (.ref b6), .val (.int (2 : Int32)), .val (.int (0 : Int32))] []
    refine own_via (fun t k => XS.goto X16.here hx rfl (pc0 := 52) (pc' := 14) rfl (hb hby own_d3_52) (by decide) (by decide) k) ?_
    refine own_via (fun t k => XS.iloadN X16.here hx rfl (hb hby own_d3_14) rfl k) ?_
    refine own_via (fun t k => XS.aloadN X16.here hx rfl (hb hby own_d3_15) rfl rfl k) ?_
    show own_H T16 16 #[.val (.ref a1), .val (.ref x1), .val (.ref b6), .val (.int (2 : Int32)), .val (.int (0 : Int32))] [(.ref a1), (.int (2 : Int32))]
    refine own_via (own_len X16 hx hZ e16 f17 (pc := 16) (Ls := #[.val (.ref a1), .val (.ref x1), .val (.ref b6), .val (.int (2 : Int32)), .val (.int (0 : Int32))]) (rest := [(.int (2 : Int32))]) (hb hby own_d3_16)) ?_
    show own_H T16 17 #[.val (.ref a1), .val (.ref x1), .val (.ref b6), .val (.int (2 : Int32)), .val (.int (0 : Int32))] [(.int (4 : Int32)), (.int (2 : Int32))]
    refine own_via (fun t k => XS.icmpNo X16.here hx rfl (hb hby own_d3_17) rfl (tlt (by decide : (2 : Int32) < (4 : Int32))).2.1 k) ?_
    show own_H T16 20 #[.val (.ref a1), .val (.ref x1), .val (.ref b6), .val (.int (2 : Int32)), .val (.int (0 : Int32))] []
    refine own_via (fun t k => XS.aloadN X16.here hx rfl (hb hby own_d3_20) rfl rfl k) ?_
    refine own_via (fun t k => XS.iloadN X16.here hx rfl (hb hby own_d3_21) rfl k) ?_
    refine own_via (fun t k => XS.iconst X16.here hx rfl (hb hby own_d3_22) k) ?_
    show own_H T16 23 #[.val (.ref a1), .val (.ref x1), .val (.ref b6), .val (.int (2 : Int32)), .val (.int (0 : Int32))] [(.int (1 : Int32)), (.int (2 : Int32)), (.ref x1)]
    refine own_via (fun t k => XS.isub X16.here hx rfl (hb hby own_d3_23) rfl k) ?_
    show own_H T16 24 #[.val (.ref a1), .val (.ref x1), .val (.ref b6), .val (.int (2 : Int32)), .val (.int (0 : Int32))] [(.int (1 : Int32)), (.ref x1)]
    refine own_via (own_ldI X16 hx hZ e16 f18 (j := (1 : Int32)) ⟨by decide, by decide⟩ (v := (.int (own_t1 p0 p1))) rfl (pc := 24) (Ls := #[.val (.ref a1), .val (.ref x1), .val (.ref b6), .val (.int (2 : Int32)), .val (.int (0 : Int32))]) (rest := []) (hb hby own_d3_24)) ?_
    show own_H T16 25 #[.val (.ref a1), .val (.ref x1), .val (.ref b6), .val (.int (2 : Int32)), .val (.int (0 : Int32))] [(.int (own_t1 p0 p1))]
    refine own_via (fun t k => XS.istore X16.here hx rfl (hb hby own_d3_25) rfl (l' := #[.val (.ref a1), .val (.ref x1), .val (.ref b6), .val (.int (2 : Int32)), .val (.int (own_t1 p0 p1))]) rfl k) ?_
    refine own_via (fun t k => XS.aloadN X16.here hx rfl (hb hby own_d3_27) rfl rfl k) ?_
    refine own_via (fun t k => XS.iloadN X16.here hx rfl (hb hby own_d3_28) rfl k) ?_
    refine own_via (fun t k => XS.aloadN X16.here hx rfl (hb hby own_d3_29) rfl rfl k) ?_
    refine own_via (fun t k => XS.iload X16.here hx rfl (hb hby own_d3_30) rfl k) ?_
    show own_H T16 32 #[.val (.ref a1), .val (.ref x1), .val (.ref b6), .val (.int (2 : Int32)), .val (.int (own_t1 p0 p1))] [(.int (own_t1 p0 p1)), (.ref a1), (.int (2 : Int32)), (.ref b6)]
    refine own_via (own_ldS (L := ([p0, p1, p2, p3] : List Int32)) X16 hx hZ e16 f17 (j := (own_t1 p0 p1)) (own_in2 (L := ([p0, p1, p2, p3] : List Int32)) (z := (4 : Int32)) (own_t1r p0 p1) (by decide) (Nat.le_of_ble_eq_true rfl)).1 (pc := 32) (Ls := #[.val (.ref a1), .val (.ref x1), .val (.ref b6), .val (.int (2 : Int32)), .val (.int (own_t1 p0 p1))]) (rest := [(.int (2 : Int32)), (.ref b6)]) (hb hby own_d3_32)) ?_
    show own_H T16 33 #[.val (.ref a1), .val (.ref x1), .val (.ref b6), .val (.int (2 : Int32)), .val (.int (own_t1 p0 p1))] [(.int (own_get ([p0, p1, p2, p3] : List Int32) (own_t1 p0 p1))), (.int (2 : Int32)), (.ref b6)]
    refine own_via (fun t k => XS.aloadN X16.here hx rfl (hb hby own_d3_33) rfl rfl k) ?_
    refine own_via (fun t k => XS.iloadN X16.here hx rfl (hb hby own_d3_34) rfl k) ?_
    show own_H T16 35 #[.val (.ref a1), .val (.ref x1), .val (.ref b6), .val (.int (2 : Int32)), .val (.int (own_t1 p0 p1))] [(.int (2 : Int32)), (.ref a1), (.int (own_get ([p0, p1, p2, p3] : List Int32) (own_t1 p0 p1))), (.int (2 : Int32)), (.ref b6)]
    refine own_via (own_ldI X16 hx hZ e16 f17 (j := (2 : Int32)) ⟨by decide, by decide⟩ (v := (.int p2)) rfl (pc := 35) (Ls := #[.val (.ref a1), .val (.ref x1), .val (.ref b6), .val (.int (2 : Int32)), .val (.int (own_t1 p0 p1))]) (rest := [(.int (own_get ([p0, p1, p2, p3] : List Int32) (own_t1 p0 p1))), (.int (2 : Int32)), (.ref b6)]) (hb hby own_d3_35)) ?_
    show own_H T16 36 #[.val (.ref a1), .val (.ref x1), .val (.ref b6), .val (.int (2 : Int32)), .val (.int (own_t1 p0 p1))] [(.int p2), (.int (own_get ([p0, p1, p2, p3] : List Int32) (own_t1 p0 p1))), (.int (2 : Int32)), (.ref b6)]
    have J23 : ∀ (TJ23 : State) (XJ23 : Stand p l e own_fb4_R s m #[(.ref a1)] below meth c TJ23 L16 4 109) (EJ23 : TJ23.heap = h16) (zj24 : Int32), zj24 = (if (own_get ([p0, p1, p2, p3] : List Int32) (own_t1 p0 p1)) = p2 then (own_get ([(0 : Int32), (0 : Int32), (0 : Int32), (0 : Int32), (0 : Int32)] : List Int32) (own_t1 p0 p1)) else (own_t1 p0 p1)) → own_G p e below Pw (TJ23.setTop (mkF m 48 #[.val (.ref a1), .val (.ref x1), .val (.ref b6), .val (.int (2 : Int32)), .val (.int (own_t1 p0 p1))] [(.int zj24), (.int (2 : Int32)), (.ref b6)])) := by
      intro TJ23 XJ23 EJ23 zj24 hzj24
      obtain ⟨T25, h25, L25, X25, N25, e25, W25, V25, st25⟩ := own_stI XJ23 N16 hx hZ EJ23 f20 g_b6 (j := (2 : Int32)) (x := zj24) (i := 2) ⟨by decide, by decide⟩ rfl (Nat.le_of_ble_eq_true rfl) (pc := 48) (Ls := #[.val (.ref a1), .val (.ref x1), .val (.ref b6), .val (.int (2 : Int32)), .val (.int (own_t1 p0 p1))]) (rest := []) (hb hby own_d3_48)
      refine own_via st25 ?_
      have f26 := f17.other W25 ne7
      have f27 := f18.other W25 ne8
      have Kp28 := Kp19.wr W25 (Or.inr sz_b6)
      have f29 : Arv Z h25 b6 k6 .int (5 : Int32) [(.int (0 : Int32)), (.int (0 : Int32)), (.int zj24), (.int (0 : Int32)), (.int (0 : Int32))] (.int (0 : Int32)) := V25
      have Wk30 : kw1 ≤ h25.size := by rw [W25.size]; exact Wk21
      show own_H T25 49 #[.val (.ref a1), .val (.ref x1), .val (.ref b6), .val (.int (2 : Int32)), .val (.int (own_t1 p0 p1))] []
      clear f17 f18 f20 Kp19 Wk21
      refine own_via (fun t k => XS.iinc X25.here hx rfl (hb hby own_d3_49) rfl (l' := #[.val (.ref a1), .val (.ref x1), .val (.ref b6), .val (.int (3 : Int32)), .val (.int (own_t1 p0 p1))]) rfl k) ?_
      show own_H T25 52 #[.val (.ref a1), .val (.ref x1), .val (.ref b6), .val (.int (3 : Int32)), .val (.int (own_t1 p0 p1))] []
      refine own_via (fun t k => XS.goto X25.here hx rfl (pc0 := 52) (pc' := 14) rfl (hb hby own_d3_52) (by decide) (by decide) k) ?_
      refine own_via (fun t k => XS.iloadN X25.here hx rfl (hb hby own_d3_14) rfl k) ?_
      refine own_via (fun t k => XS.aloadN X25.here hx rfl (hb hby own_d3_15) rfl rfl k) ?_
      show own_H T25 16 #[.val (.ref a1), .val (.ref x1), .val (.ref b6), .val (.int (3 : Int32)), .val (.int (own_t1 p0 p1))] [(.ref a1), (.int (3 : Int32))]
      refine own_via (own_len X25 hx hZ e25 f26 (pc := 16) (Ls := #[.val (.ref a1), .val (.ref x1), .val (.ref b6), .val (.int (3 : Int32)), .val (.int (own_t1 p0 p1))]) (rest := [(.int (3 : Int32))]) (hb hby own_d3_16)) ?_
      show own_H T25 17 #[.val (.ref a1), .val (.ref x1), .val (.ref b6), .val (.int (3 : Int32)), .val (.int (own_t1 p0 p1))] [(.int (4 : Int32)), (.int (3 : Int32))]
      refine own_via (fun t k => XS.icmpNo X25.here hx rfl (hb hby own_d3_17) rfl (tlt (by decide : (3 : Int32) < (4 : Int32))).2.1 k) ?_
      show own_H T25 20 #[.val (.ref a1), .val (.ref x1), .val (.ref b6), .val (.int (3 : Int32)), .val (.int (own_t1 p0 p1))] []
      refine own_via (fun t k => XS.aloadN X25.here hx rfl (hb hby own_d3_20) rfl rfl k) ?_
      refine own_via (fun t k => XS.iloadN X25.here hx rfl (hb hby own_d3_21) rfl k) ?_
      refine own_via (fun t k => XS.iconst X25.here hx rfl (hb hby own_d3_22) k) ?_
      show own_H T25 23 #[.val (.ref a1), .val (.ref x1), .val (.ref b6), .val (.int (3 : Int32)), .val (.int (own_t1 p0 p1))] [(.int (1 : Int32)), (.int (3 : Int32)), (.ref x1)]
      refine own_via (fun t k => XS.isub X25.here hx rfl (hb hby own_d3_23) rfl k) ?_
      show own_H T25 24 #[.val (.ref a1), .val (.ref x1), .val (.ref b6), .val (.int (3 : Int32)), .val (.int (own_t1 p0 p1))] [(.int (2 : Int32)), (.ref x1)]
      refine own_via (own_ldI X25 hx hZ e25 f27 (j := (2 : Int32)) ⟨by decide, by decide⟩ (v := (.int (own_t2 p0 p1 p2))) rfl (pc := 24) (Ls := #[.val (.ref a1), .val (.ref x1), .val (.ref b6), .val (.int (3 : Int32)), .val (.int (own_t1 p0 p1))]) (rest := []) (hb hby own_d3_24)) ?_
      show own_H T25 25 #[.val (.ref a1), .val (.ref x1), .val (.ref b6), .val (.int (3 : Int32)), .val (.int (own_t1 p0 p1))] [(.int (own_t2 p0 p1 p2))]
      refine own_via (fun t k => XS.istore X25.here hx rfl (hb hby own_d3_25) rfl (l' := #[.val (.ref a1), .val (.ref x1), .val (.ref b6), .val (.int (3 : Int32)), .val (.int (own_t2 p0 p1 p2))]) rfl k) ?_
      refine own_via (fun t k => XS.aloadN X25.here hx rfl (hb hby own_d3_27) rfl rfl k) ?_
      refine own_via (fun t k => XS.iloadN X25.here hx rfl (hb hby own_d3_28) rfl k) ?_
      refine own_via (fun t k => XS.aloadN X25.here hx rfl (hb hby own_d3_29) rfl rfl k) ?_
      refine own_via (fun t k => XS.iload X25.here hx rfl (hb hby own_d3_30) rfl k) ?_
      show own_H T25 32 #[.val (.ref a1), .val (.ref x1), .val (.ref b6), .val (.int (3 : Int32)), .val (.int (own_t2 p0 p1 p2))] [(.int (own_t2 p0 p1 p2)), (.ref a1), (.int (3 : Int32)), (.ref b6)]
      refine own_via (own_ldS (L := ([p0, p1, p2, p3] : List Int32)) X25 hx hZ e25 f26 (j := (own_t2 p0 p1 p2)) (own_in3 (L := ([p0, p1, p2, p3] : List Int32)) (z := (4 : Int32)) (own_t2r p0 p1 p2) (by decide) (Nat.le_of_ble_eq_true rfl)).1 (pc := 32) (Ls := #[.val (.ref a1), .val (.ref x1), .val (.ref b6), .val (.int (3 : Int32)), .val (.int (own_t2 p0 p1 p2))]) (rest := [(.int (3 : Int32)), (.ref b6)]) (hb hby own_d3_32)) ?_
      show own_H T25 33 #[.val (.ref a1), .val (.ref x1), .val (.ref b6), .val (.int (3 : Int32)), .val (.int (own_t2 p0 p1 p2))] [(.int (own_get ([p0, p1, p2, p3] : List Int32) (own_t2 p0 p1 p2))), (.int (3 : Int32)), (.ref b6)]
      refine own_via (fun t k => XS.aloadN X25.here hx rfl (hb hby own_d3_33) rfl rfl k) ?_
      refine own_via (fun t k => XS.iloadN X25.here hx rfl (hb hby own_d3_34) rfl k) ?_
      show own_H T25 35 #[.val (.ref a1), .val (.ref x1), .val (.ref b6), .val (.int (3 : Int32)), .val (.int (own_t2 p0 p1 p2))] [(.int (3 : Int32)), (.ref a1), (.int (own_get ([p0, p1, p2, p3] : List Int32) (own_t2 p0 p1 p2))), (.int (3 : Int32)), (.ref b6)]
      refine own_via (own_ldI X25 hx hZ e25 f26 (j := (3 : Int32)) ⟨by decide, by decide⟩ (v := (.int p3)) rfl (pc := 35) (Ls := #[.val (.ref a1), .val (.ref x1), .val (.ref b6), .val (.int (3 : Int32)), .val (.int (own_t2 p0 p1 p2))]) (rest := [(.int (own_get ([p0, p1, p2, p3] : List Int32) (own_t2 p0 p1 p2))), (.int (3 : Int32)), (.ref b6)]) (hb hby own_d3_35)) ?_
      show own_H T25 36 #[.val (.ref a1), .val (.ref x1), .val (.ref b6), .val (.int (3 : Int32)), .val (.int (own_t2 p0 p1 p2))] [(.int p3), (.int (own_get ([p0, p1, p2, p3] : List Int32) (own_t2 p0 p1 p2))), (.int (3 : Int32)), (.ref b6)]
      have J32 : ∀ (TJ32 : State) (XJ32 : Stand p l e own_fb4_R s m #[(.ref a1)] below meth c TJ32 L25 4 109) (EJ32 : TJ32.heap = h25) (zj33 : Int32), zj33 = (if (own_get ([p0, p1, p2, p3] : List Int32) (own_t2 p0 p1 p2)) = p3 then (own_get ([(0 : Int32), (0 : Int32), zj24, (0 : Int32), (0 : Int32)] : List Int32) (own_t2 p0 p1 p2)) else (own_t2 p0 p1 p2)) → own_G p e below Pw (TJ32.setTop (mkF m 48 #[.val (.ref a1), .val (.ref x1), .val (.ref b6), .val (.int (3 : Int32)), .val (.int (own_t2 p0 p1 p2))] [(.int zj33), (.int (3 : Int32)), (.ref b6)])) := by
        intro TJ32 XJ32 EJ32 zj33 hzj33
        obtain ⟨T34, h34, L34, X34, N34, e34, W34, V34, st34⟩ := own_stI XJ32 N25 hx hZ EJ32 f29 g_b6 (j := (3 : Int32)) (x := zj33) (i := 3) ⟨by decide, by decide⟩ rfl (Nat.le_of_ble_eq_true rfl) (pc := 48) (Ls := #[.val (.ref a1), .val (.ref x1), .val (.ref b6), .val (.int (3 : Int32)), .val (.int (own_t2 p0 p1 p2))]) (rest := []) (hb hby own_d3_48)
        refine own_via st34 ?_
        have f35 := f26.other W34 ne7
        have f36 := f27.other W34 ne8
        have Kp37 := Kp28.wr W34 (Or.inr sz_b6)
        have f38 : Arv Z h34 b6 k6 .int (5 : Int32) [(.int (0 : Int32)), (.int (0 : Int32)), (.int zj24), (.int zj33), (.int (0 : Int32))] (.int (0 : Int32)) := V34
        have Wk39 : kw1 ≤ h34.size := by rw [W34.size]; exact Wk30
        show own_H T34 49 #[.val (.ref a1), .val (.ref x1), .val (.ref b6), .val (.int (3 : Int32)), .val (.int (own_t2 p0 p1 p2))] []
        clear f26 f27 f29 Kp28 Wk30
        refine own_via (fun t k => XS.iinc X34.here hx rfl (hb hby own_d3_49) rfl (l' := #[.val (.ref a1), .val (.ref x1), .val (.ref b6), .val (.int (4 : Int32)), .val (.int (own_t2 p0 p1 p2))]) rfl k) ?_
        show own_H T34 52 #[.val (.ref a1), .val (.ref x1), .val (.ref b6), .val (.int (4 : Int32)), .val (.int (own_t2 p0 p1 p2))] []
        refine own_via (fun t k => XS.goto X34.here hx rfl (pc0 := 52) (pc' := 14) rfl (hb hby own_d3_52) (by decide) (by decide) k) ?_
        refine own_via (fun t k => XS.iloadN X34.here hx rfl (hb hby own_d3_14) rfl k) ?_
        refine own_via (fun t k => XS.aloadN X34.here hx rfl (hb hby own_d3_15) rfl rfl k) ?_
        show own_H T34 16 #[.val (.ref a1), .val (.ref x1), .val (.ref b6), .val (.int (4 : Int32)), .val (.int (own_t2 p0 p1 p2))] [(.ref a1), (.int (4 : Int32))]
        refine own_via (own_len X34 hx hZ e34 f35 (pc := 16) (Ls := #[.val (.ref a1), .val (.ref x1), .val (.ref b6), .val (.int (4 : Int32)), .val (.int (own_t2 p0 p1 p2))]) (rest := [(.int (4 : Int32))]) (hb hby own_d3_16)) ?_
        show own_H T34 17 #[.val (.ref a1), .val (.ref x1), .val (.ref b6), .val (.int (4 : Int32)), .val (.int (own_t2 p0 p1 p2))] [(.int (4 : Int32)), (.int (4 : Int32))]
        refine own_via (fun t k => XS.icmpYes X34.here hx rfl (pc0 := 17) (pc' := 55) rfl (hb hby own_d3_17) rfl (flt (by decide : ¬ ((4 : Int32) < (4 : Int32)))).2.1 (by decide) (by decide) k) ?_
        show own_H T34 55 #[.val (.ref a1), .val (.ref x1), .val (.ref b6), .val (.int (4 : Int32)), .val (.int (own_t2 p0 p1 p2))] []
        refine own_via (fun t k => XS.aloadN X34.here hx rfl (hb hby own_d3_55) rfl rfl k) ?_
        refine own_via (fun t k => XS.aloadN X34.here hx rfl (hb hby own_d3_56) rfl rfl k) ?_
        show own_H T34 57 #[.val (.ref a1), .val (.ref x1), .val (.ref b6), .val (.int (4 : Int32)), .val (.int (own_t2 p0 p1 p2))] [(.ref a1), (.ref b6)]
        refine own_via (own_len X34 hx hZ e34 f35 (pc := 57) (Ls := #[.val (.ref a1), .val (.ref x1), .val (.ref b6), .val (.int (4 : Int32)), .val (.int (own_t2 p0 p1 p2))]) (rest := [(.ref b6)]) (hb hby own_d3_57)) ?_
        show own_H T34 58 #[.val (.ref a1), .val (.ref x1), .val (.ref b6), .val (.int (4 : Int32)), .val (.int (own_t2 p0 p1 p2))] [(.int (4 : Int32)), (.ref b6)]
        refine own_via (fun t k => XS.aloadN X34.here hx rfl (hb hby own_d3_58) rfl rfl k) ?_
        refine own_via (fun t k => XS.aloadN X34.here hx rfl (hb hby own_d3_59) rfl rfl k) ?_
        show own_H T34 60 #[.val (.ref a1), .val (.ref x1), .val (.ref b6), .val (.int (4 : Int32)), .val (.int (own_t2 p0 p1 p2))] [(.ref a1), (.ref x1), (.int (4 : Int32)), (.ref b6)]
        refine own_via (own_len X34 hx hZ e34 f35 (pc := 60) (Ls := #[.val (.ref a1), .val (.ref x1), .val (.ref b6), .val (.int (4 : Int32)), .val (.int (own_t2 p0 p1 p2))]) (rest := [(.ref x1), (.int (4 : Int32)), (.ref b6)]) (hb hby own_d3_60)) ?_
        show own_H T34 61 #[.val (.ref a1), .val (.ref x1), .val (.ref b6), .val (.int (4 : Int32)), .val (.int (own_t2 p0 p1 p2))] [(.int (4 : Int32)), (.ref x1), (.int (4 : Int32)), (.ref b6)]
        refine own_via (fun t k => XS.iconst X34.here hx rfl (hb hby own_d3_61) k) ?_
        show own_H T34 62 #[.val (.ref a1), .val (.ref x1), .val (.ref b6), .val (.int (4 : Int32)), .val (.int (own_t2 p0 p1 p2))] [(.int (1 : Int32)), (.int (4 : Int32)), (.ref x1), (.int (4 : Int32)), (.ref b6)]
        refine own_via (fun t k => XS.isub X34.here hx rfl (hb hby own_d3_62) rfl k) ?_
        show own_H T34 63 #[.val (.ref a1), .val (.ref x1), .val (.ref b6), .val (.int (4 : Int32)), .val (.int (own_t2 p0 p1 p2))] [(.int (3 : Int32)), (.ref x1), (.int (4 : Int32)), (.ref b6)]
        refine own_via (own_ldI X34 hx hZ e34 f36 (j := (3 : Int32)) ⟨by decide, by decide⟩ (v := (.int (own_t3 p0 p1 p2 p3))) rfl (pc := 63) (Ls := #[.val (.ref a1), .val (.ref x1), .val (.ref b6), .val (.int (4 : Int32)), .val (.int (own_t2 p0 p1 p2))]) (rest := [(.int (4 : Int32)), (.ref b6)]) (hb hby own_d3_63)) ?_
        show own_H T34 64 #[.val (.ref a1), .val (.ref x1), .val (.ref b6), .val (.int (4 : Int32)), .val (.int (own_t2 p0 p1 p2))] [(.int (own_t3 p0 p1 p2 p3)), (.int (4 : Int32)), (.ref b6)]
        obtain ⟨T41, h41, L41, X41, N41, e41, W41, V41, st41⟩ := own_stI X34 N34 hx hZ e34 f38 g_b6 (j := (4 : Int32)) (x := (own_t3 p0 p1 p2 p3)) (i := 4) ⟨by decide, by decide⟩ rfl (Nat.le_of_ble_eq_true rfl) (pc := 64) (Ls := #[.val (.ref a1), .val (.ref x1), .val (.ref b6), .val (.int (4 : Int32)), .val (.int (own_t2 p0 p1 p2))]) (rest := []) (hb hby own_d3_64)
        refine own_via st41 ?_
        have Kp44 := Kp37.wr W41 (Or.inr sz_b6)
        have f45 : Arv Z h41 b6 k6 .int (5 : Int32) [(.int (0 : Int32)), (.int (0 : Int32)), (.int zj24), (.int zj33), (.int (own_t3 p0 p1 p2 p3))] (.int (0 : Int32)) := V41
        have Wk46 : kw1 ≤ h41.size := by rw [W41.size]; exact Wk39
        show own_H T41 65 #[.val (.ref a1), .val (.ref x1), .val (.ref b6), .val (.int (4 : Int32)), .val (.int (own_t2 p0 p1 p2))] []
        clear f35 f36 f38 Kp37 Wk39
        refine own_via (fun t k => XS.aloadN X41.here hx rfl (hb hby own_d3_65) rfl rfl k) ?_
        show own_H T41 66 #[.val (.ref a1), .val (.ref x1), .val (.ref b6), .val (.int (4 : Int32)), .val (.int (own_t2 p0 p1 p2))] [(.ref b6)]
        subst hzj33
        subst hzj24
        rw [hPw]
        refine own_wide S1 ?_
        exact own_retA X41 hx Bd.returns rfl rfl Bd.notSynchronized (hb hby own_d3_66) (by rw [e41]; exact ⟨⟨N41, b6, k6, rfl, Kp44, sz_b6, f45⟩, Wk46⟩) (by decide) (by decide)
      by_cases hc48 : (own_get ([p0, p1, p2, p3] : List Int32) (own_t2 p0 p1 p2)) = p3
      ·
        refine own_via (fun t k => XS.icmpNo X25.here hx rfl (hb hby own_d3_36) rfl (teq hc48).2 k) ?_
        show own_H T25 39 #[.val (.ref a1), .val (.ref x1), .val (.ref b6), .val (.int (3 : Int32)), .val (.int (own_t2 p0 p1 p2))] [(.int (3 : Int32)), (.ref b6)]
        refine own_via (fun t k => XS.aloadN X25.here hx rfl (hb hby own_d3_39) rfl rfl k) ?_
        show own_H T25 40 #[.val (.ref a1), .val (.ref x1), .val (.ref b6), .val (.int (3 : Int32)), .val (.int (own_t2 p0 p1 p2))] [(.ref b6), (.int (3 : Int32)), (.ref b6)]
        refine own_via (fun t k => XS.iload X25.here hx rfl (hb hby own_d3_40) rfl k) ?_
        show own_H T25 42 #[.val (.ref a1), .val (.ref x1), .val (.ref b6), .val (.int (3 : Int32)), .val (.int (own_t2 p0 p1 p2))] [(.int (own_t2 p0 p1 p2)), (.ref b6), (.int (3 : Int32)), (.ref b6)]
        refine own_via (own_ldS (L := ([(0 : Int32), (0 : Int32), zj24, (0 : Int32), (0 : Int32)] : List Int32)) X25 hx hZ e25 f29 (j := (own_t2 p0 p1 p2)) (own_in3 (L := ([(0 : Int32), (0 : Int32), zj24, (0 : Int32), (0 : Int32)] : List Int32)) (z := (5 : Int32)) (own_t2r p0 p1 p2) (by decide) (Nat.le_of_ble_eq_true rfl)).1 (pc := 42) (Ls := #[.val (.ref a1), .val (.ref x1), .val (.ref b6), .val (.int (3 : Int32)), .val (.int (own_t2 p0 p1 p2))]) (rest := [(.int (3 : Int32)), (.ref b6)]) (hb hby own_d3_42)) ?_
        show own_H T25 43 #[.val (.ref a1), .val (.ref x1), .val (.ref b6), .val (.int (3 : Int32)), .val (.int (own_t2 p0 p1 p2))] [(.int (own_get ([(0 : Int32), (0 : Int32), zj24, (0 : Int32), (0 : Int32)] : List Int32) (own_t2 p0 p1 p2))), (.int (3 : Int32)), (.ref b6)]
        refine own_via (fun t k => XS.goto X25.here hx rfl (pc0 := 43) (pc' := 48) rfl (hb hby own_d3_43) (by decide) (by decide) k) ?_
        show own_H T25 48 #[.val (.ref a1), .val (.ref x1), .val (.ref b6), .val (.int (3 : Int32)), .val (.int (own_t2 p0 p1 p2))] [(.int (own_get ([(0 : Int32), (0 : Int32), zj24, (0 : Int32), (0 : Int32)] : List Int32) (own_t2 p0 p1 p2))), (.int (3 : Int32)), (.ref b6)]
        exact J32 _ X25 e25 _ (by simp only [if_pos hc48])
      ·
        refine own_via (fun t k => XS.icmpYes X25.here hx rfl (pc0 := 36) (pc' := 46) rfl (hb hby own_d3_36) rfl (feq hc48).2 (by decide) (by decide) k) ?_
        show own_H T25 46 #[.val (.ref a1), .val (.ref x1), .val (.ref b6), .val (.int (3 : Int32)), .val (.int (own_t2 p0 p1 p2))] [(.int (3 : Int32)), (.ref b6)]
        refine own_via (fun t k => XS.iload X25.here hx rfl (hb hby own_d3_46) rfl k) ?_
        show own_H T25 48 #[.val (.ref a1), .val (.ref x1), .val (.ref b6), .val (.int (3 : Int32)), .val (.int (own_t2 p0 p1 p2))] [(.int (own_t2 p0 p1 p2)), (.int (3 : Int32)), (.ref b6)]
        exact J32 _ X25 e25 _ (by simp only [if_neg hc48])
    by_cases hc49 : (own_get ([p0, p1, p2, p3] : List Int32) (own_t1 p0 p1)) = p2
    ·
      refine own_via (fun t k => XS.icmpNo X16.here hx rfl (hb hby own_d3_36) rfl (teq hc49).2 k) ?_
      show own_H T16 39 #[.val (.ref a1), .val (.ref x1), .val (.ref b6), .val (.int (2 : Int32)), .val (.int (own_t1 p0 p1))] [(.int (2 : Int32)), (.ref b6)]
      refine own_via (fun t k => XS.aloadN X16.here hx rfl (hb hby own_d3_39) rfl rfl k) ?_
      show own_H T16 40 #[.val (.ref a1), .val (.ref x1), .val (.ref b6), .val (.int (2 : Int32)), .val (.int (own_t1 p0 p1))] [(.ref b6), (.int (2 : Int32)), (.ref b6)]
      refine own_via (fun t k => XS.iload X16.here hx rfl (hb hby own_d3_40) rfl k) ?_
      show own_H T16 42 #[.val (.ref a1), .val (.ref x1), .val (.ref b6), .val (.int (2 : Int32)), .val (.int (own_t1 p0 p1))] [(.int (own_t1 p0 p1)), (.ref b6), (.int (2 : Int32)), (.ref b6)]
      refine own_via (own_ldS (L := ([(0 : Int32), (0 : Int32), (0 : Int32), (0 : Int32), (0 : Int32)] : List Int32)) X16 hx hZ e16 f20 (j := (own_t1 p0 p1)) (own_in2 (L := ([(0 : Int32), (0 : Int32), (0 : Int32), (0 : Int32), (0 : Int32)] : List Int32)) (z := (5 : Int32)) (own_t1r p0 p1) (by decide) (Nat.le_of_ble_eq_true rfl)).1 (pc := 42) (Ls := #[.val (.ref a1), .val (.ref x1), .val (.ref b6), .val (.int (2 : Int32)), .val (.int (own_t1 p0 p1))]) (rest := [(.int (2 : Int32)), (.ref b6)]) (hb hby own_d3_42)) ?_
      show own_H T16 43 #[.val (.ref a1), .val (.ref x1), .val (.ref b6), .val (.int (2 : Int32)), .val (.int (own_t1 p0 p1))] [(.int (own_get ([(0 : Int32), (0 : Int32), (0 : Int32), (0 : Int32), (0 : Int32)] : List Int32) (own_t1 p0 p1))), (.int (2 : Int32)), (.ref b6)]
      refine own_via (fun t k => XS.goto X16.here hx rfl (pc0 := 43) (pc' := 48) rfl (hb hby own_d3_43) (by decide) (by decide) k) ?_
      show own_H T16 48 #[.val (.ref a1), .val (.ref x1), .val (.ref b6), .val (.int (2 : Int32)), .val (.int (own_t1 p0 p1))] [(.int (own_get ([(0 : Int32), (0 : Int32), (0 : Int32), (0 : Int32), (0 : Int32)] : List Int32) (own_t1 p0 p1))), (.int (2 : Int32)), (.ref b6)]
      exact J23 _ X16 e16 _ (by simp only [if_pos hc49])
    ·
      refine own_via (fun t k => XS.icmpYes X16.here hx rfl (pc0 := 36) (pc' := 46) rfl (hb hby own_d3_36) rfl (feq hc49).2 (by decide) (by decide) k) ?_
      show own_H T16 46 #[.val (.ref a1), .val (.ref x1), .val (.ref b6), .val (.int (2 : Int32)), .val (.int (own_t1 p0 p1))] [(.int (2 : Int32)), (.ref b6)]
      refine own_via (fun t k => XS.iload X16.here hx rfl (hb hby own_d3_46) rfl k) ?_
      show own_H T16 48 #[.val (.ref a1), .val (.ref x1), .val (.ref b6), .val (.int (2 : Int32)), .val (.int (own_t1 p0 p1))] [(.int (own_t1 p0 p1)), (.int (2 : Int32)), (.ref b6)]
      exact J23 _ X16 e16 _ (by simp only [if_neg hc49])
  by_cases hc50 : p0 = p1
  ·
    refine own_via (fun t k => XS.icmpNo X6.here hx rfl (hb hby own_d3_36) rfl (teq hc50).2 k) ?_
    show own_H T6 39 #[.val (.ref a1), .val (.ref x1), .val (.ref b6), .val (.int (1 : Int32)), .val (.int (0 : Int32))] [(.int (1 : Int32)), (.ref b6)]
    refine own_via (fun t k => XS.aloadN X6.here hx rfl (hb hby own_d3_39) rfl rfl k) ?_
    show own_H T6 40 #[.val (.ref a1), .val (.ref x1), .val (.ref b6), .val (.int (1 : Int32)), .val (.int (0 : Int32))] [(.ref b6), (.int (1 : Int32)), (.ref b6)]
    refine own_via (fun t k => XS.iload X6.here hx rfl (hb hby own_d3_40) rfl k) ?_
    show own_H T6 42 #[.val (.ref a1), .val (.ref x1), .val (.ref b6), .val (.int (1 : Int32)), .val (.int (0 : Int32))] [(.int (0 : Int32)), (.ref b6), (.int (1 : Int32)), (.ref b6)]
    refine own_via (own_ldI X6 hx hZ e6 f12 (j := (0 : Int32)) ⟨by decide, by decide⟩ (v := (.int (0 : Int32))) rfl (pc := 42) (Ls := #[.val (.ref a1), .val (.ref x1), .val (.ref b6), .val (.int (1 : Int32)), .val (.int (0 : Int32))]) (rest := [(.int (1 : Int32)), (.ref b6)]) (hb hby own_d3_42)) ?_
    show own_H T6 43 #[.val (.ref a1), .val (.ref x1), .val (.ref b6), .val (.int (1 : Int32)), .val (.int (0 : Int32))] [(.int (0 : Int32)), (.int (1 : Int32)), (.ref b6)]
    refine own_via (fun t k => XS.goto X6.here hx rfl (pc0 := 43) (pc' := 48) rfl (hb hby own_d3_43) (by decide) (by decide) k) ?_
    show own_H T6 48 #[.val (.ref a1), .val (.ref x1), .val (.ref b6), .val (.int (1 : Int32)), .val (.int (0 : Int32))] [(.int (0 : Int32)), (.int (1 : Int32)), (.ref b6)]
    exact J15 _ X6 e6 trivial
  ·
    refine own_via (fun t k => XS.icmpYes X6.here hx rfl (pc0 := 36) (pc' := 46) rfl (hb hby own_d3_36) rfl (feq hc50).2 (by decide) (by decide) k) ?_
    show own_H T6 46 #[.val (.ref a1), .val (.ref x1), .val (.ref b6), .val (.int (1 : Int32)), .val (.int (0 : Int32))] [(.int (1 : Int32)), (.ref b6)]
    refine own_via (fun t k => XS.iload X6.here hx rfl (hb hby own_d3_46) rfl k) ?_
    show own_H T6 48 #[.val (.ref a1), .val (.ref x1), .val (.ref b6), .val (.int (1 : Int32)), .val (.int (0 : Int32))] [(.int (0 : Int32)), (.int (1 : Int32)), (.ref b6)]
    exact J15 _ X6 e6 trivial
theorem own_d6_0 : decode prog_5_method_2_code 0 = .ok (.aload_n 0, 1) := by decide +kernel
theorem own_d6_1 : decode prog_5_method_2_code 1 = .ok (.arraylength, 1) := by decide +kernel
theorem own_d6_2 : decode prog_5_method_2_code 2 = .ok (.iconst 4, 1) := by decide +kernel
theorem own_d6_3 : decode prog_5_method_2_code 3 = .ok (.isub, 1) := by decide +kernel
theorem own_d6_4 : decode prog_5_method_2_code 4 = .ok (.iconst 1, 1) := by decide +kernel
theorem own_d6_5 : decode prog_5_method_2_code 5 = .ok (.iadd, 1) := by decide +kernel
theorem own_d6_6 : decode prog_5_method_2_code 6 = .ok (.bipush 64, 2) := by decide +kernel
theorem own_d6_8 : decode prog_5_method_2_code 8 = .ok (.invokestatic 25, 3) := by decide +kernel
theorem own_d6_11 : decode prog_5_method_2_code 11 = .ok (.istore_n 1, 1) := by decide +kernel
theorem own_d6_12 : decode prog_5_method_2_code 12 = .ok (.iload_n 1, 1) := by decide +kernel
theorem own_d6_13 : decode prog_5_method_2_code 13 = .ok (.bipush 8, 2) := by decide +kernel
theorem own_d6_15 : decode prog_5_method_2_code 15 = .ok (.if_icmp .ge 5, 3) := by decide +kernel
theorem own_d6_18 : decode prog_5_method_2_code 18 = .ok (.aconst_null, 1) := by decide +kernel
theorem own_d6_19 : decode prog_5_method_2_code 19 = .ok (.areturn, 1) := by decide +kernel
abbrev own_gt1_R : Room := { frames := 1, cells := 0, slots := 0, locals := 13 }
theorem own_pn6 : plainFor (⟨"com/example/skipstitch/skipstitch/GramTable", "of", "([I)Lcom/example/skipstitch/skipstitch/GramTable;"⟩ : MethodName) = true := plainFor_of_name (by first | (simp [plainName, overriddenIn]; done) | decide +kernel)
theorem own_gt1_ef (m : MethodId) (a1 : Addr) : entryFrame m #[(.ref a1)] 7 = mkF m 0 #[.val (.ref a1), .unset, .unset, .unset, .unset, .unset, .unset] [] := by first | (simp [entryFrame, mkF, argsToLocals, Value.category]; done) | rfl
set_option maxRecDepth 65536 in
set_option maxHeartbeats 40000000 in
theorem own_gt1 (l : Launch) (Z : State) (a0 : Array Value) (hw : ∀ d ∈ tables_1, d.before a0 Z = true) (ws : List Jvm.Cond) (a1 : Addr) (k_1 : ClassId) (p0 : Int32) (h0 : Heap)  (i_A1 : Arv Z h0 a1 k_1 .int (1 : Int32) [(.int p0)] (.int (0 : Int32))) :
    own_C l Z (⟨"com/example/skipstitch/skipstitch/GramTable", "of", "([I)Lcom/example/skipstitch/skipstitch/GramTable;"⟩ : MethodName) prog_5_method_2_code 7 (some (.object "com/example/skipstitch/skipstitch/GramTable")) ws own_gt1_R #[(.ref a1)] h0 (own_Q .null h0) := by
  refine MetFree.of_bodySF own_pn6 hisR ?_
  intro p e s m args below meth c s₁ Bd hml0 hP hK
  obtain ⟨rfl, hZ, hh⟩ := hP
  have hx := Bd.exec
  have hby := Bd.bytes
  have hml : c.maxLocals = 7 := hml0
  have hown : s.vm.findClass "com/example/skipstitch/skipstitch/GramTable" = some m.cls := findClass_of_methodNamed Bd.named
  have hnm := (name_of_methodNamed Bd.named Bd.method).1
  have X0 : Stand p l e own_gt1_R s m #[(.ref a1)] below meth c s₁ [] 0 0 := Stand.of_body Bd
  have e0 : s₁.heap = h0 := by rw [← hh, Bd.state]; rfl
  show own_G p e below (own_P s (own_Q .null h0) own_gt1_R.cells own_gt1_R.slots) (s₁.setTop (entryFrame m #[(.ref a1)] 7))
  rw [own_gt1_ef m a1]
  show own_H s₁ 0 #[.val (.ref a1), .unset, .unset, .unset, .unset, .unset, .unset] []
  refine own_via (fun t k => XS.aloadN X0.here hx rfl (hb hby own_d6_0) rfl rfl k) ?_
  show own_H s₁ 1 #[.val (.ref a1), .unset, .unset, .unset, .unset, .unset, .unset] [(.ref a1)]
  refine own_via (own_len X0 hx hZ e0 i_A1 (pc := 1) (Ls := #[.val (.ref a1), .unset, .unset, .unset, .unset, .unset, .unset]) (rest := []) (hb hby own_d6_1)) ?_
  show own_H s₁ 2 #[.val (.ref a1), .unset, .unset, .unset, .unset, .unset, .unset] [(.int (1 : Int32))]
  refine own_via (fun t k => XS.iconst X0.here hx rfl (hb hby own_d6_2) k) ?_
  show own_H s₁ 3 #[.val (.ref a1), .unset, .unset, .unset, .unset, .unset, .unset] [(.int (4 : Int32)), (.int (1 : Int32))]
  refine own_via (fun t k => XS.isub X0.here hx rfl (hb hby own_d6_3) rfl k) ?_
  refine own_via (fun t k => XS.iconst X0.here hx rfl (hb hby own_d6_4) k) ?_
  show own_H s₁ 5 #[.val (.ref a1), .unset, .unset, .unset, .unset, .unset, .unset] [(.int (1 : Int32)), (.int (-3 : Int32))]
  refine own_via (fun t k => XS.iadd X0.here hx rfl (hb hby own_d6_5) rfl k) ?_
  refine own_via (fun t k => XS.bipush X0.here hx rfl (hb hby own_d6_6) k) ?_
  show own_H s₁ 8 #[.val (.ref a1), .unset, .unset, .unset, .unset, .unset, .unset] [(.int (64 : Int32)), (.int (-2 : Int32))]
  obtain ⟨T1, X1, e1, st1⟩ := own_callP (y := (⟨"java/lang/Math", "min", "(II)I"⟩ : MethodName)) (W := 0) X0 hx hZ hown (own_u hw 38 rfl) (own_u hw 39 rfl) (own_u hw 40 rfl) (own_u hw 41 rfl) (by decide) (own_rm7 l Z a0 hw [] (-2 : Int32) (64 : Int32) h0) (by decide) (by decide) rfl rfl (by decide) (by decide) e0 (pc := 8) (Ls := #[.val (.ref a1), .unset, .unset, .unset, .unset, .unset, .unset]) (st := [(.int (64 : Int32)), (.int (-2 : Int32))]) (argsL := [(.int (-2 : Int32)), (.int (64 : Int32))]) (rest := []) (by rw [hml]; rfl) (lenOf own_pd2 rfl) rfl rfl (Nat.le_of_eq rfl) (hb hby own_d6_8)
  refine own_via st1 ?_
  show own_H T1 11 #[.val (.ref a1), .unset, .unset, .unset, .unset, .unset, .unset] [(.int (own_F7 (-2 : Int32) (64 : Int32)))]
  rw [show (own_F7 (-2 : Int32) (64 : Int32)) = (-2 : Int32) from (by decide)]
  show own_H T1 11 #[.val (.ref a1), .unset, .unset, .unset, .unset, .unset, .unset] [(.int (-2 : Int32))]
  refine own_via (fun t k => XS.istoreN X1.here hx rfl (hb hby own_d6_11) rfl (l' := #[.val (.ref a1), .val (.int (-2 : Int32)), .unset, .unset, .unset, .unset, .unset]) rfl k) ?_
  refine own_via (fun t k => XS.iloadN X1.here hx rfl (hb hby own_d6_12) rfl k) ?_
  refine own_via (fun t k => XS.bipush X1.here hx rfl (hb hby own_d6_13) k) ?_
  show own_H T1 15 #[.val (.ref a1), .val (.int (-2 : Int32)), .unset, .unset, .unset, .unset, .unset] [(.int (8 : Int32)), (.int (-2 : Int32))]
  refine own_via (fun t k => XS.icmpNo X1.here hx rfl (hb hby own_d6_15) rfl (tlt (by decide : (-2 : Int32) < (8 : Int32))).2.1 k) ?_
  show own_H T1 18 #[.val (.ref a1), .val (.int (-2 : Int32)), .unset, .unset, .unset, .unset, .unset] []
  refine own_via (fun t k => XS.aconstNull X1.here hx rfl (hb hby own_d6_18) k) ?_
  show own_H T1 19 #[.val (.ref a1), .val (.int (-2 : Int32)), .unset, .unset, .unset, .unset, .unset] [.null]
  exact own_retA X1 hx Bd.returns rfl rfl Bd.notSynchronized (hb hby own_d6_19) ⟨rfl, rfl, e1⟩ (by decide) (by decide)
theorem own_d8_0 : decode prog_5_method_4_code 0 = .ok (.iconst 0, 1) := by decide +kernel
theorem own_d8_1 : decode prog_5_method_4_code 1 = .ok (.istore_n 1, 1) := by decide +kernel
theorem own_d8_2 : decode prog_5_method_4_code 2 = .ok (.aload_n 0, 1) := by decide +kernel
theorem own_d8_3 : decode prog_5_method_4_code 3 = .ok (.arraylength, 1) := by decide +kernel
theorem own_d8_4 : decode prog_5_method_4_code 4 = .ok (.iconst 4, 1) := by decide +kernel
theorem own_d8_5 : decode prog_5_method_4_code 5 = .ok (.invokestatic 25, 3) := by decide +kernel
theorem own_d8_8 : decode prog_5_method_4_code 8 = .ok (.iconst 1, 1) := by decide +kernel
theorem own_d8_9 : decode prog_5_method_4_code 9 = .ok (.isub, 1) := by decide +kernel
theorem own_d8_10 : decode prog_5_method_4_code 10 = .ok (.istore_n 2, 1) := by decide +kernel
theorem own_d8_11 : decode prog_5_method_4_code 11 = .ok (.iload_n 2, 1) := by decide +kernel
theorem own_d8_12 : decode prog_5_method_4_code 12 = .ok (.ifCond .lt 22, 3) := by decide +kernel
theorem own_d8_15 : decode prog_5_method_4_code 15 = .ok (.iload_n 1, 1) := by decide +kernel
theorem own_d8_16 : decode prog_5_method_4_code 16 = .ok (.bipush 8, 2) := by decide +kernel
theorem own_d8_18 : decode prog_5_method_4_code 18 = .ok (.ishl, 1) := by decide +kernel
theorem own_d8_19 : decode prog_5_method_4_code 19 = .ok (.aload_n 0, 1) := by decide +kernel
theorem own_d8_20 : decode prog_5_method_4_code 20 = .ok (.iload_n 2, 1) := by decide +kernel
theorem own_d8_21 : decode prog_5_method_4_code 21 = .ok (.iaload, 1) := by decide +kernel
theorem own_d8_22 : decode prog_5_method_4_code 22 = .ok (.sipush 255, 3) := by decide +kernel
theorem own_d8_25 : decode prog_5_method_4_code 25 = .ok (.iand, 1) := by decide +kernel
theorem own_d8_26 : decode prog_5_method_4_code 26 = .ok (.ior, 1) := by decide +kernel
theorem own_d8_27 : decode prog_5_method_4_code 27 = .ok (.istore_n 1, 1) := by decide +kernel
theorem own_d8_28 : decode prog_5_method_4_code 28 = .ok (.iinc 2 (-1), 3) := by decide +kernel
theorem own_d8_31 : decode prog_5_method_4_code 31 = .ok (.goto (-20), 3) := by decide +kernel
theorem own_d8_34 : decode prog_5_method_4_code 34 = .ok (.iload_n 1, 1) := by decide +kernel
theorem own_d8_35 : decode prog_5_method_4_code 35 = .ok (.ireturn, 1) := by decide +kernel
abbrev own_ky1_R : Room := { frames := 1, cells := 0, slots := 0, locals := 13 }
theorem own_pn8 : plainFor (⟨"com/example/skipstitch/skipstitch/GramTable", "keyOfFirst", "([I)I"⟩ : MethodName) = true := plainFor_of_name (by first | (simp [plainName, overriddenIn]; done) | decide +kernel)
theorem own_ky1_ef (m : MethodId) (a1 : Addr) : entryFrame m #[(.ref a1)] 3 = mkF m 0 #[.val (.ref a1), .unset, .unset] [] := by first | (simp [entryFrame, mkF, argsToLocals, Value.category]; done) | rfl
def own_Fk1 (p0 : Int32) : Int32 := (let vg2 : Int32 := (((0 : Int32) <<< ((8 : Int32) &&& 31)) ||| (p0 &&& (255 : Int32))); vg2)
set_option maxRecDepth 65536 in
set_option maxHeartbeats 40000000 in
theorem own_ky1 (l : Launch) (Z : State) (a0 : Array Value) (hw : ∀ d ∈ tables_1, d.before a0 Z = true) (ws : List Jvm.Cond) (a1 : Addr) (k_1 : ClassId) (p0 : Int32) (h0 : Heap)  (i_A1 : Arv Z h0 a1 k_1 .int (1 : Int32) [(.int p0)] (.int (0 : Int32))) :
    own_C l Z (⟨"com/example/skipstitch/skipstitch/GramTable", "keyOfFirst", "([I)I"⟩ : MethodName) prog_5_method_4_code 3 (some .int) ws own_ky1_R #[(.ref a1)] h0 (own_Q (.int (own_Fk1 p0)) h0) := by
  refine MetFree.of_bodySF own_pn8 hisR ?_
  intro p e s m args below meth c s₁ Bd hml0 hP hK
  obtain ⟨rfl, hZ, hh⟩ := hP
  have hx := Bd.exec
  have hby := Bd.bytes
  have hml : c.maxLocals = 3 := hml0
  have hown : s.vm.findClass "com/example/skipstitch/skipstitch/GramTable" = some m.cls := findClass_of_methodNamed Bd.named
  have hnm := (name_of_methodNamed Bd.named Bd.method).1
  have X0 : Stand p l e own_ky1_R s m #[(.ref a1)] below meth c s₁ [] 0 0 := Stand.of_body Bd
  have e0 : s₁.heap = h0 := by rw [← hh, Bd.state]; rfl
  show own_G p e below (own_P s (own_Q (.int (own_Fk1 p0)) h0) own_ky1_R.cells own_ky1_R.slots) (s₁.setTop (entryFrame m #[(.ref a1)] 3))
  rw [own_ky1_ef m a1]
  show own_H s₁ 0 #[.val (.ref a1), .unset, .unset] []
  refine own_via (fun t k => XS.iconst X0.here hx rfl (hb hby own_d8_0) k) ?_
  show own_H s₁ 1 #[.val (.ref a1), .unset, .unset] [(.int (0 : Int32))]
  refine own_via (fun t k => XS.istoreN X0.here hx rfl (hb hby own_d8_1) rfl (l' := #[.val (.ref a1), .val (.int (0 : Int32)), .unset]) rfl k) ?_
  refine own_via (fun t k => XS.aloadN X0.here hx rfl (hb hby own_d8_2) rfl rfl k) ?_
  show own_H s₁ 3 #[.val (.ref a1), .val (.int (0 : Int32)), .unset] [(.ref a1)]
  refine own_via (own_len X0 hx hZ e0 i_A1 (pc := 3) (Ls := #[.val (.ref a1), .val (.int (0 : Int32)), .unset]) (rest := []) (hb hby own_d8_3)) ?_
  show own_H s₁ 4 #[.val (.ref a1), .val (.int (0 : Int32)), .unset] [(.int (1 : Int32))]
  refine own_via (fun t k => XS.iconst X0.here hx rfl (hb hby own_d8_4) k) ?_
  show own_H s₁ 5 #[.val (.ref a1), .val (.int (0 : Int32)), .unset] [(.int (4 : Int32)), (.int (1 : Int32))]
  obtain ⟨T1, X1, e1, st1⟩ := own_callP (y := (⟨"java/lang/Math", "min", "(II)I"⟩ : MethodName)) (W := 0) X0 hx hZ hown (own_u hw 38 rfl) (own_u hw 39 rfl) (own_u hw 40 rfl) (own_u hw 41 rfl) (by decide) (own_rm7 l Z a0 hw [] (1 : Int32) (4 : Int32) h0) (by decide) (by decide) rfl rfl (by decide) (by decide) e0 (pc := 5) (Ls := #[.val (.ref a1), .val (.int (0 : Int32)), .unset]) (st := [(.int (4 : Int32)), (.int (1 : Int32))]) (argsL := [(.int (1 : Int32)), (.int (4 : Int32))]) (rest := []) (by rw [hml]; rfl) (lenOf own_pd2 rfl) rfl rfl (Nat.le_of_eq rfl) (hb hby own_d8_5)
  refine own_via st1 ?_
  show own_H T1 8 #[.val (.ref a1), .val (.int (0 : Int32)), .unset] [(.int (own_F7 (1 : Int32) (4 : Int32)))]
  rw [show (own_F7 (1 : Int32) (4 : Int32)) = (1 : Int32) from (by decide)]
  show own_H T1 8 #[.val (.ref a1), .val (.int (0 : Int32)), .unset] [(.int (1 : Int32))]
  refine own_via (fun t k => XS.iconst X1.here hx rfl (hb hby own_d8_8) k) ?_
  show own_H T1 9 #[.val (.ref a1), .val (.int (0 : Int32)), .unset] [(.int (1 : Int32)), (.int (1 : Int32))]
  refine own_via (fun t k => XS.isub X1.here hx rfl (hb hby own_d8_9) rfl k) ?_
  show own_H T1 10 #[.val (.ref a1), .val (.int (0 : Int32)), .unset] [(.int (0 : Int32))]
  refine own_via (fun t k => XS.istoreN X1.here hx rfl (hb hby own_d8_10) rfl (l' := #[.val (.ref a1), .val (.int (0 : Int32)), .val (.int (0 : Int32))]) rfl k) ?_
  refine own_via (fun t k => XS.iloadN X1.here hx rfl (hb hby own_d8_11) rfl k) ?_
  show own_H T1 12 #[.val (.ref a1), .val (.int (0 : Int32)), .val (.int (0 : Int32))] [(.int (0 : Int32))]
  refine own_via (fun t k => XS.ifNo X1.here hx rfl (hb hby own_d8_12) rfl ((if0 _ _).trans (flt (by decide : ¬ ((0 : Int32) < (0 : Int32)))).1) k) ?_
  show own_H T1 15 #[.val (.ref a1), .val (.int (0 : Int32)), .val (.int (0 : Int32))] []
  refine own_via (fun t k => XS.iloadN X1.here hx rfl (hb hby own_d8_15) rfl k) ?_
  refine own_via (fun t k => XS.bipush X1.here hx rfl (hb hby own_d8_16) k) ?_
  show own_H T1 18 #[.val (.ref a1), .val (.int (0 : Int32)), .val (.int (0 : Int32))] [(.int (8 : Int32)), (.int (0 : Int32))]
  refine own_via (fun t k => XS.ishl X1.here hx rfl (hb hby own_d8_18) rfl k) ?_
  refine own_via (fun t k => XS.aloadN X1.here hx rfl (hb hby own_d8_19) rfl rfl k) ?_
  refine own_via (fun t k => XS.iloadN X1.here hx rfl (hb hby own_d8_20) rfl k) ?_
  show own_H T1 21 #[.val (.ref a1), .val (.int (0 : Int32)), .val (.int (0 : Int32))] [(.int (0 : Int32)), (.ref a1), (.int ((0 : Int32) <<< ((8 : Int32) &&& 31)))]
  refine own_via (own_ldI X1 hx hZ e1 i_A1 (j := (0 : Int32)) ⟨by decide, by decide⟩ (v := (.int p0)) rfl (pc := 21) (Ls := #[.val (.ref a1), .val (.int (0 : Int32)), .val (.int (0 : Int32))]) (rest := [(.int ((0 : Int32) <<< ((8 : Int32) &&& 31)))]) (hb hby own_d8_21)) ?_
  show own_H T1 22 #[.val (.ref a1), .val (.int (0 : Int32)), .val (.int (0 : Int32))] [(.int p0), (.int ((0 : Int32) <<< ((8 : Int32) &&& 31)))]
  refine own_via (fun t k => XS.sipush X1.here hx rfl (hb hby own_d8_22) k) ?_
  show own_H T1 25 #[.val (.ref a1), .val (.int (0 : Int32)), .val (.int (0 : Int32))] [(.int (255 : Int32)), (.int p0), (.int ((0 : Int32) <<< ((8 : Int32) &&& 31)))]
  refine own_via (fun t k => XS.iand X1.here hx rfl (hb hby own_d8_25) rfl k) ?_
  show own_H T1 26 #[.val (.ref a1), .val (.int (0 : Int32)), .val (.int (0 : Int32))] [(.int (p0 &&& (255 : Int32))), (.int ((0 : Int32) <<< ((8 : Int32) &&& 31)))]
  refine own_via (fun t k => XS.ior X1.here hx rfl (hb hby own_d8_26) rfl k) ?_
  show own_H T1 27 #[.val (.ref a1), .val (.int (0 : Int32)), .val (.int (0 : Int32))] [(.int (((0 : Int32) <<< ((8 : Int32) &&& 31)) ||| (p0 &&& (255 : Int32))))]
  generalize hvg2 : (((0 : Int32) <<< ((8 : Int32) &&& 31)) ||| (p0 &&& (255 : Int32))) = vg2
  show own_H T1 27 #[.val (.ref a1), .val (.int (0 : Int32)), .val (.int (0 : Int32))] [(.int vg2)]
  refine own_via (fun t k => XS.istoreN X1.here hx rfl (hb hby own_d8_27) rfl (l' := #[.val (.ref a1), .val (.int vg2), .val (.int (0 : Int32))]) rfl k) ?_
  show own_H T1 28 #[.val (.ref a1), .val (.int vg2), .val (.int (0 : Int32))] []
  refine own_via (fun t k => XS.iinc X1.here hx rfl (hb hby own_d8_28) rfl (l' := #[.val (.ref a1), .val (.int vg2), .val (.int (-1 : Int32))]) rfl k) ?_
  show own_H T1 31 #[.val (.ref a1), .val (.int vg2), .val (.int (-1 : Int32))] []
  refine own_via (fun t k => XS.goto X1.here hx rfl (pc0 := 31) (pc' := 11) rfl (hb hby own_d8_31) (by decide) (by decide) k) ?_
  refine own_via (fun t k => XS.iloadN X1.here hx rfl (hb hby own_d8_11) rfl k) ?_
  show own_H T1 12 #[.val (.ref a1), .val (.int vg2), .val (.int (-1 : Int32))] [(.int (-1 : Int32))]
  refine own_via (fun t k => XS.ifYes X1.here hx rfl (pc0 := 12) (pc' := 34) rfl (hb hby own_d8_12) rfl ((if0 _ _).trans (tlt (by decide : (-1 : Int32) < (0 : Int32))).1) (by decide) (by decide) k) ?_
  show own_H T1 34 #[.val (.ref a1), .val (.int vg2), .val (.int (-1 : Int32))] []
  refine own_via (fun t k => XS.iloadN X1.here hx rfl (hb hby own_d8_34) rfl k) ?_
  show own_H T1 35 #[.val (.ref a1), .val (.int vg2), .val (.int (-1 : Int32))] [(.int vg2)]
  exact own_retI X1 hx Bd.returns Bd.notSynchronized (hb hby own_d8_35) ⟨(by show (some (.int vg2) : Option Value) = some (.int (own_Fk1 p0)); subst hvg2; simp only [own_Fk1]), rfl, e1⟩ (by decide) (by decide)
abbrev own_gt2_R : Room := { frames := 1, cells := 0, slots := 0, locals := 13 }
theorem own_gt2_ef (m : MethodId) (a1 : Addr) : entryFrame m #[(.ref a1)] 7 = mkF m 0 #[.val (.ref a1), .unset, .unset, .unset, .unset, .unset, .unset] [] := by first | (simp [entryFrame, mkF, argsToLocals, Value.category]; done) | rfl
set_option maxRecDepth 65536 in
set_option maxHeartbeats 40000000 in
theorem own_gt2 (l : Launch) (Z : State) (a0 : Array Value) (hw : ∀ d ∈ tables_1, d.before a0 Z = true) (ws : List Jvm.Cond) (a1 : Addr) (k_1 : ClassId) (p0 : Int32) (p1 : Int32) (h0 : Heap)  (i_A1 : Arv Z h0 a1 k_1 .int (2 : Int32) [(.int p0), (.int p1)] (.int (0 : Int32))) :
    own_C l Z (⟨"com/example/skipstitch/skipstitch/GramTable", "of", "([I)Lcom/example/skipstitch/skipstitch/GramTable;"⟩ : MethodName) prog_5_method_2_code 7 (some (.object "com/example/skipstitch/skipstitch/GramTable")) ws own_gt2_R #[(.ref a1)] h0 (own_Q .null h0) := by
  refine MetFree.of_bodySF own_pn6 hisR ?_
  intro p e s m args below meth c s₁ Bd hml0 hP hK
  obtain ⟨rfl, hZ, hh⟩ := hP
  have hx := Bd.exec
  have hby := Bd.bytes
  have hml : c.maxLocals = 7 := hml0
  have hown : s.vm.findClass "com/example/skipstitch/skipstitch/GramTable" = some m.cls := findClass_of_methodNamed Bd.named
  have hnm := (name_of_methodNamed Bd.named Bd.method).1
  have X0 : Stand p l e own_gt2_R s m #[(.ref a1)] below meth c s₁ [] 0 0 := Stand.of_body Bd
  have e0 : s₁.heap = h0 := by rw [← hh, Bd.state]; rfl
  show own_G p e below (own_P s (own_Q .null h0) own_gt2_R.cells own_gt2_R.slots) (s₁.setTop (entryFrame m #[(.ref a1)] 7))
  rw [own_gt2_ef m a1]
  show own_H s₁ 0 #[.val (.ref a1), .unset, .unset, .unset, .unset, .unset, .unset] []
  refine own_via (fun t k => XS.aloadN X0.here hx rfl (hb hby own_d6_0) rfl rfl k) ?_
  show own_H s₁ 1 #[.val (.ref a1), .unset, .unset, .unset, .unset, .unset, .unset] [(.ref a1)]
  refine own_via (own_len X0 hx hZ e0 i_A1 (pc := 1) (Ls := #[.val (.ref a1), .unset, .unset, .unset, .unset, .unset, .unset]) (rest := []) (hb hby own_d6_1)) ?_
  show own_H s₁ 2 #[.val (.ref a1), .unset, .unset, .unset, .unset, .unset, .unset] [(.int (2 : Int32))]
  refine own_via (fun t k => XS.iconst X0.here hx rfl (hb hby own_d6_2) k) ?_
  show own_H s₁ 3 #[.val (.ref a1), .unset, .unset, .unset, .unset, .unset, .unset] [(.int (4 : Int32)), (.int (2 : Int32))]
  refine own_via (fun t k => XS.isub X0.here hx rfl (hb hby own_d6_3) rfl k) ?_
  refine own_via (fun t k => XS.iconst X0.here hx rfl (hb hby own_d6_4) k) ?_
  show own_H s₁ 5 #[.val (.ref a1), .unset, .unset, .unset, .unset, .unset, .unset] [(.int (1 : Int32)), (.int (-2 : Int32))]
  refine own_via (fun t k => XS.iadd X0.here hx rfl (hb hby own_d6_5) rfl k) ?_
  refine own_via (fun t k => XS.bipush X0.here hx rfl (hb hby own_d6_6) k) ?_
  show own_H s₁ 8 #[.val (.ref a1), .unset, .unset, .unset, .unset, .unset, .unset] [(.int (64 : Int32)), (.int (-1 : Int32))]
  obtain ⟨T1, X1, e1, st1⟩ := own_callP (y := (⟨"java/lang/Math", "min", "(II)I"⟩ : MethodName)) (W := 0) X0 hx hZ hown (own_u hw 38 rfl) (own_u hw 39 rfl) (own_u hw 40 rfl) (own_u hw 41 rfl) (by decide) (own_rm7 l Z a0 hw [] (-1 : Int32) (64 : Int32) h0) (by decide) (by decide) rfl rfl (by decide) (by decide) e0 (pc := 8) (Ls := #[.val (.ref a1), .unset, .unset, .unset, .unset, .unset, .unset]) (st := [(.int (64 : Int32)), (.int (-1 : Int32))]) (argsL := [(.int (-1 : Int32)), (.int (64 : Int32))]) (rest := []) (by rw [hml]; rfl) (lenOf own_pd2 rfl) rfl rfl (Nat.le_of_eq rfl) (hb hby own_d6_8)
  refine own_via st1 ?_
  show own_H T1 11 #[.val (.ref a1), .unset, .unset, .unset, .unset, .unset, .unset] [(.int (own_F7 (-1 : Int32) (64 : Int32)))]
  rw [show (own_F7 (-1 : Int32) (64 : Int32)) = (-1 : Int32) from (by decide)]
  show own_H T1 11 #[.val (.ref a1), .unset, .unset, .unset, .unset, .unset, .unset] [(.int (-1 : Int32))]
  refine own_via (fun t k => XS.istoreN X1.here hx rfl (hb hby own_d6_11) rfl (l' := #[.val (.ref a1), .val (.int (-1 : Int32)), .unset, .unset, .unset, .unset, .unset]) rfl k) ?_
  refine own_via (fun t k => XS.iloadN X1.here hx rfl (hb hby own_d6_12) rfl k) ?_
  refine own_via (fun t k => XS.bipush X1.here hx rfl (hb hby own_d6_13) k) ?_
  show own_H T1 15 #[.val (.ref a1), .val (.int (-1 : Int32)), .unset, .unset, .unset, .unset, .unset] [(.int (8 : Int32)), (.int (-1 : Int32))]
  refine own_via (fun t k => XS.icmpNo X1.here hx rfl (hb hby own_d6_15) rfl (tlt (by decide : (-1 : Int32) < (8 : Int32))).2.1 k) ?_
  show own_H T1 18 #[.val (.ref a1), .val (.int (-1 : Int32)), .unset, .unset, .unset, .unset, .unset] []
  refine own_via (fun t k => XS.aconstNull X1.here hx rfl (hb hby own_d6_18) k) ?_
  show own_H T1 19 #[.val (.ref a1), .val (.int (-1 : Int32)), .unset, .unset, .unset, .unset, .unset] [.null]
  exact own_retA X1 hx Bd.returns rfl rfl Bd.notSynchronized (hb hby own_d6_19) ⟨rfl, rfl, e1⟩ (by decide) (by decide)
abbrev own_ky2_R : Room := { frames := 1, cells := 0, slots := 0, locals := 13 }
theorem own_ky2_ef (m : MethodId) (a1 : Addr) : entryFrame m #[(.ref a1)] 3 = mkF m 0 #[.val (.ref a1), .unset, .unset] [] := by first | (simp [entryFrame, mkF, argsToLocals, Value.category]; done) | rfl
def own_Fk2 (p0 : Int32) (p1 : Int32) : Int32 := (let vg2 : Int32 := (((0 : Int32) <<< ((8 : Int32) &&& 31)) ||| (p1 &&& (255 : Int32))); (let vg3 : Int32 := ((vg2 <<< ((8 : Int32) &&& 31)) ||| (p0 &&& (255 : Int32))); vg3))
set_option maxRecDepth 65536 in
set_option maxHeartbeats 40000000 in
theorem own_ky2 (l : Launch) (Z : State) (a0 : Array Value) (hw : ∀ d ∈ tables_1, d.before a0 Z = true) (ws : List Jvm.Cond) (a1 : Addr) (k_1 : ClassId) (p0 : Int32) (p1 : Int32) (h0 : Heap)  (i_A1 : Arv Z h0 a1 k_1 .int (2 : Int32) [(.int p0), (.int p1)] (.int (0 : Int32))) :
    own_C l Z (⟨"com/example/skipstitch/skipstitch/GramTable", "keyOfFirst", "([I)I"⟩ : MethodName) prog_5_method_4_code 3 (some .int) ws own_ky2_R #[(.ref a1)] h0 (own_Q (.int (own_Fk2 p0 p1)) h0) := by
  refine MetFree.of_bodySF own_pn8 hisR ?_
  intro p e s m args below meth c s₁ Bd hml0 hP hK
  obtain ⟨rfl, hZ, hh⟩ := hP
  have hx := Bd.exec
  have hby := Bd.bytes
  have hml : c.maxLocals = 3 := hml0
  have hown : s.vm.findClass "com/example/skipstitch/skipstitch/GramTable" = some m.cls := findClass_of_methodNamed Bd.named
  have hnm := (name_of_methodNamed Bd.named Bd.method).1
  have X0 : Stand p l e own_ky2_R s m #[(.ref a1)] below meth c s₁ [] 0 0 := Stand.of_body Bd
  have e0 : s₁.heap = h0 := by rw [← hh, Bd.state]; rfl
  show own_G p e below (own_P s (own_Q (.int (own_Fk2 p0 p1)) h0) own_ky2_R.cells own_ky2_R.slots) (s₁.setTop (entryFrame m #[(.ref a1)] 3))
  rw [own_ky2_ef m a1]
  show own_H s₁ 0 #[.val (.ref a1), .unset, .unset] []
  refine own_via (fun t k => XS.iconst X0.here hx rfl (hb hby own_d8_0) k) ?_
  show own_H s₁ 1 #[.val (.ref a1), .unset, .unset] [(.int (0 : Int32))]
  refine own_via (fun t k => XS.istoreN X0.here hx rfl (hb hby own_d8_1) rfl (l' := #[.val (.ref a1), .val (.int (0 : Int32)), .unset]) rfl k) ?_
  refine own_via (fun t k => XS.aloadN X0.here hx rfl (hb hby own_d8_2) rfl rfl k) ?_
  show own_H s₁ 3 #[.val (.ref a1), .val (.int (0 : Int32)), .unset] [(.ref a1)]
  refine own_via (own_len X0 hx hZ e0 i_A1 (pc := 3) (Ls := #[.val (.ref a1), .val (.int (0 : Int32)), .unset]) (rest := []) (hb hby own_d8_3)) ?_
  show own_H s₁ 4 #[.val (.ref a1), .val (.int (0 : Int32)), .unset] [(.int (2 : Int32))]
  refine own_via (fun t k => XS.iconst X0.here hx rfl (hb hby own_d8_4) k) ?_
  show own_H s₁ 5 #[.val (.ref a1), .val (.int (0 : Int32)), .unset] [(.int (4 : Int32)), (.int (2 : Int32))]
  obtain ⟨T1, X1, e1, st1⟩ := own_callP (y := (⟨"java/lang/Math", "min", "(II)I"⟩ : MethodName)) (W := 0) X0 hx hZ hown (own_u hw 38 rfl) (own_u hw 39 rfl) (own_u hw 40 rfl) (own_u hw 41 rfl) (by decide) (own_rm7 l Z a0 hw [] (2 : Int32) (4 : Int32) h0) (by decide) (by decide) rfl rfl (by decide) (by decide) e0 (pc := 5) (Ls := #[.val (.ref a1), .val (.int (0 : Int32)), .unset]) (st := [(.int (4 : Int32)), (.int (2 : Int32))]) (argsL := [(.int (2 : Int32)), (.int (4 : Int32))]) (rest := []) (by rw [hml]; rfl) (lenOf own_pd2 rfl) rfl rfl (Nat.le_of_eq rfl) (hb hby own_d8_5)
  refine own_via st1 ?_
  show own_H T1 8 #[.val (.ref a1), .val (.int (0 : Int32)), .unset] [(.int (own_F7 (2 : Int32) (4 : Int32)))]
  rw [show (own_F7 (2 : Int32) (4 : Int32)) = (2 : Int32) from (by decide)]
  show own_H T1 8 #[.val (.ref a1), .val (.int (0 : Int32)), .unset] [(.int (2 : Int32))]
  refine own_via (fun t k => XS.iconst X1.here hx rfl (hb hby own_d8_8) k) ?_
  show own_H T1 9 #[.val (.ref a1), .val (.int (0 : Int32)), .unset] [(.int (1 : Int32)), (.int (2 : Int32))]
  refine own_via (fun t k => XS.isub X1.here hx rfl (hb hby own_d8_9) rfl k) ?_
  show own_H T1 10 #[.val (.ref a1), .val (.int (0 : Int32)), .unset] [(.int (1 : Int32))]
  refine own_via (fun t k => XS.istoreN X1.here hx rfl (hb hby own_d8_10) rfl (l' := #[.val (.ref a1), .val (.int (0 : Int32)), .val (.int (1 : Int32))]) rfl k) ?_
  refine own_via (fun t k => XS.iloadN X1.here hx rfl (hb hby own_d8_11) rfl k) ?_
  show own_H T1 12 #[.val (.ref a1), .val (.int (0 : Int32)), .val (.int (1 : Int32))] [(.int (1 : Int32))]
  refine own_via (fun t k => XS.ifNo X1.here hx rfl (hb hby own_d8_12) rfl ((if0 _ _).trans (flt (by decide : ¬ ((1 : Int32) < (0 : Int32)))).1) k) ?_
  show own_H T1 15 #[.val (.ref a1), .val (.int (0 : Int32)), .val (.int (1 : Int32))] []
  refine own_via (fun t k => XS.iloadN X1.here hx rfl (hb hby own_d8_15) rfl k) ?_
  refine own_via (fun t k => XS.bipush X1.here hx rfl (hb hby own_d8_16) k) ?_
  show own_H T1 18 #[.val (.ref a1), .val (.int (0 : Int32)), .val (.int (1 : Int32))] [(.int (8 : Int32)), (.int (0 : Int32))]
  refine own_via (fun t k => XS.ishl X1.here hx rfl (hb hby own_d8_18) rfl k) ?_
  refine own_via (fun t k => XS.aloadN X1.here hx rfl (hb hby own_d8_19) rfl rfl k) ?_
  refine own_via (fun t k => XS.iloadN X1.here hx rfl (hb hby own_d8_20) rfl k) ?_
  show own_H T1 21 #[.val (.ref a1), .val (.int (0 : Int32)), .val (.int (1 : Int32))] [(.int (1 : Int32)), (.ref a1), (.int ((0 : Int32) <<< ((8 : Int32) &&& 31)))]
  refine own_via (own_ldI X1 hx hZ e1 i_A1 (j := (1 : Int32)) ⟨by decide, by decide⟩ (v := (.int p1)) rfl (pc := 21) (Ls := #[.val (.ref a1), .val (.int (0 : Int32)), .val (.int (1 : Int32))]) (rest := [(.int ((0 : Int32) <<< ((8 : Int32) &&& 31)))]) (hb hby own_d8_21)) ?_
  show own_H T1 22 #[.val (.ref a1), .val (.int (0 : Int32)), .val (.int (1 : Int32))] [(.int p1), (.int ((0 : Int32) <<< ((8 : Int32) &&& 31)))]
  refine own_via (fun t k => XS.sipush X1.here hx rfl (hb hby own_d8_22) k) ?_
  show own_H T1 25 #[.val (.ref a1), .val (.int (0 : Int32)), .val (.int (1 : Int32))] [(.int (255 : Int32)), (.int p1), (.int ((0 : Int32) <<< ((8 : Int32) &&& 31)))]
  refine own_via (fun t k => XS.iand X1.here hx rfl (hb hby own_d8_25) rfl k) ?_
  show own_H T1 26 #[.val (.ref a1), .val (.int (0 : Int32)), .val (.int (1 : Int32))] [(.int (p1 &&& (255 : Int32))), (.int ((0 : Int32) <<< ((8 : Int32) &&& 31)))]
  refine own_via (fun t k => XS.ior X1.here hx rfl (hb hby own_d8_26) rfl k) ?_
  show own_H T1 27 #[.val (.ref a1), .val (.int (0 : Int32)), .val (.int (1 : Int32))] [(.int (((0 : Int32) <<< ((8 : Int32) &&& 31)) ||| (p1 &&& (255 : Int32))))]
  generalize hvg2 : (((0 : Int32) <<< ((8 : Int32) &&& 31)) ||| (p1 &&& (255 : Int32))) = vg2
  show own_H T1 27 #[.val (.ref a1), .val (.int (0 : Int32)), .val (.int (1 : Int32))] [(.int vg2)]
  refine own_via (fun t k => XS.istoreN X1.here hx rfl (hb hby own_d8_27) rfl (l' := #[.val (.ref a1), .val (.int vg2), .val (.int (1 : Int32))]) rfl k) ?_
  show own_H T1 28 #[.val (.ref a1), .val (.int vg2), .val (.int (1 : Int32))] []
  refine own_via (fun t k => XS.iinc X1.here hx rfl (hb hby own_d8_28) rfl (l' := #[.val (.ref a1), .val (.int vg2), .val (.int (0 : Int32))]) rfl k) ?_
  show own_H T1 31 #[.val (.ref a1), .val (.int vg2), .val (.int (0 : Int32))] []
  refine own_via (fun t k => XS.goto X1.here hx rfl (pc0 := 31) (pc' := 11) rfl (hb hby own_d8_31) (by decide) (by decide) k) ?_
  refine own_via (fun t k => XS.iloadN X1.here hx rfl (hb hby own_d8_11) rfl k) ?_
  show own_H T1 12 #[.val (.ref a1), .val (.int vg2), .val (.int (0 : Int32))] [(.int (0 : Int32))]
  refine own_via (fun t k => XS.ifNo X1.here hx rfl (hb hby own_d8_12) rfl ((if0 _ _).trans (flt (by decide : ¬ ((0 : Int32) < (0 : Int32)))).1) k) ?_
  show own_H T1 15 #[.val (.ref a1), .val (.int vg2), .val (.int (0 : Int32))] []
  refine own_via (fun t k => XS.iloadN X1.here hx rfl (hb hby own_d8_15) rfl k) ?_
  refine own_via (fun t k => XS.bipush X1.here hx rfl (hb hby own_d8_16) k) ?_
  show own_H T1 18 #[.val (.ref a1), .val (.int vg2), .val (.int (0 : Int32))] [(.int (8 : Int32)), (.int vg2)]
  refine own_via (fun t k => XS.ishl X1.here hx rfl (hb hby own_d8_18) rfl k) ?_
  refine own_via (fun t k => XS.aloadN X1.here hx rfl (hb hby own_d8_19) rfl rfl k) ?_
  refine own_via (fun t k => XS.iloadN X1.here hx rfl (hb hby own_d8_20) rfl k) ?_
  show own_H T1 21 #[.val (.ref a1), .val (.int vg2), .val (.int (0 : Int32))] [(.int (0 : Int32)), (.ref a1), (.int (vg2 <<< ((8 : Int32) &&& 31)))]
  refine own_via (own_ldI X1 hx hZ e1 i_A1 (j := (0 : Int32)) ⟨by decide, by decide⟩ (v := (.int p0)) rfl (pc := 21) (Ls := #[.val (.ref a1), .val (.int vg2), .val (.int (0 : Int32))]) (rest := [(.int (vg2 <<< ((8 : Int32) &&& 31)))]) (hb hby own_d8_21)) ?_
  show own_H T1 22 #[.val (.ref a1), .val (.int vg2), .val (.int (0 : Int32))] [(.int p0), (.int (vg2 <<< ((8 : Int32) &&& 31)))]
  refine own_via (fun t k => XS.sipush X1.here hx rfl (hb hby own_d8_22) k) ?_
  show own_H T1 25 #[.val (.ref a1), .val (.int vg2), .val (.int (0 : Int32))] [(.int (255 : Int32)), (.int p0), (.int (vg2 <<< ((8 : Int32) &&& 31)))]
  refine own_via (fun t k => XS.iand X1.here hx rfl (hb hby own_d8_25) rfl k) ?_
  show own_H T1 26 #[.val (.ref a1), .val (.int vg2), .val (.int (0 : Int32))] [(.int (p0 &&& (255 : Int32))), (.int (vg2 <<< ((8 : Int32) &&& 31)))]
  refine own_via (fun t k => XS.ior X1.here hx rfl (hb hby own_d8_26) rfl k) ?_
  show own_H T1 27 #[.val (.ref a1), .val (.int vg2), .val (.int (0 : Int32))] [(.int ((vg2 <<< ((8 : Int32) &&& 31)) ||| (p0 &&& (255 : Int32))))]
  generalize hvg3 : ((vg2 <<< ((8 : Int32) &&& 31)) ||| (p0 &&& (255 : Int32))) = vg3
  show own_H T1 27 #[.val (.ref a1), .val (.int vg2), .val (.int (0 : Int32))] [(.int vg3)]
  refine own_via (fun t k => XS.istoreN X1.here hx rfl (hb hby own_d8_27) rfl (l' := #[.val (.ref a1), .val (.int vg3), .val (.int (0 : Int32))]) rfl k) ?_
  show own_H T1 28 #[.val (.ref a1), .val (.int vg3), .val (.int (0 : Int32))] []
  refine own_via (fun t k => XS.iinc X1.here hx rfl (hb hby own_d8_28) rfl (l' := #[.val (.ref a1), .val (.int vg3), .val (.int (-1 : Int32))]) rfl k) ?_
  show own_H T1 31 #[.val (.ref a1), .val (.int vg3), .val (.int (-1 : Int32))] []
  refine own_via (fun t k => XS.goto X1.here hx rfl (pc0 := 31) (pc' := 11) rfl (hb hby own_d8_31) (by decide) (by decide) k) ?_
  refine own_via (fun t k => XS.iloadN X1.here hx rfl (hb hby own_d8_11) rfl k) ?_
  show own_H T1 12 #[.val (.ref a1), .val (.int vg3), .val (.int (-1 : Int32))] [(.int (-1 : Int32))]
  refine own_via (fun t k => XS.ifYes X1.here hx rfl (pc0 := 12) (pc' := 34) rfl (hb hby own_d8_12) rfl ((if0 _ _).trans (tlt (by decide : (-1 : Int32) < (0 : Int32))).1) (by decide) (by decide) k) ?_
  show own_H T1 34 #[.val (.ref a1), .val (.int vg3), .val (.int (-1 : Int32))] []
  refine own_via (fun t k => XS.iloadN X1.here hx rfl (hb hby own_d8_34) rfl k) ?_
  show own_H T1 35 #[.val (.ref a1), .val (.int vg3), .val (.int (-1 : Int32))] [(.int vg3)]
  exact own_retI X1 hx Bd.returns Bd.notSynchronized (hb hby own_d8_35) ⟨(by show (some (.int vg3) : Option Value) = some (.int (own_Fk2 p0 p1)); subst hvg3; subst hvg2; simp only [own_Fk2]), rfl, e1⟩ (by decide) (by decide)
abbrev own_gt3_R : Room := { frames := 1, cells := 0, slots := 0, locals := 13 }
theorem own_gt3_ef (m : MethodId) (a1 : Addr) : entryFrame m #[(.ref a1)] 7 = mkF m 0 #[.val (.ref a1), .unset, .unset, .unset, .unset, .unset, .unset] [] := by first | (simp [entryFrame, mkF, argsToLocals, Value.category]; done) | rfl
set_option maxRecDepth 65536 in
set_option maxHeartbeats 40000000 in
theorem own_gt3 (l : Launch) (Z : State) (a0 : Array Value) (hw : ∀ d ∈ tables_1, d.before a0 Z = true) (ws : List Jvm.Cond) (a1 : Addr) (k_1 : ClassId) (p0 : Int32) (p1 : Int32) (p2 : Int32) (h0 : Heap)  (i_A1 : Arv Z h0 a1 k_1 .int (3 : Int32) [(.int p0), (.int p1), (.int p2)] (.int (0 : Int32))) :
    own_C l Z (⟨"com/example/skipstitch/skipstitch/GramTable", "of", "([I)Lcom/example/skipstitch/skipstitch/GramTable;"⟩ : MethodName) prog_5_method_2_code 7 (some (.object "com/example/skipstitch/skipstitch/GramTable")) ws own_gt3_R #[(.ref a1)] h0 (own_Q .null h0) := by
  refine MetFree.of_bodySF own_pn6 hisR ?_
  intro p e s m args below meth c s₁ Bd hml0 hP hK
  obtain ⟨rfl, hZ, hh⟩ := hP
  have hx := Bd.exec
  have hby := Bd.bytes
  have hml : c.maxLocals = 7 := hml0
  have hown : s.vm.findClass "com/example/skipstitch/skipstitch/GramTable" = some m.cls := findClass_of_methodNamed Bd.named
  have hnm := (name_of_methodNamed Bd.named Bd.method).1
  have X0 : Stand p l e own_gt3_R s m #[(.ref a1)] below meth c s₁ [] 0 0 := Stand.of_body Bd
  have e0 : s₁.heap = h0 := by rw [← hh, Bd.state]; rfl
  show own_G p e below (own_P s (own_Q .null h0) own_gt3_R.cells own_gt3_R.slots) (s₁.setTop (entryFrame m #[(.ref a1)] 7))
  rw [own_gt3_ef m a1]
  show own_H s₁ 0 #[.val (.ref a1), .unset, .unset, .unset, .unset, .unset, .unset] []
  refine own_via (fun t k => XS.aloadN X0.here hx rfl (hb hby own_d6_0) rfl rfl k) ?_
  show own_H s₁ 1 #[.val (.ref a1), .unset, .unset, .unset, .unset, .unset, .unset] [(.ref a1)]
  refine own_via (own_len X0 hx hZ e0 i_A1 (pc := 1) (Ls := #[.val (.ref a1), .unset, .unset, .unset, .unset, .unset, .unset]) (rest := []) (hb hby own_d6_1)) ?_
  show own_H s₁ 2 #[.val (.ref a1), .unset, .unset, .unset, .unset, .unset, .unset] [(.int (3 : Int32))]
  refine own_via (fun t k => XS.iconst X0.here hx rfl (hb hby own_d6_2) k) ?_
  show own_H s₁ 3 #[.val (.ref a1), .unset, .unset, .unset, .unset, .unset, .unset] [(.int (4 : Int32)), (.int (3 : Int32))]
  refine own_via (fun t k => XS.isub X0.here hx rfl (hb hby own_d6_3) rfl k) ?_
  refine own_via (fun t k => XS.iconst X0.here hx rfl (hb hby own_d6_4) k) ?_
  show own_H s₁ 5 #[.val (.ref a1), .unset, .unset, .unset, .unset, .unset, .unset] [(.int (1 : Int32)), (.int (-1 : Int32))]
  refine own_via (fun t k => XS.iadd X0.here hx rfl (hb hby own_d6_5) rfl k) ?_
  refine own_via (fun t k => XS.bipush X0.here hx rfl (hb hby own_d6_6) k) ?_
  show own_H s₁ 8 #[.val (.ref a1), .unset, .unset, .unset, .unset, .unset, .unset] [(.int (64 : Int32)), (.int (0 : Int32))]
  obtain ⟨T1, X1, e1, st1⟩ := own_callP (y := (⟨"java/lang/Math", "min", "(II)I"⟩ : MethodName)) (W := 0) X0 hx hZ hown (own_u hw 38 rfl) (own_u hw 39 rfl) (own_u hw 40 rfl) (own_u hw 41 rfl) (by decide) (own_rm7 l Z a0 hw [] (0 : Int32) (64 : Int32) h0) (by decide) (by decide) rfl rfl (by decide) (by decide) e0 (pc := 8) (Ls := #[.val (.ref a1), .unset, .unset, .unset, .unset, .unset, .unset]) (st := [(.int (64 : Int32)), (.int (0 : Int32))]) (argsL := [(.int (0 : Int32)), (.int (64 : Int32))]) (rest := []) (by rw [hml]; rfl) (lenOf own_pd2 rfl) rfl rfl (Nat.le_of_eq rfl) (hb hby own_d6_8)
  refine own_via st1 ?_
  show own_H T1 11 #[.val (.ref a1), .unset, .unset, .unset, .unset, .unset, .unset] [(.int (own_F7 (0 : Int32) (64 : Int32)))]
  rw [show (own_F7 (0 : Int32) (64 : Int32)) = (0 : Int32) from (by decide)]
  show own_H T1 11 #[.val (.ref a1), .unset, .unset, .unset, .unset, .unset, .unset] [(.int (0 : Int32))]
  refine own_via (fun t k => XS.istoreN X1.here hx rfl (hb hby own_d6_11) rfl (l' := #[.val (.ref a1), .val (.int (0 : Int32)), .unset, .unset, .unset, .unset, .unset]) rfl k) ?_
  refine own_via (fun t k => XS.iloadN X1.here hx rfl (hb hby own_d6_12) rfl k) ?_
  refine own_via (fun t k => XS.bipush X1.here hx rfl (hb hby own_d6_13) k) ?_
  show own_H T1 15 #[.val (.ref a1), .val (.int (0 : Int32)), .unset, .unset, .unset, .unset, .unset] [(.int (8 : Int32)), (.int (0 : Int32))]
  refine own_via (fun t k => XS.icmpNo X1.here hx rfl (hb hby own_d6_15) rfl (tlt (by decide : (0 : Int32) < (8 : Int32))).2.1 k) ?_
  show own_H T1 18 #[.val (.ref a1), .val (.int (0 : Int32)), .unset, .unset, .unset, .unset, .unset] []
  refine own_via (fun t k => XS.aconstNull X1.here hx rfl (hb hby own_d6_18) k) ?_
  show own_H T1 19 #[.val (.ref a1), .val (.int (0 : Int32)), .unset, .unset, .unset, .unset, .unset] [.null]
  exact own_retA X1 hx Bd.returns rfl rfl Bd.notSynchronized (hb hby own_d6_19) ⟨rfl, rfl, e1⟩ (by decide) (by decide)
abbrev own_ky3_R : Room := { frames := 1, cells := 0, slots := 0, locals := 13 }
theorem own_ky3_ef (m : MethodId) (a1 : Addr) : entryFrame m #[(.ref a1)] 3 = mkF m 0 #[.val (.ref a1), .unset, .unset] [] := by first | (simp [entryFrame, mkF, argsToLocals, Value.category]; done) | rfl
def own_Fk3 (p0 : Int32) (p1 : Int32) (p2 : Int32) : Int32 := (let vg2 : Int32 := (((0 : Int32) <<< ((8 : Int32) &&& 31)) ||| (p2 &&& (255 : Int32))); (let vg3 : Int32 := ((vg2 <<< ((8 : Int32) &&& 31)) ||| (p1 &&& (255 : Int32))); (let vg4 : Int32 := ((vg3 <<< ((8 : Int32) &&& 31)) ||| (p0 &&& (255 : Int32))); vg4)))
set_option maxRecDepth 65536 in
set_option maxHeartbeats 40000000 in
theorem own_ky3 (l : Launch) (Z : State) (a0 : Array Value) (hw : ∀ d ∈ tables_1, d.before a0 Z = true) (ws : List Jvm.Cond) (a1 : Addr) (k_1 : ClassId) (p0 : Int32) (p1 : Int32) (p2 : Int32) (h0 : Heap)  (i_A1 : Arv Z h0 a1 k_1 .int (3 : Int32) [(.int p0), (.int p1), (.int p2)] (.int (0 : Int32))) :
    own_C l Z (⟨"com/example/skipstitch/skipstitch/GramTable", "keyOfFirst", "([I)I"⟩ : MethodName) prog_5_method_4_code 3 (some .int) ws own_ky3_R #[(.ref a1)] h0 (own_Q (.int (own_Fk3 p0 p1 p2)) h0) := by
  refine MetFree.of_bodySF own_pn8 hisR ?_
  intro p e s m args below meth c s₁ Bd hml0 hP hK
  obtain ⟨rfl, hZ, hh⟩ := hP
  have hx := Bd.exec
  have hby := Bd.bytes
  have hml : c.maxLocals = 3 := hml0
  have hown : s.vm.findClass "com/example/skipstitch/skipstitch/GramTable" = some m.cls := findClass_of_methodNamed Bd.named
  have hnm := (name_of_methodNamed Bd.named Bd.method).1
  have X0 : Stand p l e own_ky3_R s m #[(.ref a1)] below meth c s₁ [] 0 0 := Stand.of_body Bd
  have e0 : s₁.heap = h0 := by rw [← hh, Bd.state]; rfl
  show own_G p e below (own_P s (own_Q (.int (own_Fk3 p0 p1 p2)) h0) own_ky3_R.cells own_ky3_R.slots) (s₁.setTop (entryFrame m #[(.ref a1)] 3))
  rw [own_ky3_ef m a1]
  show own_H s₁ 0 #[.val (.ref a1), .unset, .unset] []
  refine own_via (fun t k => XS.iconst X0.here hx rfl (hb hby own_d8_0) k) ?_
  show own_H s₁ 1 #[.val (.ref a1), .unset, .unset] [(.int (0 : Int32))]
  refine own_via (fun t k => XS.istoreN X0.here hx rfl (hb hby own_d8_1) rfl (l' := #[.val (.ref a1), .val (.int (0 : Int32)), .unset]) rfl k) ?_
  refine own_via (fun t k => XS.aloadN X0.here hx rfl (hb hby own_d8_2) rfl rfl k) ?_
  show own_H s₁ 3 #[.val (.ref a1), .val (.int (0 : Int32)), .unset] [(.ref a1)]
  refine own_via (own_len X0 hx hZ e0 i_A1 (pc := 3) (Ls := #[.val (.ref a1), .val (.int (0 : Int32)), .unset]) (rest := []) (hb hby own_d8_3)) ?_
  show own_H s₁ 4 #[.val (.ref a1), .val (.int (0 : Int32)), .unset] [(.int (3 : Int32))]
  refine own_via (fun t k => XS.iconst X0.here hx rfl (hb hby own_d8_4) k) ?_
  show own_H s₁ 5 #[.val (.ref a1), .val (.int (0 : Int32)), .unset] [(.int (4 : Int32)), (.int (3 : Int32))]
  obtain ⟨T1, X1, e1, st1⟩ := own_callP (y := (⟨"java/lang/Math", "min", "(II)I"⟩ : MethodName)) (W := 0) X0 hx hZ hown (own_u hw 38 rfl) (own_u hw 39 rfl) (own_u hw 40 rfl) (own_u hw 41 rfl) (by decide) (own_rm7 l Z a0 hw [] (3 : Int32) (4 : Int32) h0) (by decide) (by decide) rfl rfl (by decide) (by decide) e0 (pc := 5) (Ls := #[.val (.ref a1), .val (.int (0 : Int32)), .unset]) (st := [(.int (4 : Int32)), (.int (3 : Int32))]) (argsL := [(.int (3 : Int32)), (.int (4 : Int32))]) (rest := []) (by rw [hml]; rfl) (lenOf own_pd2 rfl) rfl rfl (Nat.le_of_eq rfl) (hb hby own_d8_5)
  refine own_via st1 ?_
  show own_H T1 8 #[.val (.ref a1), .val (.int (0 : Int32)), .unset] [(.int (own_F7 (3 : Int32) (4 : Int32)))]
  rw [show (own_F7 (3 : Int32) (4 : Int32)) = (3 : Int32) from (by decide)]
  show own_H T1 8 #[.val (.ref a1), .val (.int (0 : Int32)), .unset] [(.int (3 : Int32))]
  refine own_via (fun t k => XS.iconst X1.here hx rfl (hb hby own_d8_8) k) ?_
  show own_H T1 9 #[.val (.ref a1), .val (.int (0 : Int32)), .unset] [(.int (1 : Int32)), (.int (3 : Int32))]
  refine own_via (fun t k => XS.isub X1.here hx rfl (hb hby own_d8_9) rfl k) ?_
  show own_H T1 10 #[.val (.ref a1), .val (.int (0 : Int32)), .unset] [(.int (2 : Int32))]
  refine own_via (fun t k => XS.istoreN X1.here hx rfl (hb hby own_d8_10) rfl (l' := #[.val (.ref a1), .val (.int (0 : Int32)), .val (.int (2 : Int32))]) rfl k) ?_
  refine own_via (fun t k => XS.iloadN X1.here hx rfl (hb hby own_d8_11) rfl k) ?_
  show own_H T1 12 #[.val (.ref a1), .val (.int (0 : Int32)), .val (.int (2 : Int32))] [(.int (2 : Int32))]
  refine own_via (fun t k => XS.ifNo X1.here hx rfl (hb hby own_d8_12) rfl ((if0 _ _).trans (flt (by decide : ¬ ((2 : Int32) < (0 : Int32)))).1) k) ?_
  show own_H T1 15 #[.val (.ref a1), .val (.int (0 : Int32)), .val (.int (2 : Int32))] []
  refine own_via (fun t k => XS.iloadN X1.here hx rfl (hb hby own_d8_15) rfl k) ?_
  refine own_via (fun t k => XS.bipush X1.here hx rfl (hb hby own_d8_16) k) ?_
  show own_H T1 18 #[.val (.ref a1), .val (.int (0 : Int32)), .val (.int (2 : Int32))] [(.int (8 : Int32)), (.int (0 : Int32))]
  refine own_via (fun t k => XS.ishl X1.here hx rfl (hb hby own_d8_18) rfl k) ?_
  refine own_via (fun t k => XS.aloadN X1.here hx rfl (hb hby own_d8_19) rfl rfl k) ?_
  refine own_via (fun t k => XS.iloadN X1.here hx rfl (hb hby own_d8_20) rfl k) ?_
  show own_H T1 21 #[.val (.ref a1), .val (.int (0 : Int32)), .val (.int (2 : Int32))] [(.int (2 : Int32)), (.ref a1), (.int ((0 : Int32) <<< ((8 : Int32) &&& 31)))]
  refine own_via (own_ldI X1 hx hZ e1 i_A1 (j := (2 : Int32)) ⟨by decide, by decide⟩ (v := (.int p2)) rfl (pc := 21) (Ls := #[.val (.ref a1), .val (.int (0 : Int32)), .val (.int (2 : Int32))]) (rest := [(.int ((0 : Int32) <<< ((8 : Int32) &&& 31)))]) (hb hby own_d8_21)) ?_
  show own_H T1 22 #[.val (.ref a1), .val (.int (0 : Int32)), .val (.int (2 : Int32))] [(.int p2), (.int ((0 : Int32) <<< ((8 : Int32) &&& 31)))]
  refine own_via (fun t k => XS.sipush X1.here hx rfl (hb hby own_d8_22) k) ?_
  show own_H T1 25 #[.val (.ref a1), .val (.int (0 : Int32)), .val (.int (2 : Int32))] [(.int (255 : Int32)), (.int p2), (.int ((0 : Int32) <<< ((8 : Int32) &&& 31)))]
  refine own_via (fun t k => XS.iand X1.here hx rfl (hb hby own_d8_25) rfl k) ?_
  show own_H T1 26 #[.val (.ref a1), .val (.int (0 : Int32)), .val (.int (2 : Int32))] [(.int (p2 &&& (255 : Int32))), (.int ((0 : Int32) <<< ((8 : Int32) &&& 31)))]
  refine own_via (fun t k => XS.ior X1.here hx rfl (hb hby own_d8_26) rfl k) ?_
  show own_H T1 27 #[.val (.ref a1), .val (.int (0 : Int32)), .val (.int (2 : Int32))] [(.int (((0 : Int32) <<< ((8 : Int32) &&& 31)) ||| (p2 &&& (255 : Int32))))]
  generalize hvg2 : (((0 : Int32) <<< ((8 : Int32) &&& 31)) ||| (p2 &&& (255 : Int32))) = vg2
  show own_H T1 27 #[.val (.ref a1), .val (.int (0 : Int32)), .val (.int (2 : Int32))] [(.int vg2)]
  refine own_via (fun t k => XS.istoreN X1.here hx rfl (hb hby own_d8_27) rfl (l' := #[.val (.ref a1), .val (.int vg2), .val (.int (2 : Int32))]) rfl k) ?_
  show own_H T1 28 #[.val (.ref a1), .val (.int vg2), .val (.int (2 : Int32))] []
  refine own_via (fun t k => XS.iinc X1.here hx rfl (hb hby own_d8_28) rfl (l' := #[.val (.ref a1), .val (.int vg2), .val (.int (1 : Int32))]) rfl k) ?_
  show own_H T1 31 #[.val (.ref a1), .val (.int vg2), .val (.int (1 : Int32))] []
  refine own_via (fun t k => XS.goto X1.here hx rfl (pc0 := 31) (pc' := 11) rfl (hb hby own_d8_31) (by decide) (by decide) k) ?_
  refine own_via (fun t k => XS.iloadN X1.here hx rfl (hb hby own_d8_11) rfl k) ?_
  show own_H T1 12 #[.val (.ref a1), .val (.int vg2), .val (.int (1 : Int32))] [(.int (1 : Int32))]
  refine own_via (fun t k => XS.ifNo X1.here hx rfl (hb hby own_d8_12) rfl ((if0 _ _).trans (flt (by decide : ¬ ((1 : Int32) < (0 : Int32)))).1) k) ?_
  show own_H T1 15 #[.val (.ref a1), .val (.int vg2), .val (.int (1 : Int32))] []
  refine own_via (fun t k => XS.iloadN X1.here hx rfl (hb hby own_d8_15) rfl k) ?_
  refine own_via (fun t k => XS.bipush X1.here hx rfl (hb hby own_d8_16) k) ?_
  show own_H T1 18 #[.val (.ref a1), .val (.int vg2), .val (.int (1 : Int32))] [(.int (8 : Int32)), (.int vg2)]
  refine own_via (fun t k => XS.ishl X1.here hx rfl (hb hby own_d8_18) rfl k) ?_
  refine own_via (fun t k => XS.aloadN X1.here hx rfl (hb hby own_d8_19) rfl rfl k) ?_
  refine own_via (fun t k => XS.iloadN X1.here hx rfl (hb hby own_d8_20) rfl k) ?_
  show own_H T1 21 #[.val (.ref a1), .val (.int vg2), .val (.int (1 : Int32))] [(.int (1 : Int32)), (.ref a1), (.int (vg2 <<< ((8 : Int32) &&& 31)))]
  refine own_via (own_ldI X1 hx hZ e1 i_A1 (j := (1 : Int32)) ⟨by decide, by decide⟩ (v := (.int p1)) rfl (pc := 21) (Ls := #[.val (.ref a1), .val (.int vg2), .val (.int (1 : Int32))]) (rest := [(.int (vg2 <<< ((8 : Int32) &&& 31)))]) (hb hby own_d8_21)) ?_
  show own_H T1 22 #[.val (.ref a1), .val (.int vg2), .val (.int (1 : Int32))] [(.int p1), (.int (vg2 <<< ((8 : Int32) &&& 31)))]
  refine own_via (fun t k => XS.sipush X1.here hx rfl (hb hby own_d8_22) k) ?_
  show own_H T1 25 #[.val (.ref a1), .val (.int vg2), .val (.int (1 : Int32))] [(.int (255 : Int32)), (.int p1), (.int (vg2 <<< ((8 : Int32) &&& 31)))]
  refine own_via (fun t k => XS.iand X1.here hx rfl (hb hby own_d8_25) rfl k) ?_
  show own_H T1 26 #[.val (.ref a1), .val (.int vg2), .val (.int (1 : Int32))] [(.int (p1 &&& (255 : Int32))), (.int (vg2 <<< ((8 : Int32) &&& 31)))]
  refine own_via (fun t k => XS.ior X1.here hx rfl (hb hby own_d8_26) rfl k) ?_
  show own_H T1 27 #[.val (.ref a1), .val (.int vg2), .val (.int (1 : Int32))] [(.int ((vg2 <<< ((8 : Int32) &&& 31)) ||| (p1 &&& (255 : Int32))))]
  generalize hvg3 : ((vg2 <<< ((8 : Int32) &&& 31)) ||| (p1 &&& (255 : Int32))) = vg3
  show own_H T1 27 #[.val (.ref a1), .val (.int vg2), .val (.int (1 : Int32))] [(.int vg3)]
  refine own_via (fun t k => XS.istoreN X1.here hx rfl (hb hby own_d8_27) rfl (l' := #[.val (.ref a1), .val (.int vg3), .val (.int (1 : Int32))]) rfl k) ?_
  show own_H T1 28 #[.val (.ref a1), .val (.int vg3), .val (.int (1 : Int32))] []
  refine own_via (fun t k => XS.iinc X1.here hx rfl (hb hby own_d8_28) rfl (l' := #[.val (.ref a1), .val (.int vg3), .val (.int (0 : Int32))]) rfl k) ?_
  show own_H T1 31 #[.val (.ref a1), .val (.int vg3), .val (.int (0 : Int32))] []
  refine own_via (fun t k => XS.goto X1.here hx rfl (pc0 := 31) (pc' := 11) rfl (hb hby own_d8_31) (by decide) (by decide) k) ?_
  refine own_via (fun t k => XS.iloadN X1.here hx rfl (hb hby own_d8_11) rfl k) ?_
  show own_H T1 12 #[.val (.ref a1), .val (.int vg3), .val (.int (0 : Int32))] [(.int (0 : Int32))]
  refine own_via (fun t k => XS.ifNo X1.here hx rfl (hb hby own_d8_12) rfl ((if0 _ _).trans (flt (by decide : ¬ ((0 : Int32) < (0 : Int32)))).1) k) ?_
  show own_H T1 15 #[.val (.ref a1), .val (.int vg3), .val (.int (0 : Int32))] []
  refine own_via (fun t k => XS.iloadN X1.here hx rfl (hb hby own_d8_15) rfl k) ?_
  refine own_via (fun t k => XS.bipush X1.here hx rfl (hb hby own_d8_16) k) ?_
  show own_H T1 18 #[.val (.ref a1), .val (.int vg3), .val (.int (0 : Int32))] [(.int (8 : Int32)), (.int vg3)]
  refine own_via (fun t k => XS.ishl X1.here hx rfl (hb hby own_d8_18) rfl k) ?_
  refine own_via (fun t k => XS.aloadN X1.here hx rfl (hb hby own_d8_19) rfl rfl k) ?_
  refine own_via (fun t k => XS.iloadN X1.here hx rfl (hb hby own_d8_20) rfl k) ?_
  show own_H T1 21 #[.val (.ref a1), .val (.int vg3), .val (.int (0 : Int32))] [(.int (0 : Int32)), (.ref a1), (.int (vg3 <<< ((8 : Int32) &&& 31)))]
  refine own_via (own_ldI X1 hx hZ e1 i_A1 (j := (0 : Int32)) ⟨by decide, by decide⟩ (v := (.int p0)) rfl (pc := 21) (Ls := #[.val (.ref a1), .val (.int vg3), .val (.int (0 : Int32))]) (rest := [(.int (vg3 <<< ((8 : Int32) &&& 31)))]) (hb hby own_d8_21)) ?_
  show own_H T1 22 #[.val (.ref a1), .val (.int vg3), .val (.int (0 : Int32))] [(.int p0), (.int (vg3 <<< ((8 : Int32) &&& 31)))]
  refine own_via (fun t k => XS.sipush X1.here hx rfl (hb hby own_d8_22) k) ?_
  show own_H T1 25 #[.val (.ref a1), .val (.int vg3), .val (.int (0 : Int32))] [(.int (255 : Int32)), (.int p0), (.int (vg3 <<< ((8 : Int32) &&& 31)))]
  refine own_via (fun t k => XS.iand X1.here hx rfl (hb hby own_d8_25) rfl k) ?_
  show own_H T1 26 #[.val (.ref a1), .val (.int vg3), .val (.int (0 : Int32))] [(.int (p0 &&& (255 : Int32))), (.int (vg3 <<< ((8 : Int32) &&& 31)))]
  refine own_via (fun t k => XS.ior X1.here hx rfl (hb hby own_d8_26) rfl k) ?_
  show own_H T1 27 #[.val (.ref a1), .val (.int vg3), .val (.int (0 : Int32))] [(.int ((vg3 <<< ((8 : Int32) &&& 31)) ||| (p0 &&& (255 : Int32))))]
  generalize hvg4 : ((vg3 <<< ((8 : Int32) &&& 31)) ||| (p0 &&& (255 : Int32))) = vg4
  show own_H T1 27 #[.val (.ref a1), .val (.int vg3), .val (.int (0 : Int32))] [(.int vg4)]
  refine own_via (fun t k => XS.istoreN X1.here hx rfl (hb hby own_d8_27) rfl (l' := #[.val (.ref a1), .val (.int vg4), .val (.int (0 : Int32))]) rfl k) ?_
  show own_H T1 28 #[.val (.ref a1), .val (.int vg4), .val (.int (0 : Int32))] []
  refine own_via (fun t k => XS.iinc X1.here hx rfl (hb hby own_d8_28) rfl (l' := #[.val (.ref a1), .val (.int vg4), .val (.int (-1 : Int32))]) rfl k) ?_
  show own_H T1 31 #[.val (.ref a1), .val (.int vg4), .val (.int (-1 : Int32))] []
  refine own_via (fun t k => XS.goto X1.here hx rfl (pc0 := 31) (pc' := 11) rfl (hb hby own_d8_31) (by decide) (by decide) k) ?_
  refine own_via (fun t k => XS.iloadN X1.here hx rfl (hb hby own_d8_11) rfl k) ?_
  show own_H T1 12 #[.val (.ref a1), .val (.int vg4), .val (.int (-1 : Int32))] [(.int (-1 : Int32))]
  refine own_via (fun t k => XS.ifYes X1.here hx rfl (pc0 := 12) (pc' := 34) rfl (hb hby own_d8_12) rfl ((if0 _ _).trans (tlt (by decide : (-1 : Int32) < (0 : Int32))).1) (by decide) (by decide) k) ?_
  show own_H T1 34 #[.val (.ref a1), .val (.int vg4), .val (.int (-1 : Int32))] []
  refine own_via (fun t k => XS.iloadN X1.here hx rfl (hb hby own_d8_34) rfl k) ?_
  show own_H T1 35 #[.val (.ref a1), .val (.int vg4), .val (.int (-1 : Int32))] [(.int vg4)]
  exact own_retI X1 hx Bd.returns Bd.notSynchronized (hb hby own_d8_35) ⟨(by show (some (.int vg4) : Option Value) = some (.int (own_Fk3 p0 p1 p2)); subst hvg4; subst hvg3; subst hvg2; simp only [own_Fk3]), rfl, e1⟩ (by decide) (by decide)
abbrev own_gt4_R : Room := { frames := 1, cells := 0, slots := 0, locals := 13 }
theorem own_gt4_ef (m : MethodId) (a1 : Addr) : entryFrame m #[(.ref a1)] 7 = mkF m 0 #[.val (.ref a1), .unset, .unset, .unset, .unset, .unset, .unset] [] := by first | (simp [entryFrame, mkF, argsToLocals, Value.category]; done) | rfl
set_option maxRecDepth 65536 in
set_option maxHeartbeats 40000000 in
theorem own_gt4 (l : Launch) (Z : State) (a0 : Array Value) (hw : ∀ d ∈ tables_1, d.before a0 Z = true) (ws : List Jvm.Cond) (a1 : Addr) (k_1 : ClassId) (p0 : Int32) (p1 : Int32) (p2 : Int32) (p3 : Int32) (h0 : Heap)  (i_A1 : Arv Z h0 a1 k_1 .int (4 : Int32) [(.int p0), (.int p1), (.int p2), (.int p3)] (.int (0 : Int32))) :
    own_C l Z (⟨"com/example/skipstitch/skipstitch/GramTable", "of", "([I)Lcom/example/skipstitch/skipstitch/GramTable;"⟩ : MethodName) prog_5_method_2_code 7 (some (.object "com/example/skipstitch/skipstitch/GramTable")) ws own_gt4_R #[(.ref a1)] h0 (own_Q .null h0) := by
  refine MetFree.of_bodySF own_pn6 hisR ?_
  intro p e s m args below meth c s₁ Bd hml0 hP hK
  obtain ⟨rfl, hZ, hh⟩ := hP
  have hx := Bd.exec
  have hby := Bd.bytes
  have hml : c.maxLocals = 7 := hml0
  have hown : s.vm.findClass "com/example/skipstitch/skipstitch/GramTable" = some m.cls := findClass_of_methodNamed Bd.named
  have hnm := (name_of_methodNamed Bd.named Bd.method).1
  have X0 : Stand p l e own_gt4_R s m #[(.ref a1)] below meth c s₁ [] 0 0 := Stand.of_body Bd
  have e0 : s₁.heap = h0 := by rw [← hh, Bd.state]; rfl
  show own_G p e below (own_P s (own_Q .null h0) own_gt4_R.cells own_gt4_R.slots) (s₁.setTop (entryFrame m #[(.ref a1)] 7))
  rw [own_gt4_ef m a1]
  show own_H s₁ 0 #[.val (.ref a1), .unset, .unset, .unset, .unset, .unset, .unset] []
  refine own_via (fun t k => XS.aloadN X0.here hx rfl (hb hby own_d6_0) rfl rfl k) ?_
  show own_H s₁ 1 #[.val (.ref a1), .unset, .unset, .unset, .unset, .unset, .unset] [(.ref a1)]
  refine own_via (own_len X0 hx hZ e0 i_A1 (pc := 1) (Ls := #[.val (.ref a1), .unset, .unset, .unset, .unset, .unset, .unset]) (rest := []) (hb hby own_d6_1)) ?_
  show own_H s₁ 2 #[.val (.ref a1), .unset, .unset, .unset, .unset, .unset, .unset] [(.int (4 : Int32))]
  refine own_via (fun t k => XS.iconst X0.here hx rfl (hb hby own_d6_2) k) ?_
  show own_H s₁ 3 #[.val (.ref a1), .unset, .unset, .unset, .unset, .unset, .unset] [(.int (4 : Int32)), (.int (4 : Int32))]
  refine own_via (fun t k => XS.isub X0.here hx rfl (hb hby own_d6_3) rfl k) ?_
  refine own_via (fun t k => XS.iconst X0.here hx rfl (hb hby own_d6_4) k) ?_
  show own_H s₁ 5 #[.val (.ref a1), .unset, .unset, .unset, .unset, .unset, .unset] [(.int (1 : Int32)), (.int (0 : Int32))]
  refine own_via (fun t k => XS.iadd X0.here hx rfl (hb hby own_d6_5) rfl k) ?_
  refine own_via (fun t k => XS.bipush X0.here hx rfl (hb hby own_d6_6) k) ?_
  show own_H s₁ 8 #[.val (.ref a1), .unset, .unset, .unset, .unset, .unset, .unset] [(.int (64 : Int32)), (.int (1 : Int32))]
  obtain ⟨T1, X1, e1, st1⟩ := own_callP (y := (⟨"java/lang/Math", "min", "(II)I"⟩ : MethodName)) (W := 0) X0 hx hZ hown (own_u hw 38 rfl) (own_u hw 39 rfl) (own_u hw 40 rfl) (own_u hw 41 rfl) (by decide) (own_rm7 l Z a0 hw [] (1 : Int32) (64 : Int32) h0) (by decide) (by decide) rfl rfl (by decide) (by decide) e0 (pc := 8) (Ls := #[.val (.ref a1), .unset, .unset, .unset, .unset, .unset, .unset]) (st := [(.int (64 : Int32)), (.int (1 : Int32))]) (argsL := [(.int (1 : Int32)), (.int (64 : Int32))]) (rest := []) (by rw [hml]; rfl) (lenOf own_pd2 rfl) rfl rfl (Nat.le_of_eq rfl) (hb hby own_d6_8)
  refine own_via st1 ?_
  show own_H T1 11 #[.val (.ref a1), .unset, .unset, .unset, .unset, .unset, .unset] [(.int (own_F7 (1 : Int32) (64 : Int32)))]
  rw [show (own_F7 (1 : Int32) (64 : Int32)) = (1 : Int32) from (by decide)]
  show own_H T1 11 #[.val (.ref a1), .unset, .unset, .unset, .unset, .unset, .unset] [(.int (1 : Int32))]
  refine own_via (fun t k => XS.istoreN X1.here hx rfl (hb hby own_d6_11) rfl (l' := #[.val (.ref a1), .val (.int (1 : Int32)), .unset, .unset, .unset, .unset, .unset]) rfl k) ?_
  refine own_via (fun t k => XS.iloadN X1.here hx rfl (hb hby own_d6_12) rfl k) ?_
  refine own_via (fun t k => XS.bipush X1.here hx rfl (hb hby own_d6_13) k) ?_
  show own_H T1 15 #[.val (.ref a1), .val (.int (1 : Int32)), .unset, .unset, .unset, .unset, .unset] [(.int (8 : Int32)), (.int (1 : Int32))]
  refine own_via (fun t k => XS.icmpNo X1.here hx rfl (hb hby own_d6_15) rfl (tlt (by decide : (1 : Int32) < (8 : Int32))).2.1 k) ?_
  show own_H T1 18 #[.val (.ref a1), .val (.int (1 : Int32)), .unset, .unset, .unset, .unset, .unset] []
  refine own_via (fun t k => XS.aconstNull X1.here hx rfl (hb hby own_d6_18) k) ?_
  show own_H T1 19 #[.val (.ref a1), .val (.int (1 : Int32)), .unset, .unset, .unset, .unset, .unset] [.null]
  exact own_retA X1 hx Bd.returns rfl rfl Bd.notSynchronized (hb hby own_d6_19) ⟨rfl, rfl, e1⟩ (by decide) (by decide)
abbrev own_ky4_R : Room := { frames := 1, cells := 0, slots := 0, locals := 13 }
theorem own_ky4_ef (m : MethodId) (a1 : Addr) : entryFrame m #[(.ref a1)] 3 = mkF m 0 #[.val (.ref a1), .unset, .unset] [] := by first | (simp [entryFrame, mkF, argsToLocals, Value.category]; done) | rfl
def own_Fk4 (p0 : Int32) (p1 : Int32) (p2 : Int32) (p3 : Int32) : Int32 := (let vg2 : Int32 := (((0 : Int32) <<< ((8 : Int32) &&& 31)) ||| (p3 &&& (255 : Int32))); (let vg3 : Int32 := ((vg2 <<< ((8 : Int32) &&& 31)) ||| (p2 &&& (255 : Int32))); (let vg4 : Int32 := ((vg3 <<< ((8 : Int32) &&& 31)) ||| (p1 &&& (255 : Int32))); (let vg5 : Int32 := ((vg4 <<< ((8 : Int32) &&& 31)) ||| (p0 &&& (255 : Int32))); vg5))))
set_option maxRecDepth 65536 in
set_option maxHeartbeats 40000000 in
theorem own_ky4 (l : Launch) (Z : State) (a0 : Array Value) (hw : ∀ d ∈ tables_1, d.before a0 Z = true) (ws : List Jvm.Cond) (a1 : Addr) (k_1 : ClassId) (p0 : Int32) (p1 : Int32) (p2 : Int32) (p3 : Int32) (h0 : Heap)  (i_A1 : Arv Z h0 a1 k_1 .int (4 : Int32) [(.int p0), (.int p1), (.int p2), (.int p3)] (.int (0 : Int32))) :
    own_C l Z (⟨"com/example/skipstitch/skipstitch/GramTable", "keyOfFirst", "([I)I"⟩ : MethodName) prog_5_method_4_code 3 (some .int) ws own_ky4_R #[(.ref a1)] h0 (own_Q (.int (own_Fk4 p0 p1 p2 p3)) h0) := by
  refine MetFree.of_bodySF own_pn8 hisR ?_
  intro p e s m args below meth c s₁ Bd hml0 hP hK
  obtain ⟨rfl, hZ, hh⟩ := hP
  have hx := Bd.exec
  have hby := Bd.bytes
  have hml : c.maxLocals = 3 := hml0
  have hown : s.vm.findClass "com/example/skipstitch/skipstitch/GramTable" = some m.cls := findClass_of_methodNamed Bd.named
  have hnm := (name_of_methodNamed Bd.named Bd.method).1
  have X0 : Stand p l e own_ky4_R s m #[(.ref a1)] below meth c s₁ [] 0 0 := Stand.of_body Bd
  have e0 : s₁.heap = h0 := by rw [← hh, Bd.state]; rfl
  show own_G p e below (own_P s (own_Q (.int (own_Fk4 p0 p1 p2 p3)) h0) own_ky4_R.cells own_ky4_R.slots) (s₁.setTop (entryFrame m #[(.ref a1)] 3))
  rw [own_ky4_ef m a1]
  show own_H s₁ 0 #[.val (.ref a1), .unset, .unset] []
  refine own_via (fun t k => XS.iconst X0.here hx rfl (hb hby own_d8_0) k) ?_
  show own_H s₁ 1 #[.val (.ref a1), .unset, .unset] [(.int (0 : Int32))]
  refine own_via (fun t k => XS.istoreN X0.here hx rfl (hb hby own_d8_1) rfl (l' := #[.val (.ref a1), .val (.int (0 : Int32)), .unset]) rfl k) ?_
  refine own_via (fun t k => XS.aloadN X0.here hx rfl (hb hby own_d8_2) rfl rfl k) ?_
  show own_H s₁ 3 #[.val (.ref a1), .val (.int (0 : Int32)), .unset] [(.ref a1)]
  refine own_via (own_len X0 hx hZ e0 i_A1 (pc := 3) (Ls := #[.val (.ref a1), .val (.int (0 : Int32)), .unset]) (rest := []) (hb hby own_d8_3)) ?_
  show own_H s₁ 4 #[.val (.ref a1), .val (.int (0 : Int32)), .unset] [(.int (4 : Int32))]
  refine own_via (fun t k => XS.iconst X0.here hx rfl (hb hby own_d8_4) k) ?_
  show own_H s₁ 5 #[.val (.ref a1), .val (.int (0 : Int32)), .unset] [(.int (4 : Int32)), (.int (4 : Int32))]
  obtain ⟨T1, X1, e1, st1⟩ := own_callP (y := (⟨"java/lang/Math", "min", "(II)I"⟩ : MethodName)) (W := 0) X0 hx hZ hown (own_u hw 38 rfl) (own_u hw 39 rfl) (own_u hw 40 rfl) (own_u hw 41 rfl) (by decide) (own_rm7 l Z a0 hw [] (4 : Int32) (4 : Int32) h0) (by decide) (by decide) rfl rfl (by decide) (by decide) e0 (pc := 5) (Ls := #[.val (.ref a1), .val (.int (0 : Int32)), .unset]) (st := [(.int (4 : Int32)), (.int (4 : Int32))]) (argsL := [(.int (4 : Int32)), (.int (4 : Int32))]) (rest := []) (by rw [hml]; rfl) (lenOf own_pd2 rfl) rfl rfl (Nat.le_of_eq rfl) (hb hby own_d8_5)
  refine own_via st1 ?_
  show own_H T1 8 #[.val (.ref a1), .val (.int (0 : Int32)), .unset] [(.int (own_F7 (4 : Int32) (4 : Int32)))]
  rw [show (own_F7 (4 : Int32) (4 : Int32)) = (4 : Int32) from (by decide)]
  show own_H T1 8 #[.val (.ref a1), .val (.int (0 : Int32)), .unset] [(.int (4 : Int32))]
  refine own_via (fun t k => XS.iconst X1.here hx rfl (hb hby own_d8_8) k) ?_
  show own_H T1 9 #[.val (.ref a1), .val (.int (0 : Int32)), .unset] [(.int (1 : Int32)), (.int (4 : Int32))]
  refine own_via (fun t k => XS.isub X1.here hx rfl (hb hby own_d8_9) rfl k) ?_
  show own_H T1 10 #[.val (.ref a1), .val (.int (0 : Int32)), .unset] [(.int (3 : Int32))]
  refine own_via (fun t k => XS.istoreN X1.here hx rfl (hb hby own_d8_10) rfl (l' := #[.val (.ref a1), .val (.int (0 : Int32)), .val (.int (3 : Int32))]) rfl k) ?_
  refine own_via (fun t k => XS.iloadN X1.here hx rfl (hb hby own_d8_11) rfl k) ?_
  show own_H T1 12 #[.val (.ref a1), .val (.int (0 : Int32)), .val (.int (3 : Int32))] [(.int (3 : Int32))]
  refine own_via (fun t k => XS.ifNo X1.here hx rfl (hb hby own_d8_12) rfl ((if0 _ _).trans (flt (by decide : ¬ ((3 : Int32) < (0 : Int32)))).1) k) ?_
  show own_H T1 15 #[.val (.ref a1), .val (.int (0 : Int32)), .val (.int (3 : Int32))] []
  refine own_via (fun t k => XS.iloadN X1.here hx rfl (hb hby own_d8_15) rfl k) ?_
  refine own_via (fun t k => XS.bipush X1.here hx rfl (hb hby own_d8_16) k) ?_
  show own_H T1 18 #[.val (.ref a1), .val (.int (0 : Int32)), .val (.int (3 : Int32))] [(.int (8 : Int32)), (.int (0 : Int32))]
  refine own_via (fun t k => XS.ishl X1.here hx rfl (hb hby own_d8_18) rfl k) ?_
  refine own_via (fun t k => XS.aloadN X1.here hx rfl (hb hby own_d8_19) rfl rfl k) ?_
  refine own_via (fun t k => XS.iloadN X1.here hx rfl (hb hby own_d8_20) rfl k) ?_
  show own_H T1 21 #[.val (.ref a1), .val (.int (0 : Int32)), .val (.int (3 : Int32))] [(.int (3 : Int32)), (.ref a1), (.int ((0 : Int32) <<< ((8 : Int32) &&& 31)))]
  refine own_via (own_ldI X1 hx hZ e1 i_A1 (j := (3 : Int32)) ⟨by decide, by decide⟩ (v := (.int p3)) rfl (pc := 21) (Ls := #[.val (.ref a1), .val (.int (0 : Int32)), .val (.int (3 : Int32))]) (rest := [(.int ((0 : Int32) <<< ((8 : Int32) &&& 31)))]) (hb hby own_d8_21)) ?_
  show own_H T1 22 #[.val (.ref a1), .val (.int (0 : Int32)), .val (.int (3 : Int32))] [(.int p3), (.int ((0 : Int32) <<< ((8 : Int32) &&& 31)))]
  refine own_via (fun t k => XS.sipush X1.here hx rfl (hb hby own_d8_22) k) ?_
  show own_H T1 25 #[.val (.ref a1), .val (.int (0 : Int32)), .val (.int (3 : Int32))] [(.int (255 : Int32)), (.int p3), (.int ((0 : Int32) <<< ((8 : Int32) &&& 31)))]
  refine own_via (fun t k => XS.iand X1.here hx rfl (hb hby own_d8_25) rfl k) ?_
  show own_H T1 26 #[.val (.ref a1), .val (.int (0 : Int32)), .val (.int (3 : Int32))] [(.int (p3 &&& (255 : Int32))), (.int ((0 : Int32) <<< ((8 : Int32) &&& 31)))]
  refine own_via (fun t k => XS.ior X1.here hx rfl (hb hby own_d8_26) rfl k) ?_
  show own_H T1 27 #[.val (.ref a1), .val (.int (0 : Int32)), .val (.int (3 : Int32))] [(.int (((0 : Int32) <<< ((8 : Int32) &&& 31)) ||| (p3 &&& (255 : Int32))))]
  generalize hvg2 : (((0 : Int32) <<< ((8 : Int32) &&& 31)) ||| (p3 &&& (255 : Int32))) = vg2
  show own_H T1 27 #[.val (.ref a1), .val (.int (0 : Int32)), .val (.int (3 : Int32))] [(.int vg2)]
  refine own_via (fun t k => XS.istoreN X1.here hx rfl (hb hby own_d8_27) rfl (l' := #[.val (.ref a1), .val (.int vg2), .val (.int (3 : Int32))]) rfl k) ?_
  show own_H T1 28 #[.val (.ref a1), .val (.int vg2), .val (.int (3 : Int32))] []
  refine own_via (fun t k => XS.iinc X1.here hx rfl (hb hby own_d8_28) rfl (l' := #[.val (.ref a1), .val (.int vg2), .val (.int (2 : Int32))]) rfl k) ?_
  show own_H T1 31 #[.val (.ref a1), .val (.int vg2), .val (.int (2 : Int32))] []
  refine own_via (fun t k => XS.goto X1.here hx rfl (pc0 := 31) (pc' := 11) rfl (hb hby own_d8_31) (by decide) (by decide) k) ?_
  refine own_via (fun t k => XS.iloadN X1.here hx rfl (hb hby own_d8_11) rfl k) ?_
  show own_H T1 12 #[.val (.ref a1), .val (.int vg2), .val (.int (2 : Int32))] [(.int (2 : Int32))]
  refine own_via (fun t k => XS.ifNo X1.here hx rfl (hb hby own_d8_12) rfl ((if0 _ _).trans (flt (by decide : ¬ ((2 : Int32) < (0 : Int32)))).1) k) ?_
  show own_H T1 15 #[.val (.ref a1), .val (.int vg2), .val (.int (2 : Int32))] []
  refine own_via (fun t k => XS.iloadN X1.here hx rfl (hb hby own_d8_15) rfl k) ?_
  refine own_via (fun t k => XS.bipush X1.here hx rfl (hb hby own_d8_16) k) ?_
  show own_H T1 18 #[.val (.ref a1), .val (.int vg2), .val (.int (2 : Int32))] [(.int (8 : Int32)), (.int vg2)]
  refine own_via (fun t k => XS.ishl X1.here hx rfl (hb hby own_d8_18) rfl k) ?_
  refine own_via (fun t k => XS.aloadN X1.here hx rfl (hb hby own_d8_19) rfl rfl k) ?_
  refine own_via (fun t k => XS.iloadN X1.here hx rfl (hb hby own_d8_20) rfl k) ?_
  show own_H T1 21 #[.val (.ref a1), .val (.int vg2), .val (.int (2 : Int32))] [(.int (2 : Int32)), (.ref a1), (.int (vg2 <<< ((8 : Int32) &&& 31)))]
  refine own_via (own_ldI X1 hx hZ e1 i_A1 (j := (2 : Int32)) ⟨by decide, by decide⟩ (v := (.int p2)) rfl (pc := 21) (Ls := #[.val (.ref a1), .val (.int vg2), .val (.int (2 : Int32))]) (rest := [(.int (vg2 <<< ((8 : Int32) &&& 31)))]) (hb hby own_d8_21)) ?_
  show own_H T1 22 #[.val (.ref a1), .val (.int vg2), .val (.int (2 : Int32))] [(.int p2), (.int (vg2 <<< ((8 : Int32) &&& 31)))]
  refine own_via (fun t k => XS.sipush X1.here hx rfl (hb hby own_d8_22) k) ?_
  show own_H T1 25 #[.val (.ref a1), .val (.int vg2), .val (.int (2 : Int32))] [(.int (255 : Int32)), (.int p2), (.int (vg2 <<< ((8 : Int32) &&& 31)))]
  refine own_via (fun t k => XS.iand X1.here hx rfl (hb hby own_d8_25) rfl k) ?_
  show own_H T1 26 #[.val (.ref a1), .val (.int vg2), .val (.int (2 : Int32))] [(.int (p2 &&& (255 : Int32))), (.int (vg2 <<< ((8 : Int32) &&& 31)))]
  refine own_via (fun t k => XS.ior X1.here hx rfl (hb hby own_d8_26) rfl k) ?_
  show own_H T1 27 #[.val (.ref a1), .val (.int vg2), .val (.int (2 : Int32))] [(.int ((vg2 <<< ((8 : Int32) &&& 31)) ||| (p2 &&& (255 : Int32))))]
  generalize hvg3 : ((vg2 <<< ((8 : Int32) &&& 31)) ||| (p2 &&& (255 : Int32))) = vg3
  show own_H T1 27 #[.val (.ref a1), .val (.int vg2), .val (.int (2 : Int32))] [(.int vg3)]
  refine own_via (fun t k => XS.istoreN X1.here hx rfl (hb hby own_d8_27) rfl (l' := #[.val (.ref a1), .val (.int vg3), .val (.int (2 : Int32))]) rfl k) ?_
  show own_H T1 28 #[.val (.ref a1), .val (.int vg3), .val (.int (2 : Int32))] []
  refine own_via (fun t k => XS.iinc X1.here hx rfl (hb hby own_d8_28) rfl (l' := #[.val (.ref a1), .val (.int vg3), .val (.int (1 : Int32))]) rfl k) ?_
  show own_H T1 31 #[.val (.ref a1), .val (.int vg3), .val (.int (1 : Int32))] []
  refine own_via (fun t k => XS.goto X1.here hx rfl (pc0 := 31) (pc' := 11) rfl (hb hby own_d8_31) (by decide) (by decide) k) ?_
  refine own_via (fun t k => XS.iloadN X1.here hx rfl (hb hby own_d8_11) rfl k) ?_
  show own_H T1 12 #[.val (.ref a1), .val (.int vg3), .val (.int (1 : Int32))] [(.int (1 : Int32))]
  refine own_via (fun t k => XS.ifNo X1.here hx rfl (hb hby own_d8_12) rfl ((if0 _ _).trans (flt (by decide : ¬ ((1 : Int32) < (0 : Int32)))).1) k) ?_
  show own_H T1 15 #[.val (.ref a1), .val (.int vg3), .val (.int (1 : Int32))] []
  refine own_via (fun t k => XS.iloadN X1.here hx rfl (hb hby own_d8_15) rfl k) ?_
  refine own_via (fun t k => XS.bipush X1.here hx rfl (hb hby own_d8_16) k) ?_
  show own_H T1 18 #[.val (.ref a1), .val (.int vg3), .val (.int (1 : Int32))] [(.int (8 : Int32)), (.int vg3)]
  refine own_via (fun t k => XS.ishl X1.here hx rfl (hb hby own_d8_18) rfl k) ?_
  refine own_via (fun t k => XS.aloadN X1.here hx rfl (hb hby own_d8_19) rfl rfl k) ?_
  refine own_via (fun t k => XS.iloadN X1.here hx rfl (hb hby own_d8_20) rfl k) ?_
  show own_H T1 21 #[.val (.ref a1), .val (.int vg3), .val (.int (1 : Int32))] [(.int (1 : Int32)), (.ref a1), (.int (vg3 <<< ((8 : Int32) &&& 31)))]
  refine own_via (own_ldI X1 hx hZ e1 i_A1 (j := (1 : Int32)) ⟨by decide, by decide⟩ (v := (.int p1)) rfl (pc := 21) (Ls := #[.val (.ref a1), .val (.int vg3), .val (.int (1 : Int32))]) (rest := [(.int (vg3 <<< ((8 : Int32) &&& 31)))]) (hb hby own_d8_21)) ?_
  show own_H T1 22 #[.val (.ref a1), .val (.int vg3), .val (.int (1 : Int32))] [(.int p1), (.int (vg3 <<< ((8 : Int32) &&& 31)))]
  refine own_via (fun t k => XS.sipush X1.here hx rfl (hb hby own_d8_22) k) ?_
  show own_H T1 25 #[.val (.ref a1), .val (.int vg3), .val (.int (1 : Int32))] [(.int (255 : Int32)), (.int p1), (.int (vg3 <<< ((8 : Int32) &&& 31)))]
  refine own_via (fun t k => XS.iand X1.here hx rfl (hb hby own_d8_25) rfl k) ?_
  show own_H T1 26 #[.val (.ref a1), .val (.int vg3), .val (.int (1 : Int32))] [(.int (p1 &&& (255 : Int32))), (.int (vg3 <<< ((8 : Int32) &&& 31)))]
  refine own_via (fun t k => XS.ior X1.here hx rfl (hb hby own_d8_26) rfl k) ?_
  show own_H T1 27 #[.val (.ref a1), .val (.int vg3), .val (.int (1 : Int32))] [(.int ((vg3 <<< ((8 : Int32) &&& 31)) ||| (p1 &&& (255 : Int32))))]
  generalize hvg4 : ((vg3 <<< ((8 : Int32) &&& 31)) ||| (p1 &&& (255 : Int32))) = vg4
  show own_H T1 27 #[.val (.ref a1), .val (.int vg3), .val (.int (1 : Int32))] [(.int vg4)]
  refine own_via (fun t k => XS.istoreN X1.here hx rfl (hb hby own_d8_27) rfl (l' := #[.val (.ref a1), .val (.int vg4), .val (.int (1 : Int32))]) rfl k) ?_
  show own_H T1 28 #[.val (.ref a1), .val (.int vg4), .val (.int (1 : Int32))] []
  refine own_via (fun t k => XS.iinc X1.here hx rfl (hb hby own_d8_28) rfl (l' := #[.val (.ref a1), .val (.int vg4), .val (.int (0 : Int32))]) rfl k) ?_
  show own_H T1 31 #[.val (.ref a1), .val (.int vg4), .val (.int (0 : Int32))] []
  refine own_via (fun t k => XS.goto X1.here hx rfl (pc0 := 31) (pc' := 11) rfl (hb hby own_d8_31) (by decide) (by decide) k) ?_
  refine own_via (fun t k => XS.iloadN X1.here hx rfl (hb hby own_d8_11) rfl k) ?_
  show own_H T1 12 #[.val (.ref a1), .val (.int vg4), .val (.int (0 : Int32))] [(.int (0 : Int32))]
  refine own_via (fun t k => XS.ifNo X1.here hx rfl (hb hby own_d8_12) rfl ((if0 _ _).trans (flt (by decide : ¬ ((0 : Int32) < (0 : Int32)))).1) k) ?_
  show own_H T1 15 #[.val (.ref a1), .val (.int vg4), .val (.int (0 : Int32))] []
  refine own_via (fun t k => XS.iloadN X1.here hx rfl (hb hby own_d8_15) rfl k) ?_
  refine own_via (fun t k => XS.bipush X1.here hx rfl (hb hby own_d8_16) k) ?_
  show own_H T1 18 #[.val (.ref a1), .val (.int vg4), .val (.int (0 : Int32))] [(.int (8 : Int32)), (.int vg4)]
  refine own_via (fun t k => XS.ishl X1.here hx rfl (hb hby own_d8_18) rfl k) ?_
  refine own_via (fun t k => XS.aloadN X1.here hx rfl (hb hby own_d8_19) rfl rfl k) ?_
  refine own_via (fun t k => XS.iloadN X1.here hx rfl (hb hby own_d8_20) rfl k) ?_
  show own_H T1 21 #[.val (.ref a1), .val (.int vg4), .val (.int (0 : Int32))] [(.int (0 : Int32)), (.ref a1), (.int (vg4 <<< ((8 : Int32) &&& 31)))]
  refine own_via (own_ldI X1 hx hZ e1 i_A1 (j := (0 : Int32)) ⟨by decide, by decide⟩ (v := (.int p0)) rfl (pc := 21) (Ls := #[.val (.ref a1), .val (.int vg4), .val (.int (0 : Int32))]) (rest := [(.int (vg4 <<< ((8 : Int32) &&& 31)))]) (hb hby own_d8_21)) ?_
  show own_H T1 22 #[.val (.ref a1), .val (.int vg4), .val (.int (0 : Int32))] [(.int p0), (.int (vg4 <<< ((8 : Int32) &&& 31)))]
  refine own_via (fun t k => XS.sipush X1.here hx rfl (hb hby own_d8_22) k) ?_
  show own_H T1 25 #[.val (.ref a1), .val (.int vg4), .val (.int (0 : Int32))] [(.int (255 : Int32)), (.int p0), (.int (vg4 <<< ((8 : Int32) &&& 31)))]
  refine own_via (fun t k => XS.iand X1.here hx rfl (hb hby own_d8_25) rfl k) ?_
  show own_H T1 26 #[.val (.ref a1), .val (.int vg4), .val (.int (0 : Int32))] [(.int (p0 &&& (255 : Int32))), (.int (vg4 <<< ((8 : Int32) &&& 31)))]
  refine own_via (fun t k => XS.ior X1.here hx rfl (hb hby own_d8_26) rfl k) ?_
  show own_H T1 27 #[.val (.ref a1), .val (.int vg4), .val (.int (0 : Int32))] [(.int ((vg4 <<< ((8 : Int32) &&& 31)) ||| (p0 &&& (255 : Int32))))]
  generalize hvg5 : ((vg4 <<< ((8 : Int32) &&& 31)) ||| (p0 &&& (255 : Int32))) = vg5
  show own_H T1 27 #[.val (.ref a1), .val (.int vg4), .val (.int (0 : Int32))] [(.int vg5)]
  refine own_via (fun t k => XS.istoreN X1.here hx rfl (hb hby own_d8_27) rfl (l' := #[.val (.ref a1), .val (.int vg5), .val (.int (0 : Int32))]) rfl k) ?_
  show own_H T1 28 #[.val (.ref a1), .val (.int vg5), .val (.int (0 : Int32))] []
  refine own_via (fun t k => XS.iinc X1.here hx rfl (hb hby own_d8_28) rfl (l' := #[.val (.ref a1), .val (.int vg5), .val (.int (-1 : Int32))]) rfl k) ?_
  show own_H T1 31 #[.val (.ref a1), .val (.int vg5), .val (.int (-1 : Int32))] []
  refine own_via (fun t k => XS.goto X1.here hx rfl (pc0 := 31) (pc' := 11) rfl (hb hby own_d8_31) (by decide) (by decide) k) ?_
  refine own_via (fun t k => XS.iloadN X1.here hx rfl (hb hby own_d8_11) rfl k) ?_
  show own_H T1 12 #[.val (.ref a1), .val (.int vg5), .val (.int (-1 : Int32))] [(.int (-1 : Int32))]
  refine own_via (fun t k => XS.ifYes X1.here hx rfl (pc0 := 12) (pc' := 34) rfl (hb hby own_d8_12) rfl ((if0 _ _).trans (tlt (by decide : (-1 : Int32) < (0 : Int32))).1) (by decide) (by decide) k) ?_
  show own_H T1 34 #[.val (.ref a1), .val (.int vg5), .val (.int (-1 : Int32))] []
  refine own_via (fun t k => XS.iloadN X1.here hx rfl (hb hby own_d8_34) rfl k) ?_
  show own_H T1 35 #[.val (.ref a1), .val (.int vg5), .val (.int (-1 : Int32))] [(.int vg5)]
  exact own_retI X1 hx Bd.returns Bd.notSynchronized (hb hby own_d8_35) ⟨(by show (some (.int vg5) : Option Value) = some (.int (own_Fk4 p0 p1 p2 p3)); subst hvg5; subst hvg4; subst hvg3; subst hvg2; simp only [own_Fk4]), rfl, e1⟩ (by decide) (by decide)
theorem own_d10_0 : decode jdk_65_method_123_code 0 = .ok (.iload_n 1, 1) := by decide +kernel
theorem own_d10_1 : decode jdk_65_method_123_code 1 = .ok (.aload_n 0, 1) := by decide +kernel
theorem own_d10_2 : decode jdk_65_method_123_code 2 = .ok (.arraylength, 1) := by decide +kernel
theorem own_d10_3 : decode jdk_65_method_123_code 3 = .ok (.if_icmp .ne 11, 3) := by decide +kernel
theorem own_d10_14 : decode jdk_65_method_123_code 14 = .ok (.iload_n 1, 1) := by decide +kernel
theorem own_d10_15 : decode jdk_65_method_123_code 15 = .ok (.newarray .int, 2) := by decide +kernel
theorem own_d10_17 : decode jdk_65_method_123_code 17 = .ok (.astore_n 2, 1) := by decide +kernel
theorem own_d10_18 : decode jdk_65_method_123_code 18 = .ok (.aload_n 0, 1) := by decide +kernel
theorem own_d10_19 : decode jdk_65_method_123_code 19 = .ok (.iconst 0, 1) := by decide +kernel
theorem own_d10_20 : decode jdk_65_method_123_code 20 = .ok (.aload_n 2, 1) := by decide +kernel
theorem own_d10_21 : decode jdk_65_method_123_code 21 = .ok (.iconst 0, 1) := by decide +kernel
theorem own_d10_22 : decode jdk_65_method_123_code 22 = .ok (.aload_n 0, 1) := by decide +kernel
theorem own_d10_23 : decode jdk_65_method_123_code 23 = .ok (.arraylength, 1) := by decide +kernel
theorem own_d10_24 : decode jdk_65_method_123_code 24 = .ok (.iload_n 1, 1) := by decide +kernel
theorem own_d10_25 : decode jdk_65_method_123_code 25 = .ok (.invokestatic 304, 3) := by decide +kernel
theorem own_d10_28 : decode jdk_65_method_123_code 28 = .ok (.invokestatic 150, 3) := by decide +kernel
theorem own_d10_31 : decode jdk_65_method_123_code 31 = .ok (.aload_n 2, 1) := by decide +kernel
theorem own_d10_32 : decode jdk_65_method_123_code 32 = .ok (.areturn, 1) := by decide +kernel
abbrev own_co0_R : Room := { frames := 1, cells := 1, slots := 4, locals := 40 }
theorem own_pn10 : plainFor (⟨"java/util/Arrays", "copyOf", "([II)[I"⟩ : MethodName) = true := plainFor_of_name (by first | (simp [plainName, overriddenIn]; done) | decide +kernel)
theorem own_co0_ef (m : MethodId) (a1 : Addr) : entryFrame m #[(.ref a1), (.int (0 : Int32))] 3 = mkF m 0 #[.val (.ref a1), .val (.int (0 : Int32)), .unset] [] := by first | (simp [entryFrame, mkF, argsToLocals, Value.category]; done) | rfl
def own_co0_q (Z : State) (a1 : Addr) (k_1 : ClassId) (L : List Int32) (h0 : Heap) (v : Option Value) (h : Heap) : Prop := ∃ (x : Addr), v = some (.ref x) ∧ Keep h0 h [] ∧ h0.size ≤ x
set_option maxRecDepth 65536 in
set_option maxHeartbeats 40000000 in
theorem own_co0 (l : Launch) (Z : State) (a0 : Array Value) (hw : ∀ d ∈ tables_1, d.before a0 Z = true) (ws : List Jvm.Cond) (a1 : Addr) (k_1 : ClassId) (L : List Int32) (h0 : Heap) (n0 : Nat) (Z0 : n0 ≤ h0.size) (i_A1 : Arv Z h0 a1 k_1 .int (256 : Int32) (L.map Value.int) (.int (0 : Int32))) :
    own_C l Z (⟨"java/util/Arrays", "copyOf", "([II)[I"⟩ : MethodName) jdk_65_method_123_code 3 (some (.array .int)) ws own_co0_R #[(.ref a1), (.int (0 : Int32))] h0 (own_W n0 (own_co0_q Z a1 k_1 L h0)) := by
  refine MetFree.of_bodySF own_pn10 hisR ?_
  intro p e s m args below meth c s₁ Bd hml0 hP hK
  obtain ⟨rfl, hZ, hh⟩ := hP
  have hx := Bd.exec
  have hby := Bd.bytes
  have hml : c.maxLocals = 3 := hml0
  have hown : s.vm.findClass "java/util/Arrays" = some m.cls := findClass_of_methodNamed Bd.named
  have hnm := (name_of_methodNamed Bd.named Bd.method).1
  have X0 : Stand p l e own_co0_R s m #[(.ref a1), (.int (0 : Int32))] below meth c s₁ [] 0 0 := Stand.of_body Bd
  have e0 : s₁.heap = h0 := by rw [← hh, Bd.state]; rfl
  have N0 := Fr.nil n0
  have K0 : Keep h0 h0 [] := Keep.refl h0 _
  show own_G p e below (own_P s (own_W n0 (own_co0_q Z a1 k_1 L h0)) own_co0_R.cells own_co0_R.slots) (s₁.setTop (entryFrame m #[(.ref a1), (.int (0 : Int32))] 3))
  rw [own_co0_ef m a1]
  show own_H s₁ 0 #[.val (.ref a1), .val (.int (0 : Int32)), .unset] []
  refine own_via (fun t k => XS.iloadN X0.here hx rfl (hb hby own_d10_0) rfl k) ?_
  refine own_via (fun t k => XS.aloadN X0.here hx rfl (hb hby own_d10_1) rfl rfl k) ?_
  show own_H s₁ 2 #[.val (.ref a1), .val (.int (0 : Int32)), .unset] [(.ref a1), (.int (0 : Int32))]
  refine own_via (own_len X0 hx hZ e0 i_A1 (pc := 2) (Ls := #[.val (.ref a1), .val (.int (0 : Int32)), .unset]) (rest := [(.int (0 : Int32))]) (hb hby own_d10_2)) ?_
  show own_H s₁ 3 #[.val (.ref a1), .val (.int (0 : Int32)), .unset] [(.int (256 : Int32)), (.int (0 : Int32))]
  refine own_via (fun t k => XS.icmpYes X0.here hx rfl (pc0 := 3) (pc' := 14) rfl (hb hby own_d10_3) rfl (feq (by decide : ¬ ((0 : Int32) = (256 : Int32)))).2 (by decide) (by decide) k) ?_
  show own_H s₁ 14 #[.val (.ref a1), .val (.int (0 : Int32)), .unset] []
  refine own_via (fun t k => XS.iloadN X0.here hx rfl (hb hby own_d10_14) rfl k) ?_
  show own_H s₁ 15 #[.val (.ref a1), .val (.int (0 : Int32)), .unset] [(.int (0 : Int32))]
  obtain ⟨T1, h1, k1, b1, X1, e1, E1, ga1, V1, Ex1, st1⟩ := own_newA X0 hx hZ (own_u hw 0 rfl) e0 (pc := 15) (Ls := #[.val (.ref a1), .val (.int (0 : Int32)), .unset]) (rest := []) (hb hby own_d10_15) (n := (0 : Int32)) (by decide) (cap := 0) (by decide) (by decide) (by decide) (by decide) 0 rfl
  refine own_via st1 ?_
  have sz_b1 : h0.size ≤ b1 := Nat.le_trans K0.1 (Nat.le_of_eq ga1.symm)
  have f3 := i_A1.ext E1
  have Kp4 := K0.ext E1
  have f5 : Arv Z h1 b1 k1 .int (0 : Int32) [] (.int (0 : Int32)) := V1
  have g_b1 : n0 ≤ b1 := Nat.le_trans Z0 (Nat.le_of_eq ga1.symm)
  show own_H T1 17 #[.val (.ref a1), .val (.int (0 : Int32)), .unset] [(.ref b1)]
  clear i_A1 K0
  refine own_via (fun t k => XS.astoreN X1.here hx rfl (hb hby own_d10_17) rfl rfl (l' := #[.val (.ref a1), .val (.int (0 : Int32)), .val (.ref b1)]) rfl k) ?_
  refine own_via (fun t k => XS.aloadN X1.here hx rfl (hb hby own_d10_18) rfl rfl k) ?_
  refine own_via (fun t k => XS.iconst X1.here hx rfl (hb hby own_d10_19) k) ?_
  refine own_via (fun t k => XS.aloadN X1.here hx rfl (hb hby own_d10_20) rfl rfl k) ?_
  refine own_via (fun t k => XS.iconst X1.here hx rfl (hb hby own_d10_21) k) ?_
  show own_H T1 22 #[.val (.ref a1), .val (.int (0 : Int32)), .val (.ref b1)] [(.int (0 : Int32)), (.ref b1), (.int (0 : Int32)), (.ref a1)]
  refine own_via (fun t k => XS.aloadN X1.here hx rfl (hb hby own_d10_22) rfl rfl k) ?_
  show own_H T1 23 #[.val (.ref a1), .val (.int (0 : Int32)), .val (.ref b1)] [(.ref a1), (.int (0 : Int32)), (.ref b1), (.int (0 : Int32)), (.ref a1)]
  refine own_via (own_len X1 hx hZ e1 f3 (pc := 23) (Ls := #[.val (.ref a1), .val (.int (0 : Int32)), .val (.ref b1)]) (rest := [(.int (0 : Int32)), (.ref b1), (.int (0 : Int32)), (.ref a1)]) (hb hby own_d10_23)) ?_
  show own_H T1 24 #[.val (.ref a1), .val (.int (0 : Int32)), .val (.ref b1)] [(.int (256 : Int32)), (.int (0 : Int32)), (.ref b1), (.int (0 : Int32)), (.ref a1)]
  refine own_via (fun t k => XS.iloadN X1.here hx rfl (hb hby own_d10_24) rfl k) ?_
  show own_H T1 25 #[.val (.ref a1), .val (.int (0 : Int32)), .val (.ref b1)] [(.int (0 : Int32)), (.int (256 : Int32)), (.int (0 : Int32)), (.ref b1), (.int (0 : Int32)), (.ref a1)]
  obtain ⟨T7, X7, e7, st7⟩ := own_callP (y := (⟨"java/lang/Math", "min", "(II)I"⟩ : MethodName)) (W := 4) X1 hx hZ hown (own_u hw 57 rfl) (own_u hw 39 rfl) (own_u hw 40 rfl) (own_u hw 41 rfl) (by decide) (own_rm7 l Z a0 hw [] (256 : Int32) (0 : Int32) h1) (by decide) (by decide) rfl rfl (by decide) (by decide) e1 (pc := 25) (Ls := #[.val (.ref a1), .val (.int (0 : Int32)), .val (.ref b1)]) (st := [(.int (0 : Int32)), (.int (256 : Int32)), (.int (0 : Int32)), (.ref b1), (.int (0 : Int32)), (.ref a1)]) (argsL := [(.int (256 : Int32)), (.int (0 : Int32))]) (rest := [(.int (0 : Int32)), (.ref b1), (.int (0 : Int32)), (.ref a1)]) (by rw [hml]; rfl) (lenOf own_pd2 rfl) rfl rfl (Nat.le_of_eq rfl) (hb hby own_d10_25)
  refine own_via st7 ?_
  show own_H T7 28 #[.val (.ref a1), .val (.int (0 : Int32)), .val (.ref b1)] [(.int (own_F7 (256 : Int32) (0 : Int32))), (.int (0 : Int32)), (.ref b1), (.int (0 : Int32)), (.ref a1)]
  obtain ⟨T8, h8, L8, X8, N8, e8, K8, V8, st8⟩ := own_cp (L := L) X7 N0 hx hZ hown (own_u hw 58 rfl) (own_u hw 61 rfl) (own_u hw 59 rfl) (own_u hw 60 rfl) e7 f3 f5 g_b1 (nn := (own_F7 (256 : Int32) (0 : Int32))) (n := 0) (by decide) (by decide) (by decide) rfl rfl (pc := 28) (Ls := #[.val (.ref a1), .val (.int (0 : Int32)), .val (.ref b1)]) (rest := []) (by rw [hml]; rfl) (hb hby own_d10_28) (by decide) (W := 0) (Nat.le_of_eq rfl) (by decide)
  refine own_via st8 ?_
  have Kp10 := Kp4.trans K8 (fun x hx => by simp only [List.mem_cons, List.not_mem_nil, or_false] at hx; rcases hx with rfl <;> first | exact (Or.inr sz_b1))
  show own_H T8 31 #[.val (.ref a1), .val (.int (0 : Int32)), .val (.ref b1)] []
  clear f3 f5 Kp4
  refine own_via (fun t k => XS.aloadN X8.here hx rfl (hb hby own_d10_31) rfl rfl k) ?_
  show own_H T8 32 #[.val (.ref a1), .val (.int (0 : Int32)), .val (.ref b1)] [(.ref b1)]
  exact own_retA X8 hx Bd.returns rfl rfl Bd.notSynchronized (hb hby own_d10_32) (by rw [e8]; exact ⟨N8, b1, rfl, Kp10, sz_b1⟩) (by decide) (by decide)
abbrev own_co1_R : Room := { frames := 1, cells := 1, slots := 4, locals := 40 }
theorem own_co1_ef (m : MethodId) (a1 : Addr) : entryFrame m #[(.ref a1), (.int (1 : Int32))] 3 = mkF m 0 #[.val (.ref a1), .val (.int (1 : Int32)), .unset] [] := by first | (simp [entryFrame, mkF, argsToLocals, Value.category]; done) | rfl
def own_co1_q (Z : State) (a1 : Addr) (k_1 : ClassId) (L : List Int32) (h0 : Heap) (v : Option Value) (h : Heap) : Prop := ∃ (x : Addr), v = some (.ref x) ∧ Keep h0 h [] ∧ h0.size ≤ x
set_option maxRecDepth 65536 in
set_option maxHeartbeats 40000000 in
theorem own_co1 (l : Launch) (Z : State) (a0 : Array Value) (hw : ∀ d ∈ tables_1, d.before a0 Z = true) (ws : List Jvm.Cond) (a1 : Addr) (k_1 : ClassId) (L : List Int32) (h0 : Heap) (n0 : Nat) (Z0 : n0 ≤ h0.size) (i_A1 : Arv Z h0 a1 k_1 .int (256 : Int32) (L.map Value.int) (.int (0 : Int32))) :
    own_C l Z (⟨"java/util/Arrays", "copyOf", "([II)[I"⟩ : MethodName) jdk_65_method_123_code 3 (some (.array .int)) ws own_co1_R #[(.ref a1), (.int (1 : Int32))] h0 (own_W n0 (own_co1_q Z a1 k_1 L h0)) := by
  refine MetFree.of_bodySF own_pn10 hisR ?_
  intro p e s m args below meth c s₁ Bd hml0 hP hK
  obtain ⟨rfl, hZ, hh⟩ := hP
  have hx := Bd.exec
  have hby := Bd.bytes
  have hml : c.maxLocals = 3 := hml0
  have hown : s.vm.findClass "java/util/Arrays" = some m.cls := findClass_of_methodNamed Bd.named
  have hnm := (name_of_methodNamed Bd.named Bd.method).1
  have X0 : Stand p l e own_co1_R s m #[(.ref a1), (.int (1 : Int32))] below meth c s₁ [] 0 0 := Stand.of_body Bd
  have e0 : s₁.heap = h0 := by rw [← hh, Bd.state]; rfl
  have N0 := Fr.nil n0
  have K0 : Keep h0 h0 [] := Keep.refl h0 _
  show own_G p e below (own_P s (own_W n0 (own_co1_q Z a1 k_1 L h0)) own_co1_R.cells own_co1_R.slots) (s₁.setTop (entryFrame m #[(.ref a1), (.int (1 : Int32))] 3))
  rw [own_co1_ef m a1]
  show own_H s₁ 0 #[.val (.ref a1), .val (.int (1 : Int32)), .unset] []
  refine own_via (fun t k => XS.iloadN X0.here hx rfl (hb hby own_d10_0) rfl k) ?_
  refine own_via (fun t k => XS.aloadN X0.here hx rfl (hb hby own_d10_1) rfl rfl k) ?_
  show own_H s₁ 2 #[.val (.ref a1), .val (.int (1 : Int32)), .unset] [(.ref a1), (.int (1 : Int32))]
  refine own_via (own_len X0 hx hZ e0 i_A1 (pc := 2) (Ls := #[.val (.ref a1), .val (.int (1 : Int32)), .unset]) (rest := [(.int (1 : Int32))]) (hb hby own_d10_2)) ?_
  show own_H s₁ 3 #[.val (.ref a1), .val (.int (1 : Int32)), .unset] [(.int (256 : Int32)), (.int (1 : Int32))]
  refine own_via (fun t k => XS.icmpYes X0.here hx rfl (pc0 := 3) (pc' := 14) rfl (hb hby own_d10_3) rfl (feq (by decide : ¬ ((1 : Int32) = (256 : Int32)))).2 (by decide) (by decide) k) ?_
  show own_H s₁ 14 #[.val (.ref a1), .val (.int (1 : Int32)), .unset] []
  refine own_via (fun t k => XS.iloadN X0.here hx rfl (hb hby own_d10_14) rfl k) ?_
  show own_H s₁ 15 #[.val (.ref a1), .val (.int (1 : Int32)), .unset] [(.int (1 : Int32))]
  obtain ⟨T1, h1, k1, b1, X1, e1, E1, ga1, V1, Ex1, st1⟩ := own_newA X0 hx hZ (own_u hw 0 rfl) e0 (pc := 15) (Ls := #[.val (.ref a1), .val (.int (1 : Int32)), .unset]) (rest := []) (hb hby own_d10_15) (n := (1 : Int32)) (by decide) (cap := 1) (by decide) (by decide) (by decide) (by decide) 1 rfl
  refine own_via st1 ?_
  have sz_b1 : h0.size ≤ b1 := Nat.le_trans K0.1 (Nat.le_of_eq ga1.symm)
  have f3 := i_A1.ext E1
  have Kp4 := K0.ext E1
  have f5 : Arv Z h1 b1 k1 .int (1 : Int32) [(.int (0 : Int32))] (.int (0 : Int32)) := V1
  have g_b1 : n0 ≤ b1 := Nat.le_trans Z0 (Nat.le_of_eq ga1.symm)
  show own_H T1 17 #[.val (.ref a1), .val (.int (1 : Int32)), .unset] [(.ref b1)]
  clear i_A1 K0
  refine own_via (fun t k => XS.astoreN X1.here hx rfl (hb hby own_d10_17) rfl rfl (l' := #[.val (.ref a1), .val (.int (1 : Int32)), .val (.ref b1)]) rfl k) ?_
  refine own_via (fun t k => XS.aloadN X1.here hx rfl (hb hby own_d10_18) rfl rfl k) ?_
  refine own_via (fun t k => XS.iconst X1.here hx rfl (hb hby own_d10_19) k) ?_
  refine own_via (fun t k => XS.aloadN X1.here hx rfl (hb hby own_d10_20) rfl rfl k) ?_
  refine own_via (fun t k => XS.iconst X1.here hx rfl (hb hby own_d10_21) k) ?_
  show own_H T1 22 #[.val (.ref a1), .val (.int (1 : Int32)), .val (.ref b1)] [(.int (0 : Int32)), (.ref b1), (.int (0 : Int32)), (.ref a1)]
  refine own_via (fun t k => XS.aloadN X1.here hx rfl (hb hby own_d10_22) rfl rfl k) ?_
  show own_H T1 23 #[.val (.ref a1), .val (.int (1 : Int32)), .val (.ref b1)] [(.ref a1), (.int (0 : Int32)), (.ref b1), (.int (0 : Int32)), (.ref a1)]
  refine own_via (own_len X1 hx hZ e1 f3 (pc := 23) (Ls := #[.val (.ref a1), .val (.int (1 : Int32)), .val (.ref b1)]) (rest := [(.int (0 : Int32)), (.ref b1), (.int (0 : Int32)), (.ref a1)]) (hb hby own_d10_23)) ?_
  show own_H T1 24 #[.val (.ref a1), .val (.int (1 : Int32)), .val (.ref b1)] [(.int (256 : Int32)), (.int (0 : Int32)), (.ref b1), (.int (0 : Int32)), (.ref a1)]
  refine own_via (fun t k => XS.iloadN X1.here hx rfl (hb hby own_d10_24) rfl k) ?_
  show own_H T1 25 #[.val (.ref a1), .val (.int (1 : Int32)), .val (.ref b1)] [(.int (1 : Int32)), (.int (256 : Int32)), (.int (0 : Int32)), (.ref b1), (.int (0 : Int32)), (.ref a1)]
  obtain ⟨T7, X7, e7, st7⟩ := own_callP (y := (⟨"java/lang/Math", "min", "(II)I"⟩ : MethodName)) (W := 4) X1 hx hZ hown (own_u hw 57 rfl) (own_u hw 39 rfl) (own_u hw 40 rfl) (own_u hw 41 rfl) (by decide) (own_rm7 l Z a0 hw [] (256 : Int32) (1 : Int32) h1) (by decide) (by decide) rfl rfl (by decide) (by decide) e1 (pc := 25) (Ls := #[.val (.ref a1), .val (.int (1 : Int32)), .val (.ref b1)]) (st := [(.int (1 : Int32)), (.int (256 : Int32)), (.int (0 : Int32)), (.ref b1), (.int (0 : Int32)), (.ref a1)]) (argsL := [(.int (256 : Int32)), (.int (1 : Int32))]) (rest := [(.int (0 : Int32)), (.ref b1), (.int (0 : Int32)), (.ref a1)]) (by rw [hml]; rfl) (lenOf own_pd2 rfl) rfl rfl (Nat.le_of_eq rfl) (hb hby own_d10_25)
  refine own_via st7 ?_
  show own_H T7 28 #[.val (.ref a1), .val (.int (1 : Int32)), .val (.ref b1)] [(.int (own_F7 (256 : Int32) (1 : Int32))), (.int (0 : Int32)), (.ref b1), (.int (0 : Int32)), (.ref a1)]
  obtain ⟨T8, h8, L8, X8, N8, e8, K8, V8, st8⟩ := own_cp (L := L) X7 N0 hx hZ hown (own_u hw 58 rfl) (own_u hw 61 rfl) (own_u hw 59 rfl) (own_u hw 60 rfl) e7 f3 f5 g_b1 (nn := (own_F7 (256 : Int32) (1 : Int32))) (n := 1) (by decide) (by decide) (by decide) rfl rfl (pc := 28) (Ls := #[.val (.ref a1), .val (.int (1 : Int32)), .val (.ref b1)]) (rest := []) (by rw [hml]; rfl) (hb hby own_d10_28) (by decide) (W := 0) (Nat.le_of_eq rfl) (by decide)
  refine own_via st8 ?_
  have Kp10 := Kp4.trans K8 (fun x hx => by simp only [List.mem_cons, List.not_mem_nil, or_false] at hx; rcases hx with rfl <;> first | exact (Or.inr sz_b1))
  show own_H T8 31 #[.val (.ref a1), .val (.int (1 : Int32)), .val (.ref b1)] []
  clear f3 f5 Kp4
  refine own_via (fun t k => XS.aloadN X8.here hx rfl (hb hby own_d10_31) rfl rfl k) ?_
  show own_H T8 32 #[.val (.ref a1), .val (.int (1 : Int32)), .val (.ref b1)] [(.ref b1)]
  exact own_retA X8 hx Bd.returns rfl rfl Bd.notSynchronized (hb hby own_d10_32) (by rw [e8]; exact ⟨N8, b1, rfl, Kp10, sz_b1⟩) (by decide) (by decide)
abbrev own_co2_R : Room := { frames := 1, cells := 1, slots := 4, locals := 40 }
theorem own_co2_ef (m : MethodId) (a1 : Addr) : entryFrame m #[(.ref a1), (.int (2 : Int32))] 3 = mkF m 0 #[.val (.ref a1), .val (.int (2 : Int32)), .unset] [] := by first | (simp [entryFrame, mkF, argsToLocals, Value.category]; done) | rfl
def own_co2_q (Z : State) (a1 : Addr) (k_1 : ClassId) (L : List Int32) (h0 : Heap) (v : Option Value) (h : Heap) : Prop := ∃ (x : Addr), v = some (.ref x) ∧ Keep h0 h [] ∧ h0.size ≤ x
set_option maxRecDepth 65536 in
set_option maxHeartbeats 40000000 in
theorem own_co2 (l : Launch) (Z : State) (a0 : Array Value) (hw : ∀ d ∈ tables_1, d.before a0 Z = true) (ws : List Jvm.Cond) (a1 : Addr) (k_1 : ClassId) (L : List Int32) (h0 : Heap) (n0 : Nat) (Z0 : n0 ≤ h0.size) (i_A1 : Arv Z h0 a1 k_1 .int (256 : Int32) (L.map Value.int) (.int (0 : Int32))) :
    own_C l Z (⟨"java/util/Arrays", "copyOf", "([II)[I"⟩ : MethodName) jdk_65_method_123_code 3 (some (.array .int)) ws own_co2_R #[(.ref a1), (.int (2 : Int32))] h0 (own_W n0 (own_co2_q Z a1 k_1 L h0)) := by
  refine MetFree.of_bodySF own_pn10 hisR ?_
  intro p e s m args below meth c s₁ Bd hml0 hP hK
  obtain ⟨rfl, hZ, hh⟩ := hP
  have hx := Bd.exec
  have hby := Bd.bytes
  have hml : c.maxLocals = 3 := hml0
  have hown : s.vm.findClass "java/util/Arrays" = some m.cls := findClass_of_methodNamed Bd.named
  have hnm := (name_of_methodNamed Bd.named Bd.method).1
  have X0 : Stand p l e own_co2_R s m #[(.ref a1), (.int (2 : Int32))] below meth c s₁ [] 0 0 := Stand.of_body Bd
  have e0 : s₁.heap = h0 := by rw [← hh, Bd.state]; rfl
  have N0 := Fr.nil n0
  have K0 : Keep h0 h0 [] := Keep.refl h0 _
  show own_G p e below (own_P s (own_W n0 (own_co2_q Z a1 k_1 L h0)) own_co2_R.cells own_co2_R.slots) (s₁.setTop (entryFrame m #[(.ref a1), (.int (2 : Int32))] 3))
  rw [own_co2_ef m a1]
  show own_H s₁ 0 #[.val (.ref a1), .val (.int (2 : Int32)), .unset] []
  refine own_via (fun t k => XS.iloadN X0.here hx rfl (hb hby own_d10_0) rfl k) ?_
  refine own_via (fun t k => XS.aloadN X0.here hx rfl (hb hby own_d10_1) rfl rfl k) ?_
  show own_H s₁ 2 #[.val (.ref a1), .val (.int (2 : Int32)), .unset] [(.ref a1), (.int (2 : Int32))]
  refine own_via (own_len X0 hx hZ e0 i_A1 (pc := 2) (Ls := #[.val (.ref a1), .val (.int (2 : Int32)), .unset]) (rest := [(.int (2 : Int32))]) (hb hby own_d10_2)) ?_
  show own_H s₁ 3 #[.val (.ref a1), .val (.int (2 : Int32)), .unset] [(.int (256 : Int32)), (.int (2 : Int32))]
  refine own_via (fun t k => XS.icmpYes X0.here hx rfl (pc0 := 3) (pc' := 14) rfl (hb hby own_d10_3) rfl (feq (by decide : ¬ ((2 : Int32) = (256 : Int32)))).2 (by decide) (by decide) k) ?_
  show own_H s₁ 14 #[.val (.ref a1), .val (.int (2 : Int32)), .unset] []
  refine own_via (fun t k => XS.iloadN X0.here hx rfl (hb hby own_d10_14) rfl k) ?_
  show own_H s₁ 15 #[.val (.ref a1), .val (.int (2 : Int32)), .unset] [(.int (2 : Int32))]
  obtain ⟨T1, h1, k1, b1, X1, e1, E1, ga1, V1, Ex1, st1⟩ := own_newA X0 hx hZ (own_u hw 0 rfl) e0 (pc := 15) (Ls := #[.val (.ref a1), .val (.int (2 : Int32)), .unset]) (rest := []) (hb hby own_d10_15) (n := (2 : Int32)) (by decide) (cap := 2) (by decide) (by decide) (by decide) (by decide) 2 rfl
  refine own_via st1 ?_
  have sz_b1 : h0.size ≤ b1 := Nat.le_trans K0.1 (Nat.le_of_eq ga1.symm)
  have f3 := i_A1.ext E1
  have Kp4 := K0.ext E1
  have f5 : Arv Z h1 b1 k1 .int (2 : Int32) [(.int (0 : Int32)), (.int (0 : Int32))] (.int (0 : Int32)) := V1
  have g_b1 : n0 ≤ b1 := Nat.le_trans Z0 (Nat.le_of_eq ga1.symm)
  show own_H T1 17 #[.val (.ref a1), .val (.int (2 : Int32)), .unset] [(.ref b1)]
  clear i_A1 K0
  refine own_via (fun t k => XS.astoreN X1.here hx rfl (hb hby own_d10_17) rfl rfl (l' := #[.val (.ref a1), .val (.int (2 : Int32)), .val (.ref b1)]) rfl k) ?_
  refine own_via (fun t k => XS.aloadN X1.here hx rfl (hb hby own_d10_18) rfl rfl k) ?_
  refine own_via (fun t k => XS.iconst X1.here hx rfl (hb hby own_d10_19) k) ?_
  refine own_via (fun t k => XS.aloadN X1.here hx rfl (hb hby own_d10_20) rfl rfl k) ?_
  refine own_via (fun t k => XS.iconst X1.here hx rfl (hb hby own_d10_21) k) ?_
  show own_H T1 22 #[.val (.ref a1), .val (.int (2 : Int32)), .val (.ref b1)] [(.int (0 : Int32)), (.ref b1), (.int (0 : Int32)), (.ref a1)]
  refine own_via (fun t k => XS.aloadN X1.here hx rfl (hb hby own_d10_22) rfl rfl k) ?_
  show own_H T1 23 #[.val (.ref a1), .val (.int (2 : Int32)), .val (.ref b1)] [(.ref a1), (.int (0 : Int32)), (.ref b1), (.int (0 : Int32)), (.ref a1)]
  refine own_via (own_len X1 hx hZ e1 f3 (pc := 23) (Ls := #[.val (.ref a1), .val (.int (2 : Int32)), .val (.ref b1)]) (rest := [(.int (0 : Int32)), (.ref b1), (.int (0 : Int32)), (.ref a1)]) (hb hby own_d10_23)) ?_
  show own_H T1 24 #[.val (.ref a1), .val (.int (2 : Int32)), .val (.ref b1)] [(.int (256 : Int32)), (.int (0 : Int32)), (.ref b1), (.int (0 : Int32)), (.ref a1)]
  refine own_via (fun t k => XS.iloadN X1.here hx rfl (hb hby own_d10_24) rfl k) ?_
  show own_H T1 25 #[.val (.ref a1), .val (.int (2 : Int32)), .val (.ref b1)] [(.int (2 : Int32)), (.int (256 : Int32)), (.int (0 : Int32)), (.ref b1), (.int (0 : Int32)), (.ref a1)]
  obtain ⟨T7, X7, e7, st7⟩ := own_callP (y := (⟨"java/lang/Math", "min", "(II)I"⟩ : MethodName)) (W := 4) X1 hx hZ hown (own_u hw 57 rfl) (own_u hw 39 rfl) (own_u hw 40 rfl) (own_u hw 41 rfl) (by decide) (own_rm7 l Z a0 hw [] (256 : Int32) (2 : Int32) h1) (by decide) (by decide) rfl rfl (by decide) (by decide) e1 (pc := 25) (Ls := #[.val (.ref a1), .val (.int (2 : Int32)), .val (.ref b1)]) (st := [(.int (2 : Int32)), (.int (256 : Int32)), (.int (0 : Int32)), (.ref b1), (.int (0 : Int32)), (.ref a1)]) (argsL := [(.int (256 : Int32)), (.int (2 : Int32))]) (rest := [(.int (0 : Int32)), (.ref b1), (.int (0 : Int32)), (.ref a1)]) (by rw [hml]; rfl) (lenOf own_pd2 rfl) rfl rfl (Nat.le_of_eq rfl) (hb hby own_d10_25)
  refine own_via st7 ?_
  show own_H T7 28 #[.val (.ref a1), .val (.int (2 : Int32)), .val (.ref b1)] [(.int (own_F7 (256 : Int32) (2 : Int32))), (.int (0 : Int32)), (.ref b1), (.int (0 : Int32)), (.ref a1)]
  obtain ⟨T8, h8, L8, X8, N8, e8, K8, V8, st8⟩ := own_cp (L := L) X7 N0 hx hZ hown (own_u hw 58 rfl) (own_u hw 61 rfl) (own_u hw 59 rfl) (own_u hw 60 rfl) e7 f3 f5 g_b1 (nn := (own_F7 (256 : Int32) (2 : Int32))) (n := 2) (by decide) (by decide) (by decide) rfl rfl (pc := 28) (Ls := #[.val (.ref a1), .val (.int (2 : Int32)), .val (.ref b1)]) (rest := []) (by rw [hml]; rfl) (hb hby own_d10_28) (by decide) (W := 0) (Nat.le_of_eq rfl) (by decide)
  refine own_via st8 ?_
  have Kp10 := Kp4.trans K8 (fun x hx => by simp only [List.mem_cons, List.not_mem_nil, or_false] at hx; rcases hx with rfl <;> first | exact (Or.inr sz_b1))
  show own_H T8 31 #[.val (.ref a1), .val (.int (2 : Int32)), .val (.ref b1)] []
  clear f3 f5 Kp4
  refine own_via (fun t k => XS.aloadN X8.here hx rfl (hb hby own_d10_31) rfl rfl k) ?_
  show own_H T8 32 #[.val (.ref a1), .val (.int (2 : Int32)), .val (.ref b1)] [(.ref b1)]
  exact own_retA X8 hx Bd.returns rfl rfl Bd.notSynchronized (hb hby own_d10_32) (by rw [e8]; exact ⟨N8, b1, rfl, Kp10, sz_b1⟩) (by decide) (by decide)
abbrev own_co3_R : Room := { frames := 1, cells := 1, slots := 4, locals := 40 }
theorem own_co3_ef (m : MethodId) (a1 : Addr) : entryFrame m #[(.ref a1), (.int (3 : Int32))] 3 = mkF m 0 #[.val (.ref a1), .val (.int (3 : Int32)), .unset] [] := by first | (simp [entryFrame, mkF, argsToLocals, Value.category]; done) | rfl
def own_co3_q (Z : State) (a1 : Addr) (k_1 : ClassId) (L : List Int32) (h0 : Heap) (v : Option Value) (h : Heap) : Prop := ∃ (x : Addr), v = some (.ref x) ∧ Keep h0 h [] ∧ h0.size ≤ x
set_option maxRecDepth 65536 in
set_option maxHeartbeats 40000000 in
theorem own_co3 (l : Launch) (Z : State) (a0 : Array Value) (hw : ∀ d ∈ tables_1, d.before a0 Z = true) (ws : List Jvm.Cond) (a1 : Addr) (k_1 : ClassId) (L : List Int32) (h0 : Heap) (n0 : Nat) (Z0 : n0 ≤ h0.size) (i_A1 : Arv Z h0 a1 k_1 .int (256 : Int32) (L.map Value.int) (.int (0 : Int32))) :
    own_C l Z (⟨"java/util/Arrays", "copyOf", "([II)[I"⟩ : MethodName) jdk_65_method_123_code 3 (some (.array .int)) ws own_co3_R #[(.ref a1), (.int (3 : Int32))] h0 (own_W n0 (own_co3_q Z a1 k_1 L h0)) := by
  refine MetFree.of_bodySF own_pn10 hisR ?_
  intro p e s m args below meth c s₁ Bd hml0 hP hK
  obtain ⟨rfl, hZ, hh⟩ := hP
  have hx := Bd.exec
  have hby := Bd.bytes
  have hml : c.maxLocals = 3 := hml0
  have hown : s.vm.findClass "java/util/Arrays" = some m.cls := findClass_of_methodNamed Bd.named
  have hnm := (name_of_methodNamed Bd.named Bd.method).1
  have X0 : Stand p l e own_co3_R s m #[(.ref a1), (.int (3 : Int32))] below meth c s₁ [] 0 0 := Stand.of_body Bd
  have e0 : s₁.heap = h0 := by rw [← hh, Bd.state]; rfl
  have N0 := Fr.nil n0
  have K0 : Keep h0 h0 [] := Keep.refl h0 _
  show own_G p e below (own_P s (own_W n0 (own_co3_q Z a1 k_1 L h0)) own_co3_R.cells own_co3_R.slots) (s₁.setTop (entryFrame m #[(.ref a1), (.int (3 : Int32))] 3))
  rw [own_co3_ef m a1]
  show own_H s₁ 0 #[.val (.ref a1), .val (.int (3 : Int32)), .unset] []
  refine own_via (fun t k => XS.iloadN X0.here hx rfl (hb hby own_d10_0) rfl k) ?_
  refine own_via (fun t k => XS.aloadN X0.here hx rfl (hb hby own_d10_1) rfl rfl k) ?_
  show own_H s₁ 2 #[.val (.ref a1), .val (.int (3 : Int32)), .unset] [(.ref a1), (.int (3 : Int32))]
  refine own_via (own_len X0 hx hZ e0 i_A1 (pc := 2) (Ls := #[.val (.ref a1), .val (.int (3 : Int32)), .unset]) (rest := [(.int (3 : Int32))]) (hb hby own_d10_2)) ?_
  show own_H s₁ 3 #[.val (.ref a1), .val (.int (3 : Int32)), .unset] [(.int (256 : Int32)), (.int (3 : Int32))]
  refine own_via (fun t k => XS.icmpYes X0.here hx rfl (pc0 := 3) (pc' := 14) rfl (hb hby own_d10_3) rfl (feq (by decide : ¬ ((3 : Int32) = (256 : Int32)))).2 (by decide) (by decide) k) ?_
  show own_H s₁ 14 #[.val (.ref a1), .val (.int (3 : Int32)), .unset] []
  refine own_via (fun t k => XS.iloadN X0.here hx rfl (hb hby own_d10_14) rfl k) ?_
  show own_H s₁ 15 #[.val (.ref a1), .val (.int (3 : Int32)), .unset] [(.int (3 : Int32))]
  obtain ⟨T1, h1, k1, b1, X1, e1, E1, ga1, V1, Ex1, st1⟩ := own_newA X0 hx hZ (own_u hw 0 rfl) e0 (pc := 15) (Ls := #[.val (.ref a1), .val (.int (3 : Int32)), .unset]) (rest := []) (hb hby own_d10_15) (n := (3 : Int32)) (by decide) (cap := 3) (by decide) (by decide) (by decide) (by decide) 3 rfl
  refine own_via st1 ?_
  have sz_b1 : h0.size ≤ b1 := Nat.le_trans K0.1 (Nat.le_of_eq ga1.symm)
  have f3 := i_A1.ext E1
  have Kp4 := K0.ext E1
  have f5 : Arv Z h1 b1 k1 .int (3 : Int32) [(.int (0 : Int32)), (.int (0 : Int32)), (.int (0 : Int32))] (.int (0 : Int32)) := V1
  have g_b1 : n0 ≤ b1 := Nat.le_trans Z0 (Nat.le_of_eq ga1.symm)
  show own_H T1 17 #[.val (.ref a1), .val (.int (3 : Int32)), .unset] [(.ref b1)]
  clear i_A1 K0
  refine own_via (fun t k => XS.astoreN X1.here hx rfl (hb hby own_d10_17) rfl rfl (l' := #[.val (.ref a1), .val (.int (3 : Int32)), .val (.ref b1)]) rfl k) ?_
  refine own_via (fun t k => XS.aloadN X1.here hx rfl (hb hby own_d10_18) rfl rfl k) ?_
  refine own_via (fun t k => XS.iconst X1.here hx rfl (hb hby own_d10_19) k) ?_
  refine own_via (fun t k => XS.aloadN X1.here hx rfl (hb hby own_d10_20) rfl rfl k) ?_
  refine own_via (fun t k => XS.iconst X1.here hx rfl (hb hby own_d10_21) k) ?_
  show own_H T1 22 #[.val (.ref a1), .val (.int (3 : Int32)), .val (.ref b1)] [(.int (0 : Int32)), (.ref b1), (.int (0 : Int32)), (.ref a1)]
  refine own_via (fun t k => XS.aloadN X1.here hx rfl (hb hby own_d10_22) rfl rfl k) ?_
  show own_H T1 23 #[.val (.ref a1), .val (.int (3 : Int32)), .val (.ref b1)] [(.ref a1), (.int (0 : Int32)), (.ref b1), (.int (0 : Int32)), (.ref a1)]
  refine own_via (own_len X1 hx hZ e1 f3 (pc := 23) (Ls := #[.val (.ref a1), .val (.int (3 : Int32)), .val (.ref b1)]) (rest := [(.int (0 : Int32)), (.ref b1), (.int (0 : Int32)), (.ref a1)]) (hb hby own_d10_23)) ?_
  show own_H T1 24 #[.val (.ref a1), .val (.int (3 : Int32)), .val (.ref b1)] [(.int (256 : Int32)), (.int (0 : Int32)), (.ref b1), (.int (0 : Int32)), (.ref a1)]
  refine own_via (fun t k => XS.iloadN X1.here hx rfl (hb hby own_d10_24) rfl k) ?_
  show own_H T1 25 #[.val (.ref a1), .val (.int (3 : Int32)), .val (.ref b1)] [(.int (3 : Int32)), (.int (256 : Int32)), (.int (0 : Int32)), (.ref b1), (.int (0 : Int32)), (.ref a1)]
  obtain ⟨T7, X7, e7, st7⟩ := own_callP (y := (⟨"java/lang/Math", "min", "(II)I"⟩ : MethodName)) (W := 4) X1 hx hZ hown (own_u hw 57 rfl) (own_u hw 39 rfl) (own_u hw 40 rfl) (own_u hw 41 rfl) (by decide) (own_rm7 l Z a0 hw [] (256 : Int32) (3 : Int32) h1) (by decide) (by decide) rfl rfl (by decide) (by decide) e1 (pc := 25) (Ls := #[.val (.ref a1), .val (.int (3 : Int32)), .val (.ref b1)]) (st := [(.int (3 : Int32)), (.int (256 : Int32)), (.int (0 : Int32)), (.ref b1), (.int (0 : Int32)), (.ref a1)]) (argsL := [(.int (256 : Int32)), (.int (3 : Int32))]) (rest := [(.int (0 : Int32)), (.ref b1), (.int (0 : Int32)), (.ref a1)]) (by rw [hml]; rfl) (lenOf own_pd2 rfl) rfl rfl (Nat.le_of_eq rfl) (hb hby own_d10_25)
  refine own_via st7 ?_
  show own_H T7 28 #[.val (.ref a1), .val (.int (3 : Int32)), .val (.ref b1)] [(.int (own_F7 (256 : Int32) (3 : Int32))), (.int (0 : Int32)), (.ref b1), (.int (0 : Int32)), (.ref a1)]
  obtain ⟨T8, h8, L8, X8, N8, e8, K8, V8, st8⟩ := own_cp (L := L) X7 N0 hx hZ hown (own_u hw 58 rfl) (own_u hw 61 rfl) (own_u hw 59 rfl) (own_u hw 60 rfl) e7 f3 f5 g_b1 (nn := (own_F7 (256 : Int32) (3 : Int32))) (n := 3) (by decide) (by decide) (by decide) rfl rfl (pc := 28) (Ls := #[.val (.ref a1), .val (.int (3 : Int32)), .val (.ref b1)]) (rest := []) (by rw [hml]; rfl) (hb hby own_d10_28) (by decide) (W := 0) (Nat.le_of_eq rfl) (by decide)
  refine own_via st8 ?_
  have Kp10 := Kp4.trans K8 (fun x hx => by simp only [List.mem_cons, List.not_mem_nil, or_false] at hx; rcases hx with rfl <;> first | exact (Or.inr sz_b1))
  show own_H T8 31 #[.val (.ref a1), .val (.int (3 : Int32)), .val (.ref b1)] []
  clear f3 f5 Kp4
  refine own_via (fun t k => XS.aloadN X8.here hx rfl (hb hby own_d10_31) rfl rfl k) ?_
  show own_H T8 32 #[.val (.ref a1), .val (.int (3 : Int32)), .val (.ref b1)] [(.ref b1)]
  exact own_retA X8 hx Bd.returns rfl rfl Bd.notSynchronized (hb hby own_d10_32) (by rw [e8]; exact ⟨N8, b1, rfl, Kp10, sz_b1⟩) (by decide) (by decide)
abbrev own_co4_R : Room := { frames := 1, cells := 1, slots := 4, locals := 40 }
theorem own_co4_ef (m : MethodId) (a1 : Addr) : entryFrame m #[(.ref a1), (.int (4 : Int32))] 3 = mkF m 0 #[.val (.ref a1), .val (.int (4 : Int32)), .unset] [] := by first | (simp [entryFrame, mkF, argsToLocals, Value.category]; done) | rfl
def own_co4_q (Z : State) (a1 : Addr) (k_1 : ClassId) (L : List Int32) (h0 : Heap) (v : Option Value) (h : Heap) : Prop := ∃ (x : Addr), v = some (.ref x) ∧ Keep h0 h [] ∧ h0.size ≤ x
set_option maxRecDepth 65536 in
set_option maxHeartbeats 40000000 in
theorem own_co4 (l : Launch) (Z : State) (a0 : Array Value) (hw : ∀ d ∈ tables_1, d.before a0 Z = true) (ws : List Jvm.Cond) (a1 : Addr) (k_1 : ClassId) (L : List Int32) (h0 : Heap) (n0 : Nat) (Z0 : n0 ≤ h0.size) (i_A1 : Arv Z h0 a1 k_1 .int (256 : Int32) (L.map Value.int) (.int (0 : Int32))) :
    own_C l Z (⟨"java/util/Arrays", "copyOf", "([II)[I"⟩ : MethodName) jdk_65_method_123_code 3 (some (.array .int)) ws own_co4_R #[(.ref a1), (.int (4 : Int32))] h0 (own_W n0 (own_co4_q Z a1 k_1 L h0)) := by
  refine MetFree.of_bodySF own_pn10 hisR ?_
  intro p e s m args below meth c s₁ Bd hml0 hP hK
  obtain ⟨rfl, hZ, hh⟩ := hP
  have hx := Bd.exec
  have hby := Bd.bytes
  have hml : c.maxLocals = 3 := hml0
  have hown : s.vm.findClass "java/util/Arrays" = some m.cls := findClass_of_methodNamed Bd.named
  have hnm := (name_of_methodNamed Bd.named Bd.method).1
  have X0 : Stand p l e own_co4_R s m #[(.ref a1), (.int (4 : Int32))] below meth c s₁ [] 0 0 := Stand.of_body Bd
  have e0 : s₁.heap = h0 := by rw [← hh, Bd.state]; rfl
  have N0 := Fr.nil n0
  have K0 : Keep h0 h0 [] := Keep.refl h0 _
  show own_G p e below (own_P s (own_W n0 (own_co4_q Z a1 k_1 L h0)) own_co4_R.cells own_co4_R.slots) (s₁.setTop (entryFrame m #[(.ref a1), (.int (4 : Int32))] 3))
  rw [own_co4_ef m a1]
  show own_H s₁ 0 #[.val (.ref a1), .val (.int (4 : Int32)), .unset] []
  refine own_via (fun t k => XS.iloadN X0.here hx rfl (hb hby own_d10_0) rfl k) ?_
  refine own_via (fun t k => XS.aloadN X0.here hx rfl (hb hby own_d10_1) rfl rfl k) ?_
  show own_H s₁ 2 #[.val (.ref a1), .val (.int (4 : Int32)), .unset] [(.ref a1), (.int (4 : Int32))]
  refine own_via (own_len X0 hx hZ e0 i_A1 (pc := 2) (Ls := #[.val (.ref a1), .val (.int (4 : Int32)), .unset]) (rest := [(.int (4 : Int32))]) (hb hby own_d10_2)) ?_
  show own_H s₁ 3 #[.val (.ref a1), .val (.int (4 : Int32)), .unset] [(.int (256 : Int32)), (.int (4 : Int32))]
  refine own_via (fun t k => XS.icmpYes X0.here hx rfl (pc0 := 3) (pc' := 14) rfl (hb hby own_d10_3) rfl (feq (by decide : ¬ ((4 : Int32) = (256 : Int32)))).2 (by decide) (by decide) k) ?_
  show own_H s₁ 14 #[.val (.ref a1), .val (.int (4 : Int32)), .unset] []
  refine own_via (fun t k => XS.iloadN X0.here hx rfl (hb hby own_d10_14) rfl k) ?_
  show own_H s₁ 15 #[.val (.ref a1), .val (.int (4 : Int32)), .unset] [(.int (4 : Int32))]
  obtain ⟨T1, h1, k1, b1, X1, e1, E1, ga1, V1, Ex1, st1⟩ := own_newA X0 hx hZ (own_u hw 0 rfl) e0 (pc := 15) (Ls := #[.val (.ref a1), .val (.int (4 : Int32)), .unset]) (rest := []) (hb hby own_d10_15) (n := (4 : Int32)) (by decide) (cap := 4) (by decide) (by decide) (by decide) (by decide) 4 rfl
  refine own_via st1 ?_
  have sz_b1 : h0.size ≤ b1 := Nat.le_trans K0.1 (Nat.le_of_eq ga1.symm)
  have f3 := i_A1.ext E1
  have Kp4 := K0.ext E1
  have f5 : Arv Z h1 b1 k1 .int (4 : Int32) [(.int (0 : Int32)), (.int (0 : Int32)), (.int (0 : Int32)), (.int (0 : Int32))] (.int (0 : Int32)) := V1
  have g_b1 : n0 ≤ b1 := Nat.le_trans Z0 (Nat.le_of_eq ga1.symm)
  show own_H T1 17 #[.val (.ref a1), .val (.int (4 : Int32)), .unset] [(.ref b1)]
  clear i_A1 K0
  refine own_via (fun t k => XS.astoreN X1.here hx rfl (hb hby own_d10_17) rfl rfl (l' := #[.val (.ref a1), .val (.int (4 : Int32)), .val (.ref b1)]) rfl k) ?_
  refine own_via (fun t k => XS.aloadN X1.here hx rfl (hb hby own_d10_18) rfl rfl k) ?_
  refine own_via (fun t k => XS.iconst X1.here hx rfl (hb hby own_d10_19) k) ?_
  refine own_via (fun t k => XS.aloadN X1.here hx rfl (hb hby own_d10_20) rfl rfl k) ?_
  refine own_via (fun t k => XS.iconst X1.here hx rfl (hb hby own_d10_21) k) ?_
  show own_H T1 22 #[.val (.ref a1), .val (.int (4 : Int32)), .val (.ref b1)] [(.int (0 : Int32)), (.ref b1), (.int (0 : Int32)), (.ref a1)]
  refine own_via (fun t k => XS.aloadN X1.here hx rfl (hb hby own_d10_22) rfl rfl k) ?_
  show own_H T1 23 #[.val (.ref a1), .val (.int (4 : Int32)), .val (.ref b1)] [(.ref a1), (.int (0 : Int32)), (.ref b1), (.int (0 : Int32)), (.ref a1)]
  refine own_via (own_len X1 hx hZ e1 f3 (pc := 23) (Ls := #[.val (.ref a1), .val (.int (4 : Int32)), .val (.ref b1)]) (rest := [(.int (0 : Int32)), (.ref b1), (.int (0 : Int32)), (.ref a1)]) (hb hby own_d10_23)) ?_
  show own_H T1 24 #[.val (.ref a1), .val (.int (4 : Int32)), .val (.ref b1)] [(.int (256 : Int32)), (.int (0 : Int32)), (.ref b1), (.int (0 : Int32)), (.ref a1)]
  refine own_via (fun t k => XS.iloadN X1.here hx rfl (hb hby own_d10_24) rfl k) ?_
  show own_H T1 25 #[.val (.ref a1), .val (.int (4 : Int32)), .val (.ref b1)] [(.int (4 : Int32)), (.int (256 : Int32)), (.int (0 : Int32)), (.ref b1), (.int (0 : Int32)), (.ref a1)]
  obtain ⟨T7, X7, e7, st7⟩ := own_callP (y := (⟨"java/lang/Math", "min", "(II)I"⟩ : MethodName)) (W := 4) X1 hx hZ hown (own_u hw 57 rfl) (own_u hw 39 rfl) (own_u hw 40 rfl) (own_u hw 41 rfl) (by decide) (own_rm7 l Z a0 hw [] (256 : Int32) (4 : Int32) h1) (by decide) (by decide) rfl rfl (by decide) (by decide) e1 (pc := 25) (Ls := #[.val (.ref a1), .val (.int (4 : Int32)), .val (.ref b1)]) (st := [(.int (4 : Int32)), (.int (256 : Int32)), (.int (0 : Int32)), (.ref b1), (.int (0 : Int32)), (.ref a1)]) (argsL := [(.int (256 : Int32)), (.int (4 : Int32))]) (rest := [(.int (0 : Int32)), (.ref b1), (.int (0 : Int32)), (.ref a1)]) (by rw [hml]; rfl) (lenOf own_pd2 rfl) rfl rfl (Nat.le_of_eq rfl) (hb hby own_d10_25)
  refine own_via st7 ?_
  show own_H T7 28 #[.val (.ref a1), .val (.int (4 : Int32)), .val (.ref b1)] [(.int (own_F7 (256 : Int32) (4 : Int32))), (.int (0 : Int32)), (.ref b1), (.int (0 : Int32)), (.ref a1)]
  obtain ⟨T8, h8, L8, X8, N8, e8, K8, V8, st8⟩ := own_cp (L := L) X7 N0 hx hZ hown (own_u hw 58 rfl) (own_u hw 61 rfl) (own_u hw 59 rfl) (own_u hw 60 rfl) e7 f3 f5 g_b1 (nn := (own_F7 (256 : Int32) (4 : Int32))) (n := 4) (by decide) (by decide) (by decide) rfl rfl (pc := 28) (Ls := #[.val (.ref a1), .val (.int (4 : Int32)), .val (.ref b1)]) (rest := []) (by rw [hml]; rfl) (hb hby own_d10_28) (by decide) (W := 0) (Nat.le_of_eq rfl) (by decide)
  refine own_via st8 ?_
  have Kp10 := Kp4.trans K8 (fun x hx => by simp only [List.mem_cons, List.not_mem_nil, or_false] at hx; rcases hx with rfl <;> first | exact (Or.inr sz_b1))
  show own_H T8 31 #[.val (.ref a1), .val (.int (4 : Int32)), .val (.ref b1)] []
  clear f3 f5 Kp4
  refine own_via (fun t k => XS.aloadN X8.here hx rfl (hb hby own_d10_31) rfl rfl k) ?_
  show own_H T8 32 #[.val (.ref a1), .val (.int (4 : Int32)), .val (.ref b1)] [(.ref b1)]
  exact own_retA X8 hx Bd.returns rfl rfl Bd.notSynchronized (hb hby own_d10_32) (by rw [e8]; exact ⟨N8, b1, rfl, Kp10, sz_b1⟩) (by decide) (by decide)
theorem own_d9_0 : decode prog_6_method_10_code 0 = .ok (.sipush 256, 3) := by decide +kernel
theorem own_d9_3 : decode prog_6_method_10_code 3 = .ok (.newarray .boolean, 2) := by decide +kernel
theorem own_d9_5 : decode prog_6_method_10_code 5 = .ok (.astore_n 1, 1) := by decide +kernel
theorem own_d9_6 : decode prog_6_method_10_code 6 = .ok (.aload_n 1, 1) := by decide +kernel
theorem own_d9_7 : decode prog_6_method_10_code 7 = .ok (.arraylength, 1) := by decide +kernel
theorem own_d9_8 : decode prog_6_method_10_code 8 = .ok (.newarray .int, 2) := by decide +kernel
theorem own_d9_10 : decode prog_6_method_10_code 10 = .ok (.astore_n 2, 1) := by decide +kernel
theorem own_d9_11 : decode prog_6_method_10_code 11 = .ok (.iconst 0, 1) := by decide +kernel
theorem own_d9_12 : decode prog_6_method_10_code 12 = .ok (.istore_n 3, 1) := by decide +kernel
theorem own_d9_13 : decode prog_6_method_10_code 13 = .ok (.iconst 0, 1) := by decide +kernel
theorem own_d9_14 : decode prog_6_method_10_code 14 = .ok (.istore 4, 2) := by decide +kernel
theorem own_d9_16 : decode prog_6_method_10_code 16 = .ok (.iload 4, 2) := by decide +kernel
theorem own_d9_18 : decode prog_6_method_10_code 18 = .ok (.aload_n 0, 1) := by decide +kernel
theorem own_d9_19 : decode prog_6_method_10_code 19 = .ok (.arraylength, 1) := by decide +kernel
theorem own_d9_20 : decode prog_6_method_10_code 20 = .ok (.if_icmp .ge 45, 3) := by decide +kernel
theorem own_d9_23 : decode prog_6_method_10_code 23 = .ok (.iload_n 3, 1) := by decide +kernel
theorem own_d9_24 : decode prog_6_method_10_code 24 = .ok (.aload_n 2, 1) := by decide +kernel
theorem own_d9_25 : decode prog_6_method_10_code 25 = .ok (.arraylength, 1) := by decide +kernel
theorem own_d9_26 : decode prog_6_method_10_code 26 = .ok (.if_icmp .ge 39, 3) := by decide +kernel
theorem own_d9_29 : decode prog_6_method_10_code 29 = .ok (.aload_n 0, 1) := by decide +kernel
theorem own_d9_30 : decode prog_6_method_10_code 30 = .ok (.iload 4, 2) := by decide +kernel
theorem own_d9_32 : decode prog_6_method_10_code 32 = .ok (.iaload, 1) := by decide +kernel
theorem own_d9_33 : decode prog_6_method_10_code 33 = .ok (.sipush 255, 3) := by decide +kernel
theorem own_d9_36 : decode prog_6_method_10_code 36 = .ok (.iand, 1) := by decide +kernel
theorem own_d9_37 : decode prog_6_method_10_code 37 = .ok (.istore 5, 2) := by decide +kernel
theorem own_d9_39 : decode prog_6_method_10_code 39 = .ok (.aload_n 1, 1) := by decide +kernel
theorem own_d9_40 : decode prog_6_method_10_code 40 = .ok (.iload 5, 2) := by decide +kernel
theorem own_d9_42 : decode prog_6_method_10_code 42 = .ok (.baload, 1) := by decide +kernel
theorem own_d9_43 : decode prog_6_method_10_code 43 = .ok (.ifCond .ne 16, 3) := by decide +kernel
theorem own_d9_46 : decode prog_6_method_10_code 46 = .ok (.aload_n 1, 1) := by decide +kernel
theorem own_d9_47 : decode prog_6_method_10_code 47 = .ok (.iload 5, 2) := by decide +kernel
theorem own_d9_49 : decode prog_6_method_10_code 49 = .ok (.iconst 1, 1) := by decide +kernel
theorem own_d9_50 : decode prog_6_method_10_code 50 = .ok (.bastore, 1) := by decide +kernel
theorem own_d9_51 : decode prog_6_method_10_code 51 = .ok (.aload_n 2, 1) := by decide +kernel
theorem own_d9_52 : decode prog_6_method_10_code 52 = .ok (.iload_n 3, 1) := by decide +kernel
theorem own_d9_53 : decode prog_6_method_10_code 53 = .ok (.iinc 3 1, 3) := by decide +kernel
theorem own_d9_56 : decode prog_6_method_10_code 56 = .ok (.iload 4, 2) := by decide +kernel
theorem own_d9_58 : decode prog_6_method_10_code 58 = .ok (.iastore, 1) := by decide +kernel
theorem own_d9_59 : decode prog_6_method_10_code 59 = .ok (.iinc 4 1, 3) := by decide +kernel
theorem own_d9_62 : decode prog_6_method_10_code 62 = .ok (.goto (-46), 3) := by decide +kernel
theorem own_d9_65 : decode prog_6_method_10_code 65 = .ok (.aload_n 2, 1) := by decide +kernel
theorem own_d9_66 : decode prog_6_method_10_code 66 = .ok (.iload_n 3, 1) := by decide +kernel
theorem own_d9_67 : decode prog_6_method_10_code 67 = .ok (.invokestatic 75, 3) := by decide +kernel
theorem own_d9_70 : decode prog_6_method_10_code 70 = .ok (.areturn, 1) := by decide +kernel
abbrev own_fob_R : Room := { frames := 2, cells := 3, slots := 516, locals := 54 }
theorem own_pn9 : plainFor (⟨"com/example/skipstitch/skipstitch/KmpPattern", "firstOfEachLowByte", "([I)[I"⟩ : MethodName) = true := plainFor_of_name (by first | (simp [plainName, overriddenIn]; done) | decide +kernel)
theorem own_fob_ef (m : MethodId) (a1 : Addr) : entryFrame m #[(.ref a1)] 6 = mkF m 0 #[.val (.ref a1), .unset, .unset, .unset, .unset, .unset] [] := by first | (simp [entryFrame, mkF, argsToLocals, Value.category]; done) | rfl
def own_fob_q (Z : State) (a1 : Addr) (k_1 : ClassId) (P : List Int32) (nn : Int32) (len : Nat) (h0 : Heap) (v : Option Value) (h : Heap) : Prop := ∃ (x : Addr), v = some (.ref x) ∧ Keep h0 h []
set_option maxRecDepth 65536 in
set_option maxHeartbeats 40000000 in
theorem own_fob (l : Launch) (Z : State) (a0 : Array Value) (hw : ∀ d ∈ tables_1, d.before a0 Z = true) (ws : List Jvm.Cond) (a1 : Addr) (k_1 : ClassId) (P : List Int32) (nn : Int32) (len : Nat) (h0 : Heap) (n0 : Nat) (Z0 : n0 ≤ h0.size) (i_A1 : Arv Z h0 a1 k_1 .int nn (P.map Value.int) (.int (0 : Int32))) (hp_hl : P.length = len) (hp_hf : own_fo nn len len (0 : Int32) (0 : Int32)) :
    own_C l Z (⟨"com/example/skipstitch/skipstitch/KmpPattern", "firstOfEachLowByte", "([I)[I"⟩ : MethodName) prog_6_method_10_code 6 (some (.array .int)) ws own_fob_R #[(.ref a1)] h0 (own_W n0 (own_fob_q Z a1 k_1 P nn len h0)) := by
  refine MetFree.of_bodySF own_pn9 hisR ?_
  intro p e s m args below meth c s₁ Bd hml0 hP hK
  obtain ⟨rfl, hZ, hh⟩ := hP
  have hx := Bd.exec
  have hby := Bd.bytes
  have hml : c.maxLocals = 6 := hml0
  have hown : s.vm.findClass "com/example/skipstitch/skipstitch/KmpPattern" = some m.cls := findClass_of_methodNamed Bd.named
  have hnm := (name_of_methodNamed Bd.named Bd.method).1
  have X0 : Stand p l e own_fob_R s m #[(.ref a1)] below meth c s₁ [] 0 0 := Stand.of_body Bd
  have e0 : s₁.heap = h0 := by rw [← hh, Bd.state]; rfl
  have N0 := Fr.nil n0
  have K0 : Keep h0 h0 [] := Keep.refl h0 _
  show own_G p e below (own_P s (own_W n0 (own_fob_q Z a1 k_1 P nn len h0)) own_fob_R.cells own_fob_R.slots) (s₁.setTop (entryFrame m #[(.ref a1)] 6))
  rw [own_fob_ef m a1]
  show own_H s₁ 0 #[.val (.ref a1), .unset, .unset, .unset, .unset, .unset] []
  refine own_via (fun t k => XS.sipush X0.here hx rfl (hb hby own_d9_0) k) ?_
  show own_H s₁ 3 #[.val (.ref a1), .unset, .unset, .unset, .unset, .unset] [(.int (256 : Int32))]
  obtain ⟨T1, h1, k1, b1, X1, e1, E1, ga1, V1, Ex1, st1⟩ := own_newA X0 hx hZ (own_u hw 52 rfl) e0 (pc := 3) (Ls := #[.val (.ref a1), .unset, .unset, .unset, .unset, .unset]) (rest := []) (hb hby own_d9_3) (n := (256 : Int32)) (by decide) (cap := 256) (by decide) (by decide) (by decide) (by decide) 256 rfl
  refine own_via st1 ?_
  have sz_b1 : h0.size ≤ b1 := Nat.le_trans K0.1 (Nat.le_of_eq ga1.symm)
  have ne2 : a1 ≠ b1 := Nat.ne_of_lt (Nat.lt_of_lt_of_le i_A1.lt (Nat.le_of_eq ga1.symm))
  have f3 := i_A1.ext E1
  have Kp4 := K0.ext E1
  have f5 : Arv Z h1 b1 k1 .boolean (256 : Int32) ((List.replicate 256 (0 : Int32)).map Value.int) (.int (0 : Int32)) := by rw [List.map_replicate]; exact V1
  have g_b1 : n0 ≤ b1 := Nat.le_trans Z0 (Nat.le_of_eq ga1.symm)
  have Zs6 : n0 ≤ h1.size := Nat.le_trans Z0 E1.1
  show own_H T1 5 #[.val (.ref a1), .unset, .unset, .unset, .unset, .unset] [(.ref b1)]
  clear i_A1 K0
  refine own_via (fun t k => XS.astoreN X1.here hx rfl (hb hby own_d9_5) rfl rfl (l' := #[.val (.ref a1), .val (.ref b1), .unset, .unset, .unset, .unset]) rfl k) ?_
  refine own_via (fun t k => XS.aloadN X1.here hx rfl (hb hby own_d9_6) rfl rfl k) ?_
  show own_H T1 7 #[.val (.ref a1), .val (.ref b1), .unset, .unset, .unset, .unset] [(.ref b1)]
  refine own_via (own_len X1 hx hZ e1 f5 (pc := 7) (Ls := #[.val (.ref a1), .val (.ref b1), .unset, .unset, .unset, .unset]) (rest := []) (hb hby own_d9_7)) ?_
  show own_H T1 8 #[.val (.ref a1), .val (.ref b1), .unset, .unset, .unset, .unset] [(.int (256 : Int32))]
  obtain ⟨T7, h7, k7, b7, X7, e7, E7, ga7, V7, Ex7, st7⟩ := own_newA X1 hx hZ (own_u hw 0 rfl) e1 (pc := 8) (Ls := #[.val (.ref a1), .val (.ref b1), .unset, .unset, .unset, .unset]) (rest := []) (hb hby own_d9_8) (n := (256 : Int32)) (by decide) (cap := 256) (by decide) (by decide) (by decide) (by decide) 256 rfl
  refine own_via st7 ?_
  have sz_b7 : h0.size ≤ b7 := Nat.le_trans Kp4.1 (Nat.le_of_eq ga7.symm)
  have ne8 : a1 ≠ b7 := Nat.ne_of_lt (Nat.lt_of_lt_of_le f3.lt (Nat.le_of_eq ga7.symm))
  have ne9 : b1 ≠ b7 := Nat.ne_of_lt (Nat.lt_of_lt_of_le f5.lt (Nat.le_of_eq ga7.symm))
  have f10 := f3.ext E7
  have f11 := f5.ext E7
  have Kp12 := Kp4.ext E7
  have f13 : Arv Z h7 b7 k7 .int (256 : Int32) ((List.replicate 256 (0 : Int32)).map Value.int) (.int (0 : Int32)) := by rw [List.map_replicate]; exact V7
  have g_b7 : n0 ≤ b7 := Nat.le_trans Zs6 (Nat.le_of_eq ga7.symm)
  have Zs14 : n0 ≤ h7.size := Nat.le_trans Zs6 E7.1
  show own_H T7 10 #[.val (.ref a1), .val (.ref b1), .unset, .unset, .unset, .unset] [(.ref b7)]
  clear f3 f5 Kp4 Zs6
  refine own_via (fun t k => XS.astoreN X7.here hx rfl (hb hby own_d9_10) rfl rfl (l' := #[.val (.ref a1), .val (.ref b1), .val (.ref b7), .unset, .unset, .unset]) rfl k) ?_
  refine own_via (fun t k => XS.iconst X7.here hx rfl (hb hby own_d9_11) k) ?_
  show own_H T7 12 #[.val (.ref a1), .val (.ref b1), .val (.ref b7), .unset, .unset, .unset] [(.int (0 : Int32))]
  refine own_via (fun t k => XS.istoreN X7.here hx rfl (hb hby own_d9_12) rfl (l' := #[.val (.ref a1), .val (.ref b1), .val (.ref b7), .val (.int (0 : Int32)), .unset, .unset]) rfl k) ?_
  refine own_via (fun t k => XS.iconst X7.here hx rfl (hb hby own_d9_13) k) ?_
  show own_H T7 14 #[.val (.ref a1), .val (.ref b1), .val (.ref b7), .val (.int (0 : Int32)), .unset, .unset] [(.int (0 : Int32))]
  refine own_via (fun t k => XS.istore X7.here hx rfl (hb hby own_d9_14) rfl (l' := #[.val (.ref a1), .val (.ref b1), .val (.ref b7), .val (.int (0 : Int32)), .val (.int (0 : Int32)), .unset]) rfl k) ?_
  have J15 : ∀ (f : Nat) (i : Int32) (ct : Int32) (L : List Int32) (M : List Int32) (w5 : Slot) (TJ15 : State) (hJ15 : Heap) (LJ15 : List Loc) (XJ15 : Stand p l e own_fob_R s m #[(.ref a1)] below meth c TJ15 LJ15 2 512) (NJ15 : Fr n0 LJ15) (eJ15 : TJ15.heap = hJ15) (KJ15 : Keep h0 hJ15 []) (ZJ15 : n0 ≤ hJ15.size) (fJ15_0 : Arv Z hJ15 a1 k_1 .int nn (P.map Value.int) (.int (0 : Int32))) (fJ15_1 : Arv Z hJ15 b1 k1 .boolean (256 : Int32) (L.map Value.int) (.int (0 : Int32))) (fJ15_2 : Arv Z hJ15 b7 k7 .int (256 : Int32) (M.map Value.int) (.int (0 : Int32))) (hw5 : w5 = .unset ∨ ∃ v : Int32, w5 = .val (.int v)) (hL : L.length = 256) (hM : M.length = 256) (hI : own_fo nn len f i ct), own_G p e below (own_P s (own_W n0 (own_fob_q Z a1 k_1 P nn len h0)) own_fob_R.cells own_fob_R.slots) (TJ15.setTop (mkF m 16 #[.val (.ref a1), .val (.ref b1), .val (.ref b7), .val (.int ct), .val (.int i), w5] [])) := by
    intro f
    induction f with
    | zero =>
      intro i ct L M w5 TJ15 hJ15 LJ15 XJ15 NJ15 eJ15 KJ15 ZJ15 fJ15_0 fJ15_1 fJ15_2 hw5 hL hM hI
      have hJ : ¬ i < nn ∧ own_c5 ct := hI
      show own_H TJ15 16 #[.val (.ref a1), .val (.ref b1), .val (.ref b7), .val (.int ct), .val (.int i), w5] []
      refine own_via (fun t k => XS.iload XJ15.here hx rfl (hb hby own_d9_16) rfl k) ?_
      show own_H TJ15 18 #[.val (.ref a1), .val (.ref b1), .val (.ref b7), .val (.int ct), .val (.int i), w5] [(.int i)]
      refine own_via (fun t k => XS.aloadN XJ15.here hx rfl (hb hby own_d9_18) rfl rfl k) ?_
      show own_H TJ15 19 #[.val (.ref a1), .val (.ref b1), .val (.ref b7), .val (.int ct), .val (.int i), w5] [(.ref a1), (.int i)]
      refine own_via (own_len XJ15 hx hZ eJ15 fJ15_0 (pc := 19) (Ls := #[.val (.ref a1), .val (.ref b1), .val (.ref b7), .val (.int ct), .val (.int i), w5]) (rest := [(.int i)]) (hb hby own_d9_19)) ?_
      show own_H TJ15 20 #[.val (.ref a1), .val (.ref b1), .val (.ref b7), .val (.int ct), .val (.int i), w5] [(.int nn), (.int i)]
      refine own_via (fun t k => XS.icmpYes XJ15.here hx rfl (pc0 := 20) (pc' := 65) rfl (hb hby own_d9_20) rfl (flt hJ.1).2.1 (by decide) (by decide) k) ?_
      show own_H TJ15 65 #[.val (.ref a1), .val (.ref b1), .val (.ref b7), .val (.int ct), .val (.int i), w5] []
      refine own_via (fun t k => XS.aloadN XJ15.here hx rfl (hb hby own_d9_65) rfl rfl k) ?_
      refine own_via (fun t k => XS.iloadN XJ15.here hx rfl (hb hby own_d9_66) rfl k) ?_
      show own_H TJ15 67 #[.val (.ref a1), .val (.ref b1), .val (.ref b7), .val (.int ct), .val (.int i), w5] [(.int ct), (.ref b7)]
      rcases hJ.2 with hs16 | hs17 | hs18 | hs19 | hs20
      ·
        rw [hs16]
        show own_H TJ15 67 #[.val (.ref a1), .val (.ref b1), .val (.ref b7), .val (.int (0 : Int32)), .val (.int i), w5] [(.int (0 : Int32)), (.ref b7)]
        obtain ⟨v21, T21, h21, L21, X21, N21, e21, hq21, st21⟩ := own_callSW (y := (⟨"java/util/Arrays", "copyOf", "([II)[I"⟩ : MethodName)) (W := 0) XJ15 NJ15 hx hZ hown (own_u hw 53 rfl) (own_u hw 54 rfl) (own_u hw 55 rfl) (own_u hw 56 rfl) (by decide) (own_co0 l Z a0 hw [] b7 k7 M hJ15 n0 ZJ15 fJ15_2) (by decide) (by decide) (by decide) (by decide) eJ15 (pc := 67) (Ls := #[.val (.ref a1), .val (.ref b1), .val (.ref b7), .val (.int (0 : Int32)), .val (.int i), w5]) (st := [(.int (0 : Int32)), (.ref b7)]) (argsL := [(.ref b7), (.int (0 : Int32))]) (rest := []) (by rw [hml]; rfl) (lenOf own_pd3 rfl) rfl rfl (Nat.le_of_eq rfl) (hb hby own_d9_67)
        obtain ⟨x21, rfl, K21, zf_x21⟩ := hq21
        refine own_via st21 ?_
        have Kp28 := KJ15.trans K21 (fun x hx => nomatch hx)
        show own_H T21 70 #[.val (.ref a1), .val (.ref b1), .val (.ref b7), .val (.int (0 : Int32)), .val (.int i), w5] [(.ref x21)]
        clear fJ15_0 fJ15_1 fJ15_2 KJ15 ZJ15
        exact own_retA X21 hx Bd.returns rfl rfl Bd.notSynchronized (hb hby own_d9_70) (by rw [e21]; exact ⟨N21, x21, rfl, Kp28⟩) (by decide) (by decide)
      ·
        rw [hs17]
        show own_H TJ15 67 #[.val (.ref a1), .val (.ref b1), .val (.ref b7), .val (.int (1 : Int32)), .val (.int i), w5] [(.int (1 : Int32)), (.ref b7)]
        obtain ⟨v30, T30, h30, L30, X30, N30, e30, hq30, st30⟩ := own_callSW (y := (⟨"java/util/Arrays", "copyOf", "([II)[I"⟩ : MethodName)) (W := 0) XJ15 NJ15 hx hZ hown (own_u hw 53 rfl) (own_u hw 54 rfl) (own_u hw 55 rfl) (own_u hw 56 rfl) (by decide) (own_co1 l Z a0 hw [] b7 k7 M hJ15 n0 ZJ15 fJ15_2) (by decide) (by decide) (by decide) (by decide) eJ15 (pc := 67) (Ls := #[.val (.ref a1), .val (.ref b1), .val (.ref b7), .val (.int (1 : Int32)), .val (.int i), w5]) (st := [(.int (1 : Int32)), (.ref b7)]) (argsL := [(.ref b7), (.int (1 : Int32))]) (rest := []) (by rw [hml]; rfl) (lenOf own_pd3 rfl) rfl rfl (Nat.le_of_eq rfl) (hb hby own_d9_67)
        obtain ⟨x30, rfl, K30, zf_x30⟩ := hq30
        refine own_via st30 ?_
        have Kp37 := KJ15.trans K30 (fun x hx => nomatch hx)
        show own_H T30 70 #[.val (.ref a1), .val (.ref b1), .val (.ref b7), .val (.int (1 : Int32)), .val (.int i), w5] [(.ref x30)]
        clear fJ15_0 fJ15_1 fJ15_2 KJ15 ZJ15
        exact own_retA X30 hx Bd.returns rfl rfl Bd.notSynchronized (hb hby own_d9_70) (by rw [e30]; exact ⟨N30, x30, rfl, Kp37⟩) (by decide) (by decide)
      ·
        rw [hs18]
        show own_H TJ15 67 #[.val (.ref a1), .val (.ref b1), .val (.ref b7), .val (.int (2 : Int32)), .val (.int i), w5] [(.int (2 : Int32)), (.ref b7)]
        obtain ⟨v39, T39, h39, L39, X39, N39, e39, hq39, st39⟩ := own_callSW (y := (⟨"java/util/Arrays", "copyOf", "([II)[I"⟩ : MethodName)) (W := 0) XJ15 NJ15 hx hZ hown (own_u hw 53 rfl) (own_u hw 54 rfl) (own_u hw 55 rfl) (own_u hw 56 rfl) (by decide) (own_co2 l Z a0 hw [] b7 k7 M hJ15 n0 ZJ15 fJ15_2) (by decide) (by decide) (by decide) (by decide) eJ15 (pc := 67) (Ls := #[.val (.ref a1), .val (.ref b1), .val (.ref b7), .val (.int (2 : Int32)), .val (.int i), w5]) (st := [(.int (2 : Int32)), (.ref b7)]) (argsL := [(.ref b7), (.int (2 : Int32))]) (rest := []) (by rw [hml]; rfl) (lenOf own_pd3 rfl) rfl rfl (Nat.le_of_eq rfl) (hb hby own_d9_67)
        obtain ⟨x39, rfl, K39, zf_x39⟩ := hq39
        refine own_via st39 ?_
        have Kp46 := KJ15.trans K39 (fun x hx => nomatch hx)
        show own_H T39 70 #[.val (.ref a1), .val (.ref b1), .val (.ref b7), .val (.int (2 : Int32)), .val (.int i), w5] [(.ref x39)]
        clear fJ15_0 fJ15_1 fJ15_2 KJ15 ZJ15
        exact own_retA X39 hx Bd.returns rfl rfl Bd.notSynchronized (hb hby own_d9_70) (by rw [e39]; exact ⟨N39, x39, rfl, Kp46⟩) (by decide) (by decide)
      ·
        rw [hs19]
        show own_H TJ15 67 #[.val (.ref a1), .val (.ref b1), .val (.ref b7), .val (.int (3 : Int32)), .val (.int i), w5] [(.int (3 : Int32)), (.ref b7)]
        obtain ⟨v48, T48, h48, L48, X48, N48, e48, hq48, st48⟩ := own_callSW (y := (⟨"java/util/Arrays", "copyOf", "([II)[I"⟩ : MethodName)) (W := 0) XJ15 NJ15 hx hZ hown (own_u hw 53 rfl) (own_u hw 54 rfl) (own_u hw 55 rfl) (own_u hw 56 rfl) (by decide) (own_co3 l Z a0 hw [] b7 k7 M hJ15 n0 ZJ15 fJ15_2) (by decide) (by decide) (by decide) (by decide) eJ15 (pc := 67) (Ls := #[.val (.ref a1), .val (.ref b1), .val (.ref b7), .val (.int (3 : Int32)), .val (.int i), w5]) (st := [(.int (3 : Int32)), (.ref b7)]) (argsL := [(.ref b7), (.int (3 : Int32))]) (rest := []) (by rw [hml]; rfl) (lenOf own_pd3 rfl) rfl rfl (Nat.le_of_eq rfl) (hb hby own_d9_67)
        obtain ⟨x48, rfl, K48, zf_x48⟩ := hq48
        refine own_via st48 ?_
        have Kp55 := KJ15.trans K48 (fun x hx => nomatch hx)
        show own_H T48 70 #[.val (.ref a1), .val (.ref b1), .val (.ref b7), .val (.int (3 : Int32)), .val (.int i), w5] [(.ref x48)]
        clear fJ15_0 fJ15_1 fJ15_2 KJ15 ZJ15
        exact own_retA X48 hx Bd.returns rfl rfl Bd.notSynchronized (hb hby own_d9_70) (by rw [e48]; exact ⟨N48, x48, rfl, Kp55⟩) (by decide) (by decide)
      ·
        rw [hs20]
        show own_H TJ15 67 #[.val (.ref a1), .val (.ref b1), .val (.ref b7), .val (.int (4 : Int32)), .val (.int i), w5] [(.int (4 : Int32)), (.ref b7)]
        obtain ⟨v57, T57, h57, L57, X57, N57, e57, hq57, st57⟩ := own_callSW (y := (⟨"java/util/Arrays", "copyOf", "([II)[I"⟩ : MethodName)) (W := 0) XJ15 NJ15 hx hZ hown (own_u hw 53 rfl) (own_u hw 54 rfl) (own_u hw 55 rfl) (own_u hw 56 rfl) (by decide) (own_co4 l Z a0 hw [] b7 k7 M hJ15 n0 ZJ15 fJ15_2) (by decide) (by decide) (by decide) (by decide) eJ15 (pc := 67) (Ls := #[.val (.ref a1), .val (.ref b1), .val (.ref b7), .val (.int (4 : Int32)), .val (.int i), w5]) (st := [(.int (4 : Int32)), (.ref b7)]) (argsL := [(.ref b7), (.int (4 : Int32))]) (rest := []) (by rw [hml]; rfl) (lenOf own_pd3 rfl) rfl rfl (Nat.le_of_eq rfl) (hb hby own_d9_67)
        obtain ⟨x57, rfl, K57, zf_x57⟩ := hq57
        refine own_via st57 ?_
        have Kp64 := KJ15.trans K57 (fun x hx => nomatch hx)
        show own_H T57 70 #[.val (.ref a1), .val (.ref b1), .val (.ref b7), .val (.int (4 : Int32)), .val (.int i), w5] [(.ref x57)]
        clear fJ15_0 fJ15_1 fJ15_2 KJ15 ZJ15
        exact own_retA X57 hx Bd.returns rfl rfl Bd.notSynchronized (hb hby own_d9_70) (by rw [e57]; exact ⟨N57, x57, rfl, Kp64⟩) (by decide) (by decide)
    | succ f ih =>
      intro i ct L M w5 TJ15 hJ15 LJ15 XJ15 NJ15 eJ15 KJ15 ZJ15 fJ15_0 fJ15_1 fJ15_2 hw5 hL hM hI
      have hJ : i < nn ∧ (¬ i < 0 ∧ i.toNatClampNeg < len) ∧ (¬ ct < 0 ∧ ct < 256 ∧ ct.toNatClampNeg < 256) ∧ own_fo nn len f (i + 1) ct ∧ own_fo nn len f (i + 1) (ct + 1) := hI
      show own_H TJ15 16 #[.val (.ref a1), .val (.ref b1), .val (.ref b7), .val (.int ct), .val (.int i), w5] []
      refine own_via (fun t k => XS.iload XJ15.here hx rfl (hb hby own_d9_16) rfl k) ?_
      show own_H TJ15 18 #[.val (.ref a1), .val (.ref b1), .val (.ref b7), .val (.int ct), .val (.int i), w5] [(.int i)]
      refine own_via (fun t k => XS.aloadN XJ15.here hx rfl (hb hby own_d9_18) rfl rfl k) ?_
      show own_H TJ15 19 #[.val (.ref a1), .val (.ref b1), .val (.ref b7), .val (.int ct), .val (.int i), w5] [(.ref a1), (.int i)]
      refine own_via (own_len XJ15 hx hZ eJ15 fJ15_0 (pc := 19) (Ls := #[.val (.ref a1), .val (.ref b1), .val (.ref b7), .val (.int ct), .val (.int i), w5]) (rest := [(.int i)]) (hb hby own_d9_19)) ?_
      show own_H TJ15 20 #[.val (.ref a1), .val (.ref b1), .val (.ref b7), .val (.int ct), .val (.int i), w5] [(.int nn), (.int i)]
      refine own_via (fun t k => XS.icmpNo XJ15.here hx rfl (hb hby own_d9_20) rfl (tlt hJ.1).2.1 k) ?_
      show own_H TJ15 23 #[.val (.ref a1), .val (.ref b1), .val (.ref b7), .val (.int ct), .val (.int i), w5] []
      refine own_via (fun t k => XS.iloadN XJ15.here hx rfl (hb hby own_d9_23) rfl k) ?_
      refine own_via (fun t k => XS.aloadN XJ15.here hx rfl (hb hby own_d9_24) rfl rfl k) ?_
      show own_H TJ15 25 #[.val (.ref a1), .val (.ref b1), .val (.ref b7), .val (.int ct), .val (.int i), w5] [(.ref b7), (.int ct)]
      refine own_via (own_len XJ15 hx hZ eJ15 fJ15_2 (pc := 25) (Ls := #[.val (.ref a1), .val (.ref b1), .val (.ref b7), .val (.int ct), .val (.int i), w5]) (rest := [(.int ct)]) (hb hby own_d9_25)) ?_
      show own_H TJ15 26 #[.val (.ref a1), .val (.ref b1), .val (.ref b7), .val (.int ct), .val (.int i), w5] [(.int (256 : Int32)), (.int ct)]
      refine own_via (fun t k => XS.icmpNo XJ15.here hx rfl (hb hby own_d9_26) rfl (tlt hJ.2.2.1.2.1).2.1 k) ?_
      show own_H TJ15 29 #[.val (.ref a1), .val (.ref b1), .val (.ref b7), .val (.int ct), .val (.int i), w5] []
      refine own_via (fun t k => XS.aloadN XJ15.here hx rfl (hb hby own_d9_29) rfl rfl k) ?_
      refine own_via (fun t k => XS.iload XJ15.here hx rfl (hb hby own_d9_30) rfl k) ?_
      show own_H TJ15 32 #[.val (.ref a1), .val (.ref b1), .val (.ref b7), .val (.int ct), .val (.int i), w5] [(.int i), (.ref a1)]
      refine own_via (own_ldS (L := P) XJ15 hx hZ eJ15 fJ15_0 (j := i) (⟨⟨hJ.2.1.1, hJ.1⟩, by rw [hp_hl]; exact hJ.2.1.2⟩ : own_in P i nn).1 (pc := 32) (Ls := #[.val (.ref a1), .val (.ref b1), .val (.ref b7), .val (.int ct), .val (.int i), w5]) (rest := []) (hb hby own_d9_32)) ?_
      show own_H TJ15 33 #[.val (.ref a1), .val (.ref b1), .val (.ref b7), .val (.int ct), .val (.int i), w5] [(.int (own_get P i))]
      refine own_via (fun t k => XS.sipush XJ15.here hx rfl (hb hby own_d9_33) k) ?_
      show own_H TJ15 36 #[.val (.ref a1), .val (.ref b1), .val (.ref b7), .val (.int ct), .val (.int i), w5] [(.int (255 : Int32)), (.int (own_get P i))]
      refine own_via (fun t k => XS.iand XJ15.here hx rfl (hb hby own_d9_36) rfl k) ?_
      show own_H TJ15 37 #[.val (.ref a1), .val (.ref b1), .val (.ref b7), .val (.int ct), .val (.int i), w5] [(.int ((own_get P i) &&& (255 : Int32)))]
      refine own_via (fun t k => XS.istore XJ15.here hx rfl (hb hby own_d9_37) rfl (l' := #[.val (.ref a1), .val (.ref b1), .val (.ref b7), .val (.int ct), .val (.int i), .val (.int ((own_get P i) &&& (255 : Int32)))]) (by rcases hw5 with h | ⟨v, h⟩ <;> subst h <;> rfl) k) ?_
      refine own_via (fun t k => XS.aloadN XJ15.here hx rfl (hb hby own_d9_39) rfl rfl k) ?_
      refine own_via (fun t k => XS.iload XJ15.here hx rfl (hb hby own_d9_40) rfl k) ?_
      show own_H TJ15 42 #[.val (.ref a1), .val (.ref b1), .val (.ref b7), .val (.int ct), .val (.int i), .val (.int ((own_get P i) &&& (255 : Int32)))] [(.int ((own_get P i) &&& (255 : Int32))), (.ref b1)]
      refine own_via (own_ldZ (L := L) XJ15 hx hZ eJ15 fJ15_1 (j := ((own_get P i) &&& (255 : Int32))) (own_m255 _ hL).1 (pc := 42) (Ls := #[.val (.ref a1), .val (.ref b1), .val (.ref b7), .val (.int ct), .val (.int i), .val (.int ((own_get P i) &&& (255 : Int32)))]) (rest := []) (hb hby own_d9_42)) ?_
      show own_H TJ15 43 #[.val (.ref a1), .val (.ref b1), .val (.ref b7), .val (.int ct), .val (.int i), .val (.int ((own_get P i) &&& (255 : Int32)))] [(.int (own_get L ((own_get P i) &&& (255 : Int32))))]
      by_cases hc66 : (own_get L ((own_get P i) &&& (255 : Int32))) = (0 : Int32)
      ·
        refine own_via (fun t k => XS.ifNo XJ15.here hx rfl (hb hby own_d9_43) rfl ((if0 _ _).trans (teq hc66).2) k) ?_
        show own_H TJ15 46 #[.val (.ref a1), .val (.ref b1), .val (.ref b7), .val (.int ct), .val (.int i), .val (.int ((own_get P i) &&& (255 : Int32)))] []
        refine own_via (fun t k => XS.aloadN XJ15.here hx rfl (hb hby own_d9_46) rfl rfl k) ?_
        refine own_via (fun t k => XS.iload XJ15.here hx rfl (hb hby own_d9_47) rfl k) ?_
        refine own_via (fun t k => XS.iconst XJ15.here hx rfl (hb hby own_d9_49) k) ?_
        show own_H TJ15 50 #[.val (.ref a1), .val (.ref b1), .val (.ref b7), .val (.int ct), .val (.int i), .val (.int ((own_get P i) &&& (255 : Int32)))] [(.int (1 : Int32)), (.int ((own_get P i) &&& (255 : Int32))), (.ref b1)]
        obtain ⟨T67, h67, L67, X67, N67, e67, W67, V67, st67⟩ := own_stZ (L := L) XJ15 NJ15 hx hZ eJ15 fJ15_1 g_b1 (j := ((own_get P i) &&& (255 : Int32))) (x := (1 : Int32)) (own_m255 _ hL) (pc := 50) (Ls := #[.val (.ref a1), .val (.ref b1), .val (.ref b7), .val (.int ct), .val (.int i), .val (.int ((own_get P i) &&& (255 : Int32)))]) (rest := []) (hb hby own_d9_50)
        refine own_via st67 ?_
        have f68 := fJ15_0.other W67 ne2
        have f69 := fJ15_2.other W67 (Ne.symm ne9)
        have Kp70 := KJ15.wr W67 (Or.inr sz_b1)
        have f71 : Arv Z h67 b1 k1 .boolean (256 : Int32) ((own_set L ((own_get P i) &&& (255 : Int32)) (nar .boolean (1 : Int32))).map Value.int) (.int (0 : Int32)) := V67
        have Zs72 : n0 ≤ h67.size := by rw [W67.size]; exact ZJ15
        show own_H T67 51 #[.val (.ref a1), .val (.ref b1), .val (.ref b7), .val (.int ct), .val (.int i), .val (.int ((own_get P i) &&& (255 : Int32)))] []
        clear fJ15_0 fJ15_1 fJ15_2 KJ15 ZJ15
        refine own_via (fun t k => XS.aloadN X67.here hx rfl (hb hby own_d9_51) rfl rfl k) ?_
        refine own_via (fun t k => XS.iloadN X67.here hx rfl (hb hby own_d9_52) rfl k) ?_
        show own_H T67 53 #[.val (.ref a1), .val (.ref b1), .val (.ref b7), .val (.int ct), .val (.int i), .val (.int ((own_get P i) &&& (255 : Int32)))] [(.int ct), (.ref b7)]
        refine own_via (fun t k => XS.iinc X67.here hx rfl (hb hby own_d9_53) rfl (l' := #[.val (.ref a1), .val (.ref b1), .val (.ref b7), .val (.int (ct + (1 : Int32))), .val (.int i), .val (.int ((own_get P i) &&& (255 : Int32)))]) rfl k) ?_
        refine own_via (fun t k => XS.iload X67.here hx rfl (hb hby own_d9_56) rfl k) ?_
        show own_H T67 58 #[.val (.ref a1), .val (.ref b1), .val (.ref b7), .val (.int (ct + (1 : Int32))), .val (.int i), .val (.int ((own_get P i) &&& (255 : Int32)))] [(.int i), (.int ct), (.ref b7)]
        obtain ⟨T73, h73, L73, X73, N73, e73, W73, V73, st73⟩ := own_stS (L := M) X67 N67 hx hZ e67 f69 g_b7 (j := ct) (x := i) (⟨⟨hJ.2.2.1.1, hJ.2.2.1.2.1⟩, by rw [hM]; exact hJ.2.2.1.2.2⟩ : own_in M ct 256) (pc := 58) (Ls := #[.val (.ref a1), .val (.ref b1), .val (.ref b7), .val (.int (ct + (1 : Int32))), .val (.int i), .val (.int ((own_get P i) &&& (255 : Int32)))]) (rest := []) (hb hby own_d9_58)
        refine own_via st73 ?_
        have f74 := f68.other W73 ne8
        have f75 := f71.other W73 ne9
        have Kp76 := Kp70.wr W73 (Or.inr sz_b7)
        have f77 : Arv Z h73 b7 k7 .int (256 : Int32) ((own_set M ct i).map Value.int) (.int (0 : Int32)) := V73
        have Zs78 : n0 ≤ h73.size := by rw [W73.size]; exact Zs72
        show own_H T73 59 #[.val (.ref a1), .val (.ref b1), .val (.ref b7), .val (.int (ct + (1 : Int32))), .val (.int i), .val (.int ((own_get P i) &&& (255 : Int32)))] []
        clear f68 f69 f71 Kp70 Zs72
        refine own_via (fun t k => XS.iinc X73.here hx rfl (hb hby own_d9_59) rfl (l' := #[.val (.ref a1), .val (.ref b1), .val (.ref b7), .val (.int (ct + (1 : Int32))), .val (.int (i + (1 : Int32))), .val (.int ((own_get P i) &&& (255 : Int32)))]) rfl k) ?_
        show own_H T73 62 #[.val (.ref a1), .val (.ref b1), .val (.ref b7), .val (.int (ct + (1 : Int32))), .val (.int (i + (1 : Int32))), .val (.int ((own_get P i) &&& (255 : Int32)))] []
        refine own_via (fun t k => XS.goto X73.here hx rfl (pc0 := 62) (pc' := 16) rfl (hb hby own_d9_62) (by decide) (by decide) k) ?_
        show own_H T73 16 #[.val (.ref a1), .val (.ref b1), .val (.ref b7), .val (.int (ct + (1 : Int32))), .val (.int (i + (1 : Int32))), .val (.int ((own_get P i) &&& (255 : Int32)))] []
        exact ih  (i + (1 : Int32)) (ct + (1 : Int32)) (own_set L ((own_get P i) &&& (255 : Int32)) (nar .boolean (1 : Int32))) (own_set M ct i) (.val (.int ((own_get P i) &&& (255 : Int32)))) _ _ _ X73 N73 e73 Kp76 Zs78 f74 f75 f77 (Or.inr ⟨_, rfl⟩) (own_sl hL _ _) (own_sl hM _ _) hJ.2.2.2.2
      ·
        refine own_via (fun t k => XS.ifYes XJ15.here hx rfl (pc0 := 43) (pc' := 59) rfl (hb hby own_d9_43) rfl ((if0 _ _).trans (feq hc66).2) (by decide) (by decide) k) ?_
        show own_H TJ15 59 #[.val (.ref a1), .val (.ref b1), .val (.ref b7), .val (.int ct), .val (.int i), .val (.int ((own_get P i) &&& (255 : Int32)))] []
        refine own_via (fun t k => XS.iinc XJ15.here hx rfl (hb hby own_d9_59) rfl (l' := #[.val (.ref a1), .val (.ref b1), .val (.ref b7), .val (.int ct), .val (.int (i + (1 : Int32))), .val (.int ((own_get P i) &&& (255 : Int32)))]) rfl k) ?_
        show own_H TJ15 62 #[.val (.ref a1), .val (.ref b1), .val (.ref b7), .val (.int ct), .val (.int (i + (1 : Int32))), .val (.int ((own_get P i) &&& (255 : Int32)))] []
        refine own_via (fun t k => XS.goto XJ15.here hx rfl (pc0 := 62) (pc' := 16) rfl (hb hby own_d9_62) (by decide) (by decide) k) ?_
        show own_H TJ15 16 #[.val (.ref a1), .val (.ref b1), .val (.ref b7), .val (.int ct), .val (.int (i + (1 : Int32))), .val (.int ((own_get P i) &&& (255 : Int32)))] []
        exact ih  (i + (1 : Int32)) ct L M (.val (.int ((own_get P i) &&& (255 : Int32)))) _ _ _ XJ15 NJ15 eJ15 KJ15 ZJ15 fJ15_0 fJ15_1 fJ15_2 (Or.inr ⟨_, rfl⟩) hL hM hJ.2.2.2.1
  exact J15 len (0 : Int32) (0 : Int32) (List.replicate 256 (0 : Int32)) (List.replicate 256 (0 : Int32)) .unset _ _ _ X7 N0 e7 Kp12 Zs14 f10 f11 f13 (Or.inl rfl) List.length_replicate List.length_replicate hp_hf
theorem own_d1_0 : decode prog_6_method_1_code 0 = .ok (.aload_n 0, 1) := by decide +kernel
theorem own_d1_1 : decode prog_6_method_1_code 1 = .ok (.invokespecial 1, 3) := by decide +kernel
theorem own_d1_4 : decode prog_6_method_1_code 4 = .ok (.aload_n 0, 1) := by decide +kernel
theorem own_d1_5 : decode prog_6_method_1_code 5 = .ok (.aload_n 1, 1) := by decide +kernel
theorem own_d1_6 : decode prog_6_method_1_code 6 = .ok (.invokestatic 7, 3) := by decide +kernel
theorem own_d1_9 : decode prog_6_method_1_code 9 = .ok (.putfield 13, 3) := by decide +kernel
theorem own_d1_12 : decode prog_6_method_1_code 12 = .ok (.aload_n 0, 1) := by decide +kernel
theorem own_d1_13 : decode prog_6_method_1_code 13 = .ok (.aload_n 1, 1) := by decide +kernel
theorem own_d1_14 : decode prog_6_method_1_code 14 = .ok (.invokestatic 19, 3) := by decide +kernel
theorem own_d1_17 : decode prog_6_method_1_code 17 = .ok (.putfield 25, 3) := by decide +kernel
theorem own_d1_20 : decode prog_6_method_1_code 20 = .ok (.aload_n 0, 1) := by decide +kernel
theorem own_d1_21 : decode prog_6_method_1_code 21 = .ok (.aload_n 1, 1) := by decide +kernel
theorem own_d1_22 : decode prog_6_method_1_code 22 = .ok (.invokestatic 29, 3) := by decide +kernel
theorem own_d1_25 : decode prog_6_method_1_code 25 = .ok (.putfield 33, 3) := by decide +kernel
theorem own_d1_28 : decode prog_6_method_1_code 28 = .ok (.aload_n 0, 1) := by decide +kernel
theorem own_d1_29 : decode prog_6_method_1_code 29 = .ok (.aload_n 1, 1) := by decide +kernel
theorem own_d1_30 : decode prog_6_method_1_code 30 = .ok (.invokestatic 37, 3) := by decide +kernel
theorem own_d1_33 : decode prog_6_method_1_code 33 = .ok (.putfield 40, 3) := by decide +kernel
theorem own_d1_36 : decode prog_6_method_1_code 36 = .ok (.aload_n 0, 1) := by decide +kernel
theorem own_d1_37 : decode prog_6_method_1_code 37 = .ok (.aload_n 1, 1) := by decide +kernel
theorem own_d1_38 : decode prog_6_method_1_code 38 = .ok (.invokevirtual 42, 3) := by decide +kernel
theorem own_d1_41 : decode prog_6_method_1_code 41 = .ok (.checkcast 43, 3) := by decide +kernel
theorem own_d1_44 : decode prog_6_method_1_code 44 = .ok (.putfield 47, 3) := by decide +kernel
theorem own_d1_47 : decode prog_6_method_1_code 47 = .ok (.aload_n 0, 1) := by decide +kernel
theorem own_d1_48 : decode prog_6_method_1_code 48 = .ok (.aload_n 2, 1) := by decide +kernel
theorem own_d1_49 : decode prog_6_method_1_code 49 = .ok (.ldc 50, 2) := by decide +kernel
theorem own_d1_51 : decode prog_6_method_1_code 51 = .ok (.invokestatic 52, 3) := by decide +kernel
theorem own_d1_54 : decode prog_6_method_1_code 54 = .ok (.checkcast 58, 3) := by decide +kernel
theorem own_d1_57 : decode prog_6_method_1_code 57 = .ok (.putfield 60, 3) := by decide +kernel
theorem own_d1_60 : decode prog_6_method_1_code 60 = .ok (.return_, 1) := by decide +kernel
abbrev own_it1_R : Room := { frames := 3, cells := 14, slots := 800, locals := 90 }
theorem own_pn1 : plainFor (⟨"com/example/skipstitch/skipstitch/KmpPattern", "<init>", "([ILcom/example/skipstitch/skipstitch/Matching;)V"⟩ : MethodName) = true := plainFor_of_name (by first | (simp [plainName, overriddenIn]; done) | decide +kernel)
theorem own_it1_ef (m : MethodId) (a1 : Addr) (a2 : Addr) (a3 : Addr) : entryFrame m #[(.ref a1), (.ref a2), (.ref a3)] 3 = mkF m 0 #[.val (.ref a1), .val (.ref a2), .val (.ref a3)] [] := by first | (simp [entryFrame, mkF, argsToLocals, Value.category]; done) | rfl
def own_it1_q (Z : State) (a1 : Addr) (a2 : Addr) (a3 : Addr) (k_1 : ClassId) (p0 : Int32) (h0 : Heap) (v : Option Value) (h : Heap) : Prop := ∃ (x : Addr) (y : Addr) (kx : ClassId) (ky : ClassId), v = none ∧ Keep h0 h [a1] ∧ h0.size ≤ x ∧ h0.size ≤ y ∧ Exa Z h a1 own_cK ∧ Fld Z h a1 own_cK "units" "[I" (.ref x) ∧ Fld Z h a1 own_cK "fallbacks" "[I" (.ref y) ∧ Arv Z h x kx .int (1 : Int32) [(.int p0)] (.int (0 : Int32)) ∧ Arv Z h y ky .int (2 : Int32) ((own_FB1 p0).map Value.int) (.int (0 : Int32))
set_option maxRecDepth 65536 in
set_option maxHeartbeats 40000000 in
theorem own_it1 (l : Launch) (Z : State) (a0 : Array Value) (hw : ∀ d ∈ tables_1, d.before a0 Z = true) (ws : List Jvm.Cond) (a1 : Addr) (a2 : Addr) (a3 : Addr) (k_1 : ClassId) (p0 : Int32) (h0 : Heap) (n0 : Nat) (Z0 : n0 ≤ h0.size) (i_Ea : Exa Z h0 a1 own_cK) (i_F_fallbacks : Fld Z h0 a1 own_cK "fallbacks" "[I" .null) (i_F_grams : Fld Z h0 a1 own_cK "grams" own_dG .null) (i_F_key : Fld Z h0 a1 own_cK "key" "I" (.int (0 : Int32))) (i_F_firstOfEachLowByte : Fld Z h0 a1 own_cK "firstOfEachLowByte" "[I" .null) (i_F_units : Fld Z h0 a1 own_cK "units" "[I" .null) (i_F_matching : Fld Z h0 a1 own_cK "matching" own_dM .null) (i_A1 : Arv Z h0 a2 k_1 .int (1 : Int32) [(.int p0)] (.int (0 : Int32))) (i_E2 : Exa Z h0 a2 "[I") (i_E3 : Exa Z h0 a3 own_cM) (g_a1 : n0 ≤ a1) (ne_a1_a2 : a1 ≠ a2) :
    own_CW l Z (⟨"com/example/skipstitch/skipstitch/KmpPattern", "<init>", "([ILcom/example/skipstitch/skipstitch/Matching;)V"⟩ : MethodName) prog_6_method_1_code 3 none ws own_it1_R #[(.ref a1), (.ref a2), (.ref a3)] h0 (own_W n0 (own_it1_q Z a1 a2 a3 k_1 p0 h0)) := by
  refine MetFree.of_bodySF own_pn1 hisR ?_
  intro p e s m args below meth c s₁ Bd hml0 hP hK
  obtain ⟨rfl, hZ, hh⟩ := hP
  have hx := Bd.exec
  have hby := Bd.bytes
  have hml : c.maxLocals = 3 := hml0
  have hown : s.vm.findClass "com/example/skipstitch/skipstitch/KmpPattern" = some m.cls := findClass_of_methodNamed Bd.named
  have hnm := (name_of_methodNamed Bd.named Bd.method).1
  have X0 : Stand p l e own_it1_R s m #[(.ref a1), (.ref a2), (.ref a3)] below meth c s₁ [] 0 0 := Stand.of_body Bd
  have e0 : s₁.heap = h0 := by rw [← hh, Bd.state]; rfl
  have N0 := Fr.nil n0
  have K0 : Keep h0 h0 [a1] := Keep.refl h0 _
  have S0 := own_S0 s
  have W0 : 0 ≤ h0.size := Nat.zero_le _
  obtain ⟨Pw, hPw⟩ : ∃ P, P = (own_PW s (own_W n0 (own_it1_q Z a1 a2 a3 k_1 p0 h0)) own_it1_R.cells own_it1_R.slots) := ⟨_, rfl⟩
  show own_G p e below (own_PW s (own_W n0 (own_it1_q Z a1 a2 a3 k_1 p0 h0)) own_it1_R.cells own_it1_R.slots) (s₁.setTop (entryFrame m #[(.ref a1), (.ref a2), (.ref a3)] 3))
  rw [← hPw]
  rw [own_it1_ef m a1 a2 a3]
  show own_H s₁ 0 #[.val (.ref a1), .val (.ref a2), .val (.ref a3)] []
  refine own_via (fun t k => XS.aloadN X0.here hx rfl (hb hby own_d1_0) rfl rfl k) ?_
  show own_H s₁ 1 #[.val (.ref a1), .val (.ref a2), .val (.ref a3)] [(.ref a1)]
  obtain ⟨T1, X1, e1, st1⟩ := initO X0 hx hZ hown (own_u hw 10 rfl) (own_u hw 11 rfl) (own_u hw 12 rfl) e0 (g := (mkF m 1 #[.val (.ref a1), .val (.ref a2), .val (.ref a3)] [(.ref a1)])) rfl (by rw [hml]; rfl) rfl (hb hby own_d1_1) (by decide) (W := 0) (by show 2 * 0 + _ ≤ _; exact Nat.le_of_eq rfl) (by decide)
  refine own_via st1 ?_
  show own_H T1 4 #[.val (.ref a1), .val (.ref a2), .val (.ref a3)] []
  refine own_via (fun t k => XS.aloadN X1.here hx rfl (hb hby own_d1_4) rfl rfl k) ?_
  refine own_via (fun t k => XS.aloadN X1.here hx rfl (hb hby own_d1_5) rfl rfl k) ?_
  show own_H T1 6 #[.val (.ref a1), .val (.ref a2), .val (.ref a3)] [(.ref a2), (.ref a1)]
  obtain ⟨v2, T2, h2, L2, s, kw2, X2, N2, e2, hq2, S2, Wk2, hZ, hown, st2⟩ := own_callSX (y := (⟨"com/example/skipstitch/skipstitch/PartialMatchTable", "fallbacksOf", "([I)[I"⟩ : MethodName)) (W := 1) S0 W0 X1 N0 hx hZ hown (own_u hw 13 rfl) (own_u hw 14 rfl) (own_u hw 15 rfl) (own_u hw 16 rfl) (by decide) (own_fb1 l Z a0 hw [] a2 k_1 p0 h0 n0 Z0 i_A1) (by decide) (by decide) (by decide) (by decide) e1 (pc := 6) (Ls := #[.val (.ref a1), .val (.ref a2), .val (.ref a3)]) (st := [(.ref a2), (.ref a1)]) (argsL := [(.ref a2)]) (rest := [(.ref a1)]) (by rw [hml]; rfl) (lenOf own_pd1 rfl) rfl rfl (Nat.le_of_eq rfl) (hb hby own_d1_6)
  obtain ⟨x2, kx2, rfl, K2, zf_x2, o2_0⟩ := hq2
  refine own_via st2 ?_
  have ne3 : a1 ≠ x2 := Nat.ne_of_lt (Nat.lt_of_lt_of_le i_Ea.lt zf_x2)
  have sz_x2 : h0.size ≤ x2 := Nat.le_trans K0.1 zf_x2
  have f6 := i_Ea.ext (own_ke K2)
  have f7 := i_F_fallbacks.ext (own_ke K2)
  have f8 := i_F_grams.ext (own_ke K2)
  have f9 := i_F_key.ext (own_ke K2)
  have f10 := i_F_firstOfEachLowByte.ext (own_ke K2)
  have f11 := i_F_units.ext (own_ke K2)
  have f12 := i_F_matching.ext (own_ke K2)
  have f13 := i_A1.ext (own_ke K2)
  have f14 := i_E2.ext (own_ke K2)
  have f15 := i_E3.ext (own_ke K2)
  have Kp16 := K0.trans K2 (fun x hx => nomatch hx)
  have Zs17 : n0 ≤ h2.size := Nat.le_trans Z0 K2.1
  show own_H T2 9 #[.val (.ref a1), .val (.ref a2), .val (.ref a3)] [(.ref x2), (.ref a1)]
  clear i_Ea i_F_fallbacks i_F_grams i_F_key i_F_firstOfEachLowByte i_F_units i_F_matching i_A1 i_E2 i_E3 K0
  obtain ⟨T18, h18, L18, X18, N18, e18, W18, F18, st18⟩ := own_putF X2 N2 hx hZ hown (own_u hw 32 rfl) e2 f7 f6 (Or.inr ⟨(own_u hw 33 rfl), rfl, hnm⟩) (own_u hw 5 rfl) g_a1 (ty := (.array .int)) (v := (.ref x2)) (by decide) rfl rfl (pc := 9) (Ls := #[.val (.ref a1), .val (.ref a2), .val (.ref a3)]) (rest := []) (hb hby own_d1_9)
  refine own_via st18 ?_
  have f19 := f6.wr W18
  have f20 := f8.other W18 (Or.inr (slot_ne (Or.inr (own_u hw 43 rfl)) (Or.inr (own_u hw 33 rfl)) (by decide) rfl rfl))
  have f21 := f9.other W18 (Or.inr (slot_ne (Or.inr (own_u hw 48 rfl)) (Or.inr (own_u hw 33 rfl)) (by decide) rfl rfl))
  have f22 := f10.other W18 (Or.inr (slot_ne (Or.inr (own_u hw 63 rfl)) (Or.inr (own_u hw 33 rfl)) (by decide) rfl rfl))
  have f23 := f11.other W18 (Or.inr (slot_ne (Or.inr (own_u hw 74 rfl)) (Or.inr (own_u hw 33 rfl)) (by decide) rfl rfl))
  have f24 := f12.other W18 (Or.inr (slot_ne (Or.inr (own_u hw 80 rfl)) (Or.inr (own_u hw 33 rfl)) (by decide) rfl rfl))
  have f25 := f13.other W18 (Ne.symm ne_a1_a2)
  have f26 := f14.wr W18
  have f27 := f15.wr W18
  have f28 := o2_0.other W18 (Ne.symm ne3)
  have Kp29 := Kp16.wr W18 (Or.inl (List.mem_of_getElem? (i := 0) rfl))
  have Wk30 : kw2 ≤ h18.size := by rw [W18.size]; exact Wk2
  have Zs31 : n0 ≤ h18.size := by rw [W18.size]; exact Zs17
  show own_H T18 12 #[.val (.ref a1), .val (.ref a2), .val (.ref a3)] []
  clear f6 f7 f8 f9 f10 f11 f12 f13 f14 f15 o2_0 Kp16 Zs17 Wk2
  refine own_via (fun t k => XS.aloadN X18.here hx rfl (hb hby own_d1_12) rfl rfl k) ?_
  refine own_via (fun t k => XS.aloadN X18.here hx rfl (hb hby own_d1_13) rfl rfl k) ?_
  show own_H T18 14 #[.val (.ref a1), .val (.ref a2), .val (.ref a3)] [(.ref a2), (.ref a1)]
  obtain ⟨T32, X32, e32, st32⟩ := own_callP (y := (⟨"com/example/skipstitch/skipstitch/GramTable", "of", "([I)Lcom/example/skipstitch/skipstitch/GramTable;"⟩ : MethodName)) (W := 1) X18 hx hZ hown (own_u hw 34 rfl) (own_u hw 35 rfl) (own_u hw 36 rfl) (own_u hw 37 rfl) (by decide) (own_gt1 l Z a0 hw [] a2 k_1 p0 h18 f25) (by decide) (by decide) rfl rfl (by decide) (by decide) e18 (pc := 14) (Ls := #[.val (.ref a1), .val (.ref a2), .val (.ref a3)]) (st := [(.ref a2), (.ref a1)]) (argsL := [(.ref a2)]) (rest := [(.ref a1)]) (by rw [hml]; rfl) (lenOf own_pd4 rfl) rfl rfl (Nat.le_of_eq rfl) (hb hby own_d1_14)
  refine own_via st32 ?_
  show own_H T32 17 #[.val (.ref a1), .val (.ref a2), .val (.ref a3)] [.null, (.ref a1)]
  obtain ⟨T33, h33, L33, X33, N33, e33, W33, F33, st33⟩ := own_putF X32 N18 hx hZ hown (own_u hw 42 rfl) e32 f20 f19 (Or.inr ⟨(own_u hw 43 rfl), rfl, hnm⟩) (own_u hw 5 rfl) g_a1 (ty := (.object "com/example/skipstitch/skipstitch/GramTable")) (v := .null) (by decide) rfl rfl (pc := 17) (Ls := #[.val (.ref a1), .val (.ref a2), .val (.ref a3)]) (rest := []) (hb hby own_d1_17)
  refine own_via st33 ?_
  have f34 := f19.wr W33
  have f35 := f21.other W33 (Or.inr (slot_ne (Or.inr (own_u hw 48 rfl)) (Or.inr (own_u hw 43 rfl)) (by decide) rfl rfl))
  have f36 := f22.other W33 (Or.inr (slot_ne (Or.inr (own_u hw 63 rfl)) (Or.inr (own_u hw 43 rfl)) (by decide) rfl rfl))
  have f37 := f23.other W33 (Or.inr (slot_ne (Or.inr (own_u hw 74 rfl)) (Or.inr (own_u hw 43 rfl)) (by decide) rfl rfl))
  have f38 := f24.other W33 (Or.inr (slot_ne (Or.inr (own_u hw 80 rfl)) (Or.inr (own_u hw 43 rfl)) (by decide) rfl rfl))
  have f39 := f25.other W33 (Ne.symm ne_a1_a2)
  have f40 := f26.wr W33
  have f41 := f27.wr W33
  have f42 := f28.other W33 (Ne.symm ne3)
  have f43 := F18.other W33 (Or.inr (slot_ne (Or.inr (own_u hw 33 rfl)) (Or.inr (own_u hw 43 rfl)) (by decide) rfl rfl))
  have Kp44 := Kp29.wr W33 (Or.inl (List.mem_of_getElem? (i := 0) rfl))
  have Wk45 : kw2 ≤ h33.size := by rw [W33.size]; exact Wk30
  have Zs46 : n0 ≤ h33.size := by rw [W33.size]; exact Zs31
  show own_H T33 20 #[.val (.ref a1), .val (.ref a2), .val (.ref a3)] []
  clear f19 f20 f21 f22 f23 f24 f25 f26 f27 f28 F18 Kp29 Zs31 Wk30
  refine own_via (fun t k => XS.aloadN X33.here hx rfl (hb hby own_d1_20) rfl rfl k) ?_
  refine own_via (fun t k => XS.aloadN X33.here hx rfl (hb hby own_d1_21) rfl rfl k) ?_
  show own_H T33 22 #[.val (.ref a1), .val (.ref a2), .val (.ref a3)] [(.ref a2), (.ref a1)]
  obtain ⟨T47, X47, e47, st47⟩ := own_callP (y := (⟨"com/example/skipstitch/skipstitch/GramTable", "keyOfFirst", "([I)I"⟩ : MethodName)) (W := 1) X33 hx hZ hown (own_u hw 44 rfl) (own_u hw 45 rfl) (own_u hw 36 rfl) (own_u hw 46 rfl) (by decide) (own_ky1 l Z a0 hw [] a2 k_1 p0 h33 f39) (by decide) (by decide) rfl rfl (by decide) (by decide) e33 (pc := 22) (Ls := #[.val (.ref a1), .val (.ref a2), .val (.ref a3)]) (st := [(.ref a2), (.ref a1)]) (argsL := [(.ref a2)]) (rest := [(.ref a1)]) (by rw [hml]; rfl) (lenOf own_pd5 rfl) rfl rfl (Nat.le_of_eq rfl) (hb hby own_d1_22)
  refine own_via st47 ?_
  show own_H T47 25 #[.val (.ref a1), .val (.ref a2), .val (.ref a3)] [(.int (own_Fk1 p0)), (.ref a1)]
  obtain ⟨T48, h48, L48, X48, N48, e48, W48, F48, st48⟩ := own_putF X47 N33 hx hZ hown (own_u hw 47 rfl) e47 f35 f34 (Or.inr ⟨(own_u hw 48 rfl), rfl, hnm⟩) (own_u hw 5 rfl) g_a1 (ty := .int) (v := (.int (own_Fk1 p0))) (by decide) rfl rfl (pc := 25) (Ls := #[.val (.ref a1), .val (.ref a2), .val (.ref a3)]) (rest := []) (hb hby own_d1_25)
  refine own_via st48 ?_
  have f49 := f34.wr W48
  have f50 := f36.other W48 (Or.inr (slot_ne (Or.inr (own_u hw 63 rfl)) (Or.inr (own_u hw 48 rfl)) (by decide) rfl rfl))
  have f51 := f37.other W48 (Or.inr (slot_ne (Or.inr (own_u hw 74 rfl)) (Or.inr (own_u hw 48 rfl)) (by decide) rfl rfl))
  have f52 := f38.other W48 (Or.inr (slot_ne (Or.inr (own_u hw 80 rfl)) (Or.inr (own_u hw 48 rfl)) (by decide) rfl rfl))
  have f53 := f39.other W48 (Ne.symm ne_a1_a2)
  have f54 := f40.wr W48
  have f55 := f41.wr W48
  have f56 := f42.other W48 (Ne.symm ne3)
  have f57 := f43.other W48 (Or.inr (slot_ne (Or.inr (own_u hw 33 rfl)) (Or.inr (own_u hw 48 rfl)) (by decide) rfl rfl))
  have Kp59 := Kp44.wr W48 (Or.inl (List.mem_of_getElem? (i := 0) rfl))
  have Wk60 : kw2 ≤ h48.size := by rw [W48.size]; exact Wk45
  have Zs61 : n0 ≤ h48.size := by rw [W48.size]; exact Zs46
  show own_H T48 28 #[.val (.ref a1), .val (.ref a2), .val (.ref a3)] []
  clear f34 f35 f36 f37 f38 f39 f40 f41 f42 f43 F33 Kp44 Zs46 Wk45
  refine own_via (fun t k => XS.aloadN X48.here hx rfl (hb hby own_d1_28) rfl rfl k) ?_
  refine own_via (fun t k => XS.aloadN X48.here hx rfl (hb hby own_d1_29) rfl rfl k) ?_
  show own_H T48 30 #[.val (.ref a1), .val (.ref a2), .val (.ref a3)] [(.ref a2), (.ref a1)]
  obtain ⟨v62, T62, h62, L62, X62, N62, e62, hq62, st62⟩ := own_callSW (y := (⟨"com/example/skipstitch/skipstitch/KmpPattern", "firstOfEachLowByte", "([I)[I"⟩ : MethodName)) (W := 1) X48 N48 hx hZ hown (own_u hw 49 rfl) (own_u hw 50 rfl) (own_u hw 6 rfl) (own_u hw 51 rfl) (by decide) (own_fob l Z a0 hw [] a2 k_1 ([p0] : List Int32) (1 : Int32) (1) h48 n0 Zs61 f53 rfl own_fo1) (by decide) (by decide) (by decide) (by decide) e48 (pc := 30) (Ls := #[.val (.ref a1), .val (.ref a2), .val (.ref a3)]) (st := [(.ref a2), (.ref a1)]) (argsL := [(.ref a2)]) (rest := [(.ref a1)]) (by rw [hml]; rfl) (lenOf own_pd1 rfl) rfl rfl (Nat.le_of_eq rfl) (hb hby own_d1_30)
  obtain ⟨x62, rfl, K62⟩ := hq62
  refine own_via st62 ?_
  have f63 := f49.ext (own_ke K62)
  have f64 := f50.ext (own_ke K62)
  have f65 := f51.ext (own_ke K62)
  have f66 := f52.ext (own_ke K62)
  have f67 := f53.ext (own_ke K62)
  have f68 := f54.ext (own_ke K62)
  have f69 := f55.ext (own_ke K62)
  have f70 := f56.ext (own_ke K62)
  have f71 := f57.ext (own_ke K62)
  have Kp74 := Kp59.trans K62 (fun x hx => nomatch hx)
  have Wk75 : kw2 ≤ h62.size := Nat.le_trans Wk60 K62.1
  show own_H T62 33 #[.val (.ref a1), .val (.ref a2), .val (.ref a3)] [(.ref x62), (.ref a1)]
  clear f49 f50 f51 f52 f53 f54 f55 f56 f57 F48 Kp59 Zs61 Wk60
  obtain ⟨T77, h77, L77, X77, N77, e77, W77, F77, st77⟩ := own_putF X62 N62 hx hZ hown (own_u hw 62 rfl) e62 f64 f63 (Or.inr ⟨(own_u hw 63 rfl), rfl, hnm⟩) (own_u hw 5 rfl) g_a1 (ty := (.array .int)) (v := (.ref x62)) (by decide) rfl rfl (pc := 33) (Ls := #[.val (.ref a1), .val (.ref a2), .val (.ref a3)]) (rest := []) (hb hby own_d1_33)
  refine own_via st77 ?_
  have f78 := f63.wr W77
  have f79 := f65.other W77 (Or.inr (slot_ne (Or.inr (own_u hw 74 rfl)) (Or.inr (own_u hw 63 rfl)) (by decide) rfl rfl))
  have f80 := f66.other W77 (Or.inr (slot_ne (Or.inr (own_u hw 80 rfl)) (Or.inr (own_u hw 63 rfl)) (by decide) rfl rfl))
  have f81 := f67.other W77 (Ne.symm ne_a1_a2)
  have f82 := f68.wr W77
  have f83 := f69.wr W77
  have f84 := f70.other W77 (Ne.symm ne3)
  have f85 := f71.other W77 (Or.inr (slot_ne (Or.inr (own_u hw 33 rfl)) (Or.inr (own_u hw 63 rfl)) (by decide) rfl rfl))
  have Kp88 := Kp74.wr W77 (Or.inl (List.mem_of_getElem? (i := 0) rfl))
  have Wk89 : kw2 ≤ h77.size := by rw [W77.size]; exact Wk75
  show own_H T77 36 #[.val (.ref a1), .val (.ref a2), .val (.ref a3)] []
  clear f63 f64 f65 f66 f67 f68 f69 f70 f71 Kp74 Wk75
  refine own_via (fun t k => XS.aloadN X77.here hx rfl (hb hby own_d1_36) rfl rfl k) ?_
  refine own_via (fun t k => XS.aloadN X77.here hx rfl (hb hby own_d1_37) rfl rfl k) ?_
  show own_H T77 38 #[.val (.ref a1), .val (.ref a2), .val (.ref a3)] [(.ref a2), (.ref a1)]
  obtain ⟨T91, h91, b91, X91, e91, E91, ga91, V91, Ex91, st91⟩ := own_clone X77 hx hZ hown (own_u hw 64 rfl) (own_u hw 65 rfl) (own_u hw 69 rfl) (own_u hw 67 rfl) (own_u hw 68 rfl) (own_u hw 70 rfl) e77 f81 f82 (pc := 38) (Ls := #[.val (.ref a1), .val (.ref a2), .val (.ref a3)]) (rest := [(.ref a1)]) (by rw [hml]; rfl) (hb hby own_d1_38) (by decide) (W := 1) (cap := 1) (Nat.le_of_eq rfl) (by decide) (by decide) (by decide) (by decide)
  refine own_via st91 ?_
  have sz_b91 : h0.size ≤ b91 := Nat.le_trans Kp88.1 (Nat.le_of_eq ga91.symm)
  have ne92 : a1 ≠ b91 := Nat.ne_of_lt (Nat.lt_of_lt_of_le f78.lt (Nat.le_of_eq ga91.symm))
  have f96 := f78.ext E91
  have f97 := f79.ext E91
  have f98 := f80.ext E91
  have f101 := f83.ext E91
  have f102 := f84.ext E91
  have f103 := f85.ext E91
  have Kp107 := Kp88.ext E91
  have Wk108 : kw2 ≤ h91.size := Nat.le_trans Wk89 E91.1
  show own_H T91 41 #[.val (.ref a1), .val (.ref a2), .val (.ref a3)] [(.ref b91), (.ref a1)]
  clear f78 f79 f80 f81 f82 f83 f84 f85 F77 Kp88 Wk89
  obtain ⟨T110, X110, e110, st110⟩ := castY X91 hx hZ hown (own_u hw 71 rfl) e91 (Ins.self Ex91) (g := (mkF m 41 #[.val (.ref a1), .val (.ref a2), .val (.ref a3)] [(.ref b91), (.ref a1)])) rfl rfl (hb hby own_d1_41)
  refine own_via st110 ?_
  show own_H T110 44 #[.val (.ref a1), .val (.ref a2), .val (.ref a3)] [(.ref b91), (.ref a1)]
  obtain ⟨T111, h111, L111, X111, N111, e111, W111, F111, st111⟩ := own_putF X110 N77 hx hZ hown (own_u hw 73 rfl) e110 f97 f96 (Or.inr ⟨(own_u hw 74 rfl), rfl, hnm⟩) (own_u hw 5 rfl) g_a1 (ty := (.array .int)) (v := (.ref b91)) (by decide) rfl rfl (pc := 44) (Ls := #[.val (.ref a1), .val (.ref a2), .val (.ref a3)]) (rest := []) (hb hby own_d1_44)
  refine own_via st111 ?_
  have f112 := f96.wr W111
  have f113 := f98.other W111 (Or.inr (slot_ne (Or.inr (own_u hw 80 rfl)) (Or.inr (own_u hw 74 rfl)) (by decide) rfl rfl))
  have f116 := f101.wr W111
  have f117 := f102.other W111 (Ne.symm ne3)
  have f118 := f103.other W111 (Or.inr (slot_ne (Or.inr (own_u hw 33 rfl)) (Or.inr (own_u hw 74 rfl)) (by decide) rfl rfl))
  have f122 := V91.other W111 (Ne.symm ne92)
  have Kp124 := Kp107.wr W111 (Or.inl (List.mem_of_getElem? (i := 0) rfl))
  have Wk125 : kw2 ≤ h111.size := by rw [W111.size]; exact Wk108
  show own_H T111 47 #[.val (.ref a1), .val (.ref a2), .val (.ref a3)] []
  clear f96 f97 f98 f101 f102 f103 V91 Ex91 Kp107 Wk108
  refine own_via (fun t k => XS.aloadN X111.here hx rfl (hb hby own_d1_47) rfl rfl k) ?_
  refine own_via (fun t k => XS.aloadN X111.here hx rfl (hb hby own_d1_48) rfl rfl k) ?_
  show own_H T111 49 #[.val (.ref a1), .val (.ref a2), .val (.ref a3)] [(.ref a3), (.ref a1)]
  obtain ⟨b127, T127, h127, s, kw127, X127, e127, E127, S127, Wk127, hZ, hown, st127⟩ := own_ldc S2 Wk125 X111 hx hZ hown (own_u hw 75 rfl) (own_wS hw) e111 (pc := 49) (Ls := #[.val (.ref a1), .val (.ref a2), .val (.ref a3)]) (rest := [(.ref a3), (.ref a1)]) (hb hby own_d1_49) (n := 100) (by decide) (by decide) (by decide) (by decide)
  refine own_via st127 ?_
  have f128 := f112.ext E127
  have f129 := f113.ext E127
  have f132 := f116.ext E127
  have f133 := f117.ext E127
  have f134 := f118.ext E127
  have f138 := f122.ext E127
  have f140 := F111.ext E127
  have Kp141 := Kp124.ext E127
  show own_H T127 51 #[.val (.ref a1), .val (.ref a2), .val (.ref a3)] [(.ref b127), (.ref a3), (.ref a1)]
  clear f112 f113 f116 f117 f118 f122 F111 Kp124
  obtain ⟨T143, X143, e143, st143⟩ := own_callP (y := (⟨"java/util/Objects", "requireNonNull", "(Ljava/lang/Object;Ljava/lang/String;)Ljava/lang/Object;"⟩ : MethodName)) (W := 1) X127 hx hZ hown (own_u hw 76 rfl) (own_u hw 29 rfl) (own_u hw 30 rfl) (own_u hw 31 rfl) (by decide) (own_rn l Z a0 hw [] a3 b127 h127 ) (by decide) (by decide) rfl rfl (by decide) (by decide) e127 (pc := 51) (Ls := #[.val (.ref a1), .val (.ref a2), .val (.ref a3)]) (st := [(.ref b127), (.ref a3), (.ref a1)]) (argsL := [(.ref a3), (.ref b127)]) (rest := [(.ref a1)]) (by rw [hml]; rfl) (lenOf own_pd0 rfl) rfl rfl (Nat.le_of_eq rfl) (hb hby own_d1_51)
  refine own_via st143 ?_
  show own_H T143 54 #[.val (.ref a1), .val (.ref a2), .val (.ref a3)] [(.ref a3), (.ref a1)]
  obtain ⟨T144, X144, e144, st144⟩ := castY X143 hx hZ hown (own_u hw 77 rfl) e143 (Ins.self f132) (g := (mkF m 54 #[.val (.ref a1), .val (.ref a2), .val (.ref a3)] [(.ref a3), (.ref a1)])) rfl rfl (hb hby own_d1_54)
  refine own_via st144 ?_
  show own_H T144 57 #[.val (.ref a1), .val (.ref a2), .val (.ref a3)] [(.ref a3), (.ref a1)]
  obtain ⟨T145, h145, L145, X145, N145, e145, W145, F145, st145⟩ := own_putF X144 N111 hx hZ hown (own_u hw 79 rfl) e144 f129 f128 (Or.inr ⟨(own_u hw 80 rfl), rfl, hnm⟩) (own_u hw 5 rfl) g_a1 (ty := (.object "com/example/skipstitch/skipstitch/Matching")) (v := (.ref a3)) (by decide) rfl rfl (pc := 57) (Ls := #[.val (.ref a1), .val (.ref a2), .val (.ref a3)]) (rest := []) (hb hby own_d1_57)
  refine own_via st145 ?_
  have f146 := f128.wr W145
  have f150 := f133.other W145 (Ne.symm ne3)
  have f151 := f134.other W145 (Or.inr (slot_ne (Or.inr (own_u hw 33 rfl)) (Or.inr (own_u hw 80 rfl)) (by decide) rfl rfl))
  have f155 := f138.other W145 (Ne.symm ne92)
  have f157 := f140.other W145 (Or.inr (slot_ne (Or.inr (own_u hw 74 rfl)) (Or.inr (own_u hw 80 rfl)) (by decide) rfl rfl))
  have Kp158 := Kp141.wr W145 (Or.inl (List.mem_of_getElem? (i := 0) rfl))
  have Wk159 : kw127 ≤ h145.size := by rw [W145.size]; exact Wk127
  show own_H T145 60 #[.val (.ref a1), .val (.ref a2), .val (.ref a3)] []
  clear f128 f129 f132 f133 f134 f138 f140 Kp141 Wk127
  rw [hPw]
  refine own_wide S127 ?_
  exact own_retV X145 hx Bd.returns Bd.notSynchronized (hb hby own_d1_60) (by rw [e145]; exact ⟨⟨N145, b91, x2, k_1, kx2, rfl, Kp158, sz_b91, sz_x2, f146, f157, f151, f155, f150⟩, Wk159⟩) (by decide) (by decide)
abbrev own_it2_R : Room := { frames := 3, cells := 14, slots := 800, locals := 90 }
theorem own_it2_ef (m : MethodId) (a1 : Addr) (a2 : Addr) (a3 : Addr) : entryFrame m #[(.ref a1), (.ref a2), (.ref a3)] 3 = mkF m 0 #[.val (.ref a1), .val (.ref a2), .val (.ref a3)] [] := by first | (simp [entryFrame, mkF, argsToLocals, Value.category]; done) | rfl
def own_it2_q (Z : State) (a1 : Addr) (a2 : Addr) (a3 : Addr) (k_1 : ClassId) (p0 : Int32) (p1 : Int32) (h0 : Heap) (v : Option Value) (h : Heap) : Prop := ∃ (x : Addr) (y : Addr) (kx : ClassId) (ky : ClassId), v = none ∧ Keep h0 h [a1] ∧ h0.size ≤ x ∧ h0.size ≤ y ∧ Exa Z h a1 own_cK ∧ Fld Z h a1 own_cK "units" "[I" (.ref x) ∧ Fld Z h a1 own_cK "fallbacks" "[I" (.ref y) ∧ Arv Z h x kx .int (2 : Int32) [(.int p0), (.int p1)] (.int (0 : Int32)) ∧ Arv Z h y ky .int (3 : Int32) ((own_FB2 p0 p1).map Value.int) (.int (0 : Int32))
set_option maxRecDepth 65536 in
set_option maxHeartbeats 40000000 in
theorem own_it2 (l : Launch) (Z : State) (a0 : Array Value) (hw : ∀ d ∈ tables_1, d.before a0 Z = true) (ws : List Jvm.Cond) (a1 : Addr) (a2 : Addr) (a3 : Addr) (k_1 : ClassId) (p0 : Int32) (p1 : Int32) (h0 : Heap) (n0 : Nat) (Z0 : n0 ≤ h0.size) (i_Ea : Exa Z h0 a1 own_cK) (i_F_fallbacks : Fld Z h0 a1 own_cK "fallbacks" "[I" .null) (i_F_grams : Fld Z h0 a1 own_cK "grams" own_dG .null) (i_F_key : Fld Z h0 a1 own_cK "key" "I" (.int (0 : Int32))) (i_F_firstOfEachLowByte : Fld Z h0 a1 own_cK "firstOfEachLowByte" "[I" .null) (i_F_units : Fld Z h0 a1 own_cK "units" "[I" .null) (i_F_matching : Fld Z h0 a1 own_cK "matching" own_dM .null) (i_A1 : Arv Z h0 a2 k_1 .int (2 : Int32) [(.int p0), (.int p1)] (.int (0 : Int32))) (i_E2 : Exa Z h0 a2 "[I") (i_E3 : Exa Z h0 a3 own_cM) (g_a1 : n0 ≤ a1) (ne_a1_a2 : a1 ≠ a2) :
    own_CW l Z (⟨"com/example/skipstitch/skipstitch/KmpPattern", "<init>", "([ILcom/example/skipstitch/skipstitch/Matching;)V"⟩ : MethodName) prog_6_method_1_code 3 none ws own_it2_R #[(.ref a1), (.ref a2), (.ref a3)] h0 (own_W n0 (own_it2_q Z a1 a2 a3 k_1 p0 p1 h0)) := by
  refine MetFree.of_bodySF own_pn1 hisR ?_
  intro p e s m args below meth c s₁ Bd hml0 hP hK
  obtain ⟨rfl, hZ, hh⟩ := hP
  have hx := Bd.exec
  have hby := Bd.bytes
  have hml : c.maxLocals = 3 := hml0
  have hown : s.vm.findClass "com/example/skipstitch/skipstitch/KmpPattern" = some m.cls := findClass_of_methodNamed Bd.named
  have hnm := (name_of_methodNamed Bd.named Bd.method).1
  have X0 : Stand p l e own_it2_R s m #[(.ref a1), (.ref a2), (.ref a3)] below meth c s₁ [] 0 0 := Stand.of_body Bd
  have e0 : s₁.heap = h0 := by rw [← hh, Bd.state]; rfl
  have N0 := Fr.nil n0
  have K0 : Keep h0 h0 [a1] := Keep.refl h0 _
  have S0 := own_S0 s
  have W0 : 0 ≤ h0.size := Nat.zero_le _
  obtain ⟨Pw, hPw⟩ : ∃ P, P = (own_PW s (own_W n0 (own_it2_q Z a1 a2 a3 k_1 p0 p1 h0)) own_it2_R.cells own_it2_R.slots) := ⟨_, rfl⟩
  show own_G p e below (own_PW s (own_W n0 (own_it2_q Z a1 a2 a3 k_1 p0 p1 h0)) own_it2_R.cells own_it2_R.slots) (s₁.setTop (entryFrame m #[(.ref a1), (.ref a2), (.ref a3)] 3))
  rw [← hPw]
  rw [own_it2_ef m a1 a2 a3]
  show own_H s₁ 0 #[.val (.ref a1), .val (.ref a2), .val (.ref a3)] []
  refine own_via (fun t k => XS.aloadN X0.here hx rfl (hb hby own_d1_0) rfl rfl k) ?_
  show own_H s₁ 1 #[.val (.ref a1), .val (.ref a2), .val (.ref a3)] [(.ref a1)]
  obtain ⟨T1, X1, e1, st1⟩ := initO X0 hx hZ hown (own_u hw 10 rfl) (own_u hw 11 rfl) (own_u hw 12 rfl) e0 (g := (mkF m 1 #[.val (.ref a1), .val (.ref a2), .val (.ref a3)] [(.ref a1)])) rfl (by rw [hml]; rfl) rfl (hb hby own_d1_1) (by decide) (W := 0) (by show 2 * 0 + _ ≤ _; exact Nat.le_of_eq rfl) (by decide)
  refine own_via st1 ?_
  show own_H T1 4 #[.val (.ref a1), .val (.ref a2), .val (.ref a3)] []
  refine own_via (fun t k => XS.aloadN X1.here hx rfl (hb hby own_d1_4) rfl rfl k) ?_
  refine own_via (fun t k => XS.aloadN X1.here hx rfl (hb hby own_d1_5) rfl rfl k) ?_
  show own_H T1 6 #[.val (.ref a1), .val (.ref a2), .val (.ref a3)] [(.ref a2), (.ref a1)]
  obtain ⟨v2, T2, h2, L2, s, kw2, X2, N2, e2, hq2, S2, Wk2, hZ, hown, st2⟩ := own_callSX (y := (⟨"com/example/skipstitch/skipstitch/PartialMatchTable", "fallbacksOf", "([I)[I"⟩ : MethodName)) (W := 1) S0 W0 X1 N0 hx hZ hown (own_u hw 13 rfl) (own_u hw 14 rfl) (own_u hw 15 rfl) (own_u hw 16 rfl) (by decide) (own_fb2 l Z a0 hw [] a2 k_1 p0 p1 h0 n0 Z0 i_A1) (by decide) (by decide) (by decide) (by decide) e1 (pc := 6) (Ls := #[.val (.ref a1), .val (.ref a2), .val (.ref a3)]) (st := [(.ref a2), (.ref a1)]) (argsL := [(.ref a2)]) (rest := [(.ref a1)]) (by rw [hml]; rfl) (lenOf own_pd1 rfl) rfl rfl (Nat.le_of_eq rfl) (hb hby own_d1_6)
  obtain ⟨x2, kx2, rfl, K2, zf_x2, o2_0⟩ := hq2
  refine own_via st2 ?_
  have ne3 : a1 ≠ x2 := Nat.ne_of_lt (Nat.lt_of_lt_of_le i_Ea.lt zf_x2)
  have sz_x2 : h0.size ≤ x2 := Nat.le_trans K0.1 zf_x2
  have f6 := i_Ea.ext (own_ke K2)
  have f7 := i_F_fallbacks.ext (own_ke K2)
  have f8 := i_F_grams.ext (own_ke K2)
  have f9 := i_F_key.ext (own_ke K2)
  have f10 := i_F_firstOfEachLowByte.ext (own_ke K2)
  have f11 := i_F_units.ext (own_ke K2)
  have f12 := i_F_matching.ext (own_ke K2)
  have f13 := i_A1.ext (own_ke K2)
  have f14 := i_E2.ext (own_ke K2)
  have f15 := i_E3.ext (own_ke K2)
  have Kp16 := K0.trans K2 (fun x hx => nomatch hx)
  have Zs17 : n0 ≤ h2.size := Nat.le_trans Z0 K2.1
  show own_H T2 9 #[.val (.ref a1), .val (.ref a2), .val (.ref a3)] [(.ref x2), (.ref a1)]
  clear i_Ea i_F_fallbacks i_F_grams i_F_key i_F_firstOfEachLowByte i_F_units i_F_matching i_A1 i_E2 i_E3 K0
  obtain ⟨T18, h18, L18, X18, N18, e18, W18, F18, st18⟩ := own_putF X2 N2 hx hZ hown (own_u hw 32 rfl) e2 f7 f6 (Or.inr ⟨(own_u hw 33 rfl), rfl, hnm⟩) (own_u hw 5 rfl) g_a1 (ty := (.array .int)) (v := (.ref x2)) (by decide) rfl rfl (pc := 9) (Ls := #[.val (.ref a1), .val (.ref a2), .val (.ref a3)]) (rest := []) (hb hby own_d1_9)
  refine own_via st18 ?_
  have f19 := f6.wr W18
  have f20 := f8.other W18 (Or.inr (slot_ne (Or.inr (own_u hw 43 rfl)) (Or.inr (own_u hw 33 rfl)) (by decide) rfl rfl))
  have f21 := f9.other W18 (Or.inr (slot_ne (Or.inr (own_u hw 48 rfl)) (Or.inr (own_u hw 33 rfl)) (by decide) rfl rfl))
  have f22 := f10.other W18 (Or.inr (slot_ne (Or.inr (own_u hw 63 rfl)) (Or.inr (own_u hw 33 rfl)) (by decide) rfl rfl))
  have f23 := f11.other W18 (Or.inr (slot_ne (Or.inr (own_u hw 74 rfl)) (Or.inr (own_u hw 33 rfl)) (by decide) rfl rfl))
  have f24 := f12.other W18 (Or.inr (slot_ne (Or.inr (own_u hw 80 rfl)) (Or.inr (own_u hw 33 rfl)) (by decide) rfl rfl))
  have f25 := f13.other W18 (Ne.symm ne_a1_a2)
  have f26 := f14.wr W18
  have f27 := f15.wr W18
  have f28 := o2_0.other W18 (Ne.symm ne3)
  have Kp29 := Kp16.wr W18 (Or.inl (List.mem_of_getElem? (i := 0) rfl))
  have Wk30 : kw2 ≤ h18.size := by rw [W18.size]; exact Wk2
  have Zs31 : n0 ≤ h18.size := by rw [W18.size]; exact Zs17
  show own_H T18 12 #[.val (.ref a1), .val (.ref a2), .val (.ref a3)] []
  clear f6 f7 f8 f9 f10 f11 f12 f13 f14 f15 o2_0 Kp16 Zs17 Wk2
  refine own_via (fun t k => XS.aloadN X18.here hx rfl (hb hby own_d1_12) rfl rfl k) ?_
  refine own_via (fun t k => XS.aloadN X18.here hx rfl (hb hby own_d1_13) rfl rfl k) ?_
  show own_H T18 14 #[.val (.ref a1), .val (.ref a2), .val (.ref a3)] [(.ref a2), (.ref a1)]
  obtain ⟨T32, X32, e32, st32⟩ := own_callP (y := (⟨"com/example/skipstitch/skipstitch/GramTable", "of", "([I)Lcom/example/skipstitch/skipstitch/GramTable;"⟩ : MethodName)) (W := 1) X18 hx hZ hown (own_u hw 34 rfl) (own_u hw 35 rfl) (own_u hw 36 rfl) (own_u hw 37 rfl) (by decide) (own_gt2 l Z a0 hw [] a2 k_1 p0 p1 h18 f25) (by decide) (by decide) rfl rfl (by decide) (by decide) e18 (pc := 14) (Ls := #[.val (.ref a1), .val (.ref a2), .val (.ref a3)]) (st := [(.ref a2), (.ref a1)]) (argsL := [(.ref a2)]) (rest := [(.ref a1)]) (by rw [hml]; rfl) (lenOf own_pd4 rfl) rfl rfl (Nat.le_of_eq rfl) (hb hby own_d1_14)
  refine own_via st32 ?_
  show own_H T32 17 #[.val (.ref a1), .val (.ref a2), .val (.ref a3)] [.null, (.ref a1)]
  obtain ⟨T33, h33, L33, X33, N33, e33, W33, F33, st33⟩ := own_putF X32 N18 hx hZ hown (own_u hw 42 rfl) e32 f20 f19 (Or.inr ⟨(own_u hw 43 rfl), rfl, hnm⟩) (own_u hw 5 rfl) g_a1 (ty := (.object "com/example/skipstitch/skipstitch/GramTable")) (v := .null) (by decide) rfl rfl (pc := 17) (Ls := #[.val (.ref a1), .val (.ref a2), .val (.ref a3)]) (rest := []) (hb hby own_d1_17)
  refine own_via st33 ?_
  have f34 := f19.wr W33
  have f35 := f21.other W33 (Or.inr (slot_ne (Or.inr (own_u hw 48 rfl)) (Or.inr (own_u hw 43 rfl)) (by decide) rfl rfl))
  have f36 := f22.other W33 (Or.inr (slot_ne (Or.inr (own_u hw 63 rfl)) (Or.inr (own_u hw 43 rfl)) (by decide) rfl rfl))
  have f37 := f23.other W33 (Or.inr (slot_ne (Or.inr (own_u hw 74 rfl)) (Or.inr (own_u hw 43 rfl)) (by decide) rfl rfl))
  have f38 := f24.other W33 (Or.inr (slot_ne (Or.inr (own_u hw 80 rfl)) (Or.inr (own_u hw 43 rfl)) (by decide) rfl rfl))
  have f39 := f25.other W33 (Ne.symm ne_a1_a2)
  have f40 := f26.wr W33
  have f41 := f27.wr W33
  have f42 := f28.other W33 (Ne.symm ne3)
  have f43 := F18.other W33 (Or.inr (slot_ne (Or.inr (own_u hw 33 rfl)) (Or.inr (own_u hw 43 rfl)) (by decide) rfl rfl))
  have Kp44 := Kp29.wr W33 (Or.inl (List.mem_of_getElem? (i := 0) rfl))
  have Wk45 : kw2 ≤ h33.size := by rw [W33.size]; exact Wk30
  have Zs46 : n0 ≤ h33.size := by rw [W33.size]; exact Zs31
  show own_H T33 20 #[.val (.ref a1), .val (.ref a2), .val (.ref a3)] []
  clear f19 f20 f21 f22 f23 f24 f25 f26 f27 f28 F18 Kp29 Zs31 Wk30
  refine own_via (fun t k => XS.aloadN X33.here hx rfl (hb hby own_d1_20) rfl rfl k) ?_
  refine own_via (fun t k => XS.aloadN X33.here hx rfl (hb hby own_d1_21) rfl rfl k) ?_
  show own_H T33 22 #[.val (.ref a1), .val (.ref a2), .val (.ref a3)] [(.ref a2), (.ref a1)]
  obtain ⟨T47, X47, e47, st47⟩ := own_callP (y := (⟨"com/example/skipstitch/skipstitch/GramTable", "keyOfFirst", "([I)I"⟩ : MethodName)) (W := 1) X33 hx hZ hown (own_u hw 44 rfl) (own_u hw 45 rfl) (own_u hw 36 rfl) (own_u hw 46 rfl) (by decide) (own_ky2 l Z a0 hw [] a2 k_1 p0 p1 h33 f39) (by decide) (by decide) rfl rfl (by decide) (by decide) e33 (pc := 22) (Ls := #[.val (.ref a1), .val (.ref a2), .val (.ref a3)]) (st := [(.ref a2), (.ref a1)]) (argsL := [(.ref a2)]) (rest := [(.ref a1)]) (by rw [hml]; rfl) (lenOf own_pd5 rfl) rfl rfl (Nat.le_of_eq rfl) (hb hby own_d1_22)
  refine own_via st47 ?_
  show own_H T47 25 #[.val (.ref a1), .val (.ref a2), .val (.ref a3)] [(.int (own_Fk2 p0 p1)), (.ref a1)]
  obtain ⟨T48, h48, L48, X48, N48, e48, W48, F48, st48⟩ := own_putF X47 N33 hx hZ hown (own_u hw 47 rfl) e47 f35 f34 (Or.inr ⟨(own_u hw 48 rfl), rfl, hnm⟩) (own_u hw 5 rfl) g_a1 (ty := .int) (v := (.int (own_Fk2 p0 p1))) (by decide) rfl rfl (pc := 25) (Ls := #[.val (.ref a1), .val (.ref a2), .val (.ref a3)]) (rest := []) (hb hby own_d1_25)
  refine own_via st48 ?_
  have f49 := f34.wr W48
  have f50 := f36.other W48 (Or.inr (slot_ne (Or.inr (own_u hw 63 rfl)) (Or.inr (own_u hw 48 rfl)) (by decide) rfl rfl))
  have f51 := f37.other W48 (Or.inr (slot_ne (Or.inr (own_u hw 74 rfl)) (Or.inr (own_u hw 48 rfl)) (by decide) rfl rfl))
  have f52 := f38.other W48 (Or.inr (slot_ne (Or.inr (own_u hw 80 rfl)) (Or.inr (own_u hw 48 rfl)) (by decide) rfl rfl))
  have f53 := f39.other W48 (Ne.symm ne_a1_a2)
  have f54 := f40.wr W48
  have f55 := f41.wr W48
  have f56 := f42.other W48 (Ne.symm ne3)
  have f57 := f43.other W48 (Or.inr (slot_ne (Or.inr (own_u hw 33 rfl)) (Or.inr (own_u hw 48 rfl)) (by decide) rfl rfl))
  have Kp59 := Kp44.wr W48 (Or.inl (List.mem_of_getElem? (i := 0) rfl))
  have Wk60 : kw2 ≤ h48.size := by rw [W48.size]; exact Wk45
  have Zs61 : n0 ≤ h48.size := by rw [W48.size]; exact Zs46
  show own_H T48 28 #[.val (.ref a1), .val (.ref a2), .val (.ref a3)] []
  clear f34 f35 f36 f37 f38 f39 f40 f41 f42 f43 F33 Kp44 Zs46 Wk45
  refine own_via (fun t k => XS.aloadN X48.here hx rfl (hb hby own_d1_28) rfl rfl k) ?_
  refine own_via (fun t k => XS.aloadN X48.here hx rfl (hb hby own_d1_29) rfl rfl k) ?_
  show own_H T48 30 #[.val (.ref a1), .val (.ref a2), .val (.ref a3)] [(.ref a2), (.ref a1)]
  obtain ⟨v62, T62, h62, L62, X62, N62, e62, hq62, st62⟩ := own_callSW (y := (⟨"com/example/skipstitch/skipstitch/KmpPattern", "firstOfEachLowByte", "([I)[I"⟩ : MethodName)) (W := 1) X48 N48 hx hZ hown (own_u hw 49 rfl) (own_u hw 50 rfl) (own_u hw 6 rfl) (own_u hw 51 rfl) (by decide) (own_fob l Z a0 hw [] a2 k_1 ([p0, p1] : List Int32) (2 : Int32) (2) h48 n0 Zs61 f53 rfl own_fo2) (by decide) (by decide) (by decide) (by decide) e48 (pc := 30) (Ls := #[.val (.ref a1), .val (.ref a2), .val (.ref a3)]) (st := [(.ref a2), (.ref a1)]) (argsL := [(.ref a2)]) (rest := [(.ref a1)]) (by rw [hml]; rfl) (lenOf own_pd1 rfl) rfl rfl (Nat.le_of_eq rfl) (hb hby own_d1_30)
  obtain ⟨x62, rfl, K62⟩ := hq62
  refine own_via st62 ?_
  have f63 := f49.ext (own_ke K62)
  have f64 := f50.ext (own_ke K62)
  have f65 := f51.ext (own_ke K62)
  have f66 := f52.ext (own_ke K62)
  have f67 := f53.ext (own_ke K62)
  have f68 := f54.ext (own_ke K62)
  have f69 := f55.ext (own_ke K62)
  have f70 := f56.ext (own_ke K62)
  have f71 := f57.ext (own_ke K62)
  have Kp74 := Kp59.trans K62 (fun x hx => nomatch hx)
  have Wk75 : kw2 ≤ h62.size := Nat.le_trans Wk60 K62.1
  show own_H T62 33 #[.val (.ref a1), .val (.ref a2), .val (.ref a3)] [(.ref x62), (.ref a1)]
  clear f49 f50 f51 f52 f53 f54 f55 f56 f57 F48 Kp59 Zs61 Wk60
  obtain ⟨T77, h77, L77, X77, N77, e77, W77, F77, st77⟩ := own_putF X62 N62 hx hZ hown (own_u hw 62 rfl) e62 f64 f63 (Or.inr ⟨(own_u hw 63 rfl), rfl, hnm⟩) (own_u hw 5 rfl) g_a1 (ty := (.array .int)) (v := (.ref x62)) (by decide) rfl rfl (pc := 33) (Ls := #[.val (.ref a1), .val (.ref a2), .val (.ref a3)]) (rest := []) (hb hby own_d1_33)
  refine own_via st77 ?_
  have f78 := f63.wr W77
  have f79 := f65.other W77 (Or.inr (slot_ne (Or.inr (own_u hw 74 rfl)) (Or.inr (own_u hw 63 rfl)) (by decide) rfl rfl))
  have f80 := f66.other W77 (Or.inr (slot_ne (Or.inr (own_u hw 80 rfl)) (Or.inr (own_u hw 63 rfl)) (by decide) rfl rfl))
  have f81 := f67.other W77 (Ne.symm ne_a1_a2)
  have f82 := f68.wr W77
  have f83 := f69.wr W77
  have f84 := f70.other W77 (Ne.symm ne3)
  have f85 := f71.other W77 (Or.inr (slot_ne (Or.inr (own_u hw 33 rfl)) (Or.inr (own_u hw 63 rfl)) (by decide) rfl rfl))
  have Kp88 := Kp74.wr W77 (Or.inl (List.mem_of_getElem? (i := 0) rfl))
  have Wk89 : kw2 ≤ h77.size := by rw [W77.size]; exact Wk75
  show own_H T77 36 #[.val (.ref a1), .val (.ref a2), .val (.ref a3)] []
  clear f63 f64 f65 f66 f67 f68 f69 f70 f71 Kp74 Wk75
  refine own_via (fun t k => XS.aloadN X77.here hx rfl (hb hby own_d1_36) rfl rfl k) ?_
  refine own_via (fun t k => XS.aloadN X77.here hx rfl (hb hby own_d1_37) rfl rfl k) ?_
  show own_H T77 38 #[.val (.ref a1), .val (.ref a2), .val (.ref a3)] [(.ref a2), (.ref a1)]
  obtain ⟨T91, h91, b91, X91, e91, E91, ga91, V91, Ex91, st91⟩ := own_clone X77 hx hZ hown (own_u hw 64 rfl) (own_u hw 65 rfl) (own_u hw 69 rfl) (own_u hw 67 rfl) (own_u hw 68 rfl) (own_u hw 70 rfl) e77 f81 f82 (pc := 38) (Ls := #[.val (.ref a1), .val (.ref a2), .val (.ref a3)]) (rest := [(.ref a1)]) (by rw [hml]; rfl) (hb hby own_d1_38) (by decide) (W := 1) (cap := 2) (Nat.le_of_eq rfl) (by decide) (by decide) (by decide) (by decide)
  refine own_via st91 ?_
  have sz_b91 : h0.size ≤ b91 := Nat.le_trans Kp88.1 (Nat.le_of_eq ga91.symm)
  have ne92 : a1 ≠ b91 := Nat.ne_of_lt (Nat.lt_of_lt_of_le f78.lt (Nat.le_of_eq ga91.symm))
  have f96 := f78.ext E91
  have f97 := f79.ext E91
  have f98 := f80.ext E91
  have f101 := f83.ext E91
  have f102 := f84.ext E91
  have f103 := f85.ext E91
  have Kp107 := Kp88.ext E91
  have Wk108 : kw2 ≤ h91.size := Nat.le_trans Wk89 E91.1
  show own_H T91 41 #[.val (.ref a1), .val (.ref a2), .val (.ref a3)] [(.ref b91), (.ref a1)]
  clear f78 f79 f80 f81 f82 f83 f84 f85 F77 Kp88 Wk89
  obtain ⟨T110, X110, e110, st110⟩ := castY X91 hx hZ hown (own_u hw 71 rfl) e91 (Ins.self Ex91) (g := (mkF m 41 #[.val (.ref a1), .val (.ref a2), .val (.ref a3)] [(.ref b91), (.ref a1)])) rfl rfl (hb hby own_d1_41)
  refine own_via st110 ?_
  show own_H T110 44 #[.val (.ref a1), .val (.ref a2), .val (.ref a3)] [(.ref b91), (.ref a1)]
  obtain ⟨T111, h111, L111, X111, N111, e111, W111, F111, st111⟩ := own_putF X110 N77 hx hZ hown (own_u hw 73 rfl) e110 f97 f96 (Or.inr ⟨(own_u hw 74 rfl), rfl, hnm⟩) (own_u hw 5 rfl) g_a1 (ty := (.array .int)) (v := (.ref b91)) (by decide) rfl rfl (pc := 44) (Ls := #[.val (.ref a1), .val (.ref a2), .val (.ref a3)]) (rest := []) (hb hby own_d1_44)
  refine own_via st111 ?_
  have f112 := f96.wr W111
  have f113 := f98.other W111 (Or.inr (slot_ne (Or.inr (own_u hw 80 rfl)) (Or.inr (own_u hw 74 rfl)) (by decide) rfl rfl))
  have f116 := f101.wr W111
  have f117 := f102.other W111 (Ne.symm ne3)
  have f118 := f103.other W111 (Or.inr (slot_ne (Or.inr (own_u hw 33 rfl)) (Or.inr (own_u hw 74 rfl)) (by decide) rfl rfl))
  have f122 := V91.other W111 (Ne.symm ne92)
  have Kp124 := Kp107.wr W111 (Or.inl (List.mem_of_getElem? (i := 0) rfl))
  have Wk125 : kw2 ≤ h111.size := by rw [W111.size]; exact Wk108
  show own_H T111 47 #[.val (.ref a1), .val (.ref a2), .val (.ref a3)] []
  clear f96 f97 f98 f101 f102 f103 V91 Ex91 Kp107 Wk108
  refine own_via (fun t k => XS.aloadN X111.here hx rfl (hb hby own_d1_47) rfl rfl k) ?_
  refine own_via (fun t k => XS.aloadN X111.here hx rfl (hb hby own_d1_48) rfl rfl k) ?_
  show own_H T111 49 #[.val (.ref a1), .val (.ref a2), .val (.ref a3)] [(.ref a3), (.ref a1)]
  obtain ⟨b127, T127, h127, s, kw127, X127, e127, E127, S127, Wk127, hZ, hown, st127⟩ := own_ldc S2 Wk125 X111 hx hZ hown (own_u hw 75 rfl) (own_wS hw) e111 (pc := 49) (Ls := #[.val (.ref a1), .val (.ref a2), .val (.ref a3)]) (rest := [(.ref a3), (.ref a1)]) (hb hby own_d1_49) (n := 100) (by decide) (by decide) (by decide) (by decide)
  refine own_via st127 ?_
  have f128 := f112.ext E127
  have f129 := f113.ext E127
  have f132 := f116.ext E127
  have f133 := f117.ext E127
  have f134 := f118.ext E127
  have f138 := f122.ext E127
  have f140 := F111.ext E127
  have Kp141 := Kp124.ext E127
  show own_H T127 51 #[.val (.ref a1), .val (.ref a2), .val (.ref a3)] [(.ref b127), (.ref a3), (.ref a1)]
  clear f112 f113 f116 f117 f118 f122 F111 Kp124
  obtain ⟨T143, X143, e143, st143⟩ := own_callP (y := (⟨"java/util/Objects", "requireNonNull", "(Ljava/lang/Object;Ljava/lang/String;)Ljava/lang/Object;"⟩ : MethodName)) (W := 1) X127 hx hZ hown (own_u hw 76 rfl) (own_u hw 29 rfl) (own_u hw 30 rfl) (own_u hw 31 rfl) (by decide) (own_rn l Z a0 hw [] a3 b127 h127 ) (by decide) (by decide) rfl rfl (by decide) (by decide) e127 (pc := 51) (Ls := #[.val (.ref a1), .val (.ref a2), .val (.ref a3)]) (st := [(.ref b127), (.ref a3), (.ref a1)]) (argsL := [(.ref a3), (.ref b127)]) (rest := [(.ref a1)]) (by rw [hml]; rfl) (lenOf own_pd0 rfl) rfl rfl (Nat.le_of_eq rfl) (hb hby own_d1_51)
  refine own_via st143 ?_
  show own_H T143 54 #[.val (.ref a1), .val (.ref a2), .val (.ref a3)] [(.ref a3), (.ref a1)]
  obtain ⟨T144, X144, e144, st144⟩ := castY X143 hx hZ hown (own_u hw 77 rfl) e143 (Ins.self f132) (g := (mkF m 54 #[.val (.ref a1), .val (.ref a2), .val (.ref a3)] [(.ref a3), (.ref a1)])) rfl rfl (hb hby own_d1_54)
  refine own_via st144 ?_
  show own_H T144 57 #[.val (.ref a1), .val (.ref a2), .val (.ref a3)] [(.ref a3), (.ref a1)]
  obtain ⟨T145, h145, L145, X145, N145, e145, W145, F145, st145⟩ := own_putF X144 N111 hx hZ hown (own_u hw 79 rfl) e144 f129 f128 (Or.inr ⟨(own_u hw 80 rfl), rfl, hnm⟩) (own_u hw 5 rfl) g_a1 (ty := (.object "com/example/skipstitch/skipstitch/Matching")) (v := (.ref a3)) (by decide) rfl rfl (pc := 57) (Ls := #[.val (.ref a1), .val (.ref a2), .val (.ref a3)]) (rest := []) (hb hby own_d1_57)
  refine own_via st145 ?_
  have f146 := f128.wr W145
  have f150 := f133.other W145 (Ne.symm ne3)
  have f151 := f134.other W145 (Or.inr (slot_ne (Or.inr (own_u hw 33 rfl)) (Or.inr (own_u hw 80 rfl)) (by decide) rfl rfl))
  have f155 := f138.other W145 (Ne.symm ne92)
  have f157 := f140.other W145 (Or.inr (slot_ne (Or.inr (own_u hw 74 rfl)) (Or.inr (own_u hw 80 rfl)) (by decide) rfl rfl))
  have Kp158 := Kp141.wr W145 (Or.inl (List.mem_of_getElem? (i := 0) rfl))
  have Wk159 : kw127 ≤ h145.size := by rw [W145.size]; exact Wk127
  show own_H T145 60 #[.val (.ref a1), .val (.ref a2), .val (.ref a3)] []
  clear f128 f129 f132 f133 f134 f138 f140 Kp141 Wk127
  rw [hPw]
  refine own_wide S127 ?_
  exact own_retV X145 hx Bd.returns Bd.notSynchronized (hb hby own_d1_60) (by rw [e145]; exact ⟨⟨N145, b91, x2, k_1, kx2, rfl, Kp158, sz_b91, sz_x2, f146, f157, f151, f155, f150⟩, Wk159⟩) (by decide) (by decide)
abbrev own_it3_R : Room := { frames := 3, cells := 14, slots := 800, locals := 90 }
theorem own_it3_ef (m : MethodId) (a1 : Addr) (a2 : Addr) (a3 : Addr) : entryFrame m #[(.ref a1), (.ref a2), (.ref a3)] 3 = mkF m 0 #[.val (.ref a1), .val (.ref a2), .val (.ref a3)] [] := by first | (simp [entryFrame, mkF, argsToLocals, Value.category]; done) | rfl
def own_it3_q (Z : State) (a1 : Addr) (a2 : Addr) (a3 : Addr) (k_1 : ClassId) (p0 : Int32) (p1 : Int32) (p2 : Int32) (h0 : Heap) (v : Option Value) (h : Heap) : Prop := ∃ (x : Addr) (y : Addr) (kx : ClassId) (ky : ClassId), v = none ∧ Keep h0 h [a1] ∧ h0.size ≤ x ∧ h0.size ≤ y ∧ Exa Z h a1 own_cK ∧ Fld Z h a1 own_cK "units" "[I" (.ref x) ∧ Fld Z h a1 own_cK "fallbacks" "[I" (.ref y) ∧ Arv Z h x kx .int (3 : Int32) [(.int p0), (.int p1), (.int p2)] (.int (0 : Int32)) ∧ Arv Z h y ky .int (4 : Int32) ((own_FB3 p0 p1 p2).map Value.int) (.int (0 : Int32))
set_option maxRecDepth 65536 in
set_option maxHeartbeats 40000000 in
theorem own_it3 (l : Launch) (Z : State) (a0 : Array Value) (hw : ∀ d ∈ tables_1, d.before a0 Z = true) (ws : List Jvm.Cond) (a1 : Addr) (a2 : Addr) (a3 : Addr) (k_1 : ClassId) (p0 : Int32) (p1 : Int32) (p2 : Int32) (h0 : Heap) (n0 : Nat) (Z0 : n0 ≤ h0.size) (i_Ea : Exa Z h0 a1 own_cK) (i_F_fallbacks : Fld Z h0 a1 own_cK "fallbacks" "[I" .null) (i_F_grams : Fld Z h0 a1 own_cK "grams" own_dG .null) (i_F_key : Fld Z h0 a1 own_cK "key" "I" (.int (0 : Int32))) (i_F_firstOfEachLowByte : Fld Z h0 a1 own_cK "firstOfEachLowByte" "[I" .null) (i_F_units : Fld Z h0 a1 own_cK "units" "[I" .null) (i_F_matching : Fld Z h0 a1 own_cK "matching" own_dM .null) (i_A1 : Arv Z h0 a2 k_1 .int (3 : Int32) [(.int p0), (.int p1), (.int p2)] (.int (0 : Int32))) (i_E2 : Exa Z h0 a2 "[I") (i_E3 : Exa Z h0 a3 own_cM) (g_a1 : n0 ≤ a1) (ne_a1_a2 : a1 ≠ a2) :
    own_CW l Z (⟨"com/example/skipstitch/skipstitch/KmpPattern", "<init>", "([ILcom/example/skipstitch/skipstitch/Matching;)V"⟩ : MethodName) prog_6_method_1_code 3 none ws own_it3_R #[(.ref a1), (.ref a2), (.ref a3)] h0 (own_W n0 (own_it3_q Z a1 a2 a3 k_1 p0 p1 p2 h0)) := by
  refine MetFree.of_bodySF own_pn1 hisR ?_
  intro p e s m args below meth c s₁ Bd hml0 hP hK
  obtain ⟨rfl, hZ, hh⟩ := hP
  have hx := Bd.exec
  have hby := Bd.bytes
  have hml : c.maxLocals = 3 := hml0
  have hown : s.vm.findClass "com/example/skipstitch/skipstitch/KmpPattern" = some m.cls := findClass_of_methodNamed Bd.named
  have hnm := (name_of_methodNamed Bd.named Bd.method).1
  have X0 : Stand p l e own_it3_R s m #[(.ref a1), (.ref a2), (.ref a3)] below meth c s₁ [] 0 0 := Stand.of_body Bd
  have e0 : s₁.heap = h0 := by rw [← hh, Bd.state]; rfl
  have N0 := Fr.nil n0
  have K0 : Keep h0 h0 [a1] := Keep.refl h0 _
  have S0 := own_S0 s
  have W0 : 0 ≤ h0.size := Nat.zero_le _
  obtain ⟨Pw, hPw⟩ : ∃ P, P = (own_PW s (own_W n0 (own_it3_q Z a1 a2 a3 k_1 p0 p1 p2 h0)) own_it3_R.cells own_it3_R.slots) := ⟨_, rfl⟩
  show own_G p e below (own_PW s (own_W n0 (own_it3_q Z a1 a2 a3 k_1 p0 p1 p2 h0)) own_it3_R.cells own_it3_R.slots) (s₁.setTop (entryFrame m #[(.ref a1), (.ref a2), (.ref a3)] 3))
  rw [← hPw]
  rw [own_it3_ef m a1 a2 a3]
  show own_H s₁ 0 #[.val (.ref a1), .val (.ref a2), .val (.ref a3)] []
  refine own_via (fun t k => XS.aloadN X0.here hx rfl (hb hby own_d1_0) rfl rfl k) ?_
  show own_H s₁ 1 #[.val (.ref a1), .val (.ref a2), .val (.ref a3)] [(.ref a1)]
  obtain ⟨T1, X1, e1, st1⟩ := initO X0 hx hZ hown (own_u hw 10 rfl) (own_u hw 11 rfl) (own_u hw 12 rfl) e0 (g := (mkF m 1 #[.val (.ref a1), .val (.ref a2), .val (.ref a3)] [(.ref a1)])) rfl (by rw [hml]; rfl) rfl (hb hby own_d1_1) (by decide) (W := 0) (by show 2 * 0 + _ ≤ _; exact Nat.le_of_eq rfl) (by decide)
  refine own_via st1 ?_
  show own_H T1 4 #[.val (.ref a1), .val (.ref a2), .val (.ref a3)] []
  refine own_via (fun t k => XS.aloadN X1.here hx rfl (hb hby own_d1_4) rfl rfl k) ?_
  refine own_via (fun t k => XS.aloadN X1.here hx rfl (hb hby own_d1_5) rfl rfl k) ?_
  show own_H T1 6 #[.val (.ref a1), .val (.ref a2), .val (.ref a3)] [(.ref a2), (.ref a1)]
  obtain ⟨v2, T2, h2, L2, s, kw2, X2, N2, e2, hq2, S2, Wk2, hZ, hown, st2⟩ := own_callSX (y := (⟨"com/example/skipstitch/skipstitch/PartialMatchTable", "fallbacksOf", "([I)[I"⟩ : MethodName)) (W := 1) S0 W0 X1 N0 hx hZ hown (own_u hw 13 rfl) (own_u hw 14 rfl) (own_u hw 15 rfl) (own_u hw 16 rfl) (by decide) (own_fb3 l Z a0 hw [] a2 k_1 p0 p1 p2 h0 n0 Z0 i_A1) (by decide) (by decide) (by decide) (by decide) e1 (pc := 6) (Ls := #[.val (.ref a1), .val (.ref a2), .val (.ref a3)]) (st := [(.ref a2), (.ref a1)]) (argsL := [(.ref a2)]) (rest := [(.ref a1)]) (by rw [hml]; rfl) (lenOf own_pd1 rfl) rfl rfl (Nat.le_of_eq rfl) (hb hby own_d1_6)
  obtain ⟨x2, kx2, rfl, K2, zf_x2, o2_0⟩ := hq2
  refine own_via st2 ?_
  have ne3 : a1 ≠ x2 := Nat.ne_of_lt (Nat.lt_of_lt_of_le i_Ea.lt zf_x2)
  have sz_x2 : h0.size ≤ x2 := Nat.le_trans K0.1 zf_x2
  have f6 := i_Ea.ext (own_ke K2)
  have f7 := i_F_fallbacks.ext (own_ke K2)
  have f8 := i_F_grams.ext (own_ke K2)
  have f9 := i_F_key.ext (own_ke K2)
  have f10 := i_F_firstOfEachLowByte.ext (own_ke K2)
  have f11 := i_F_units.ext (own_ke K2)
  have f12 := i_F_matching.ext (own_ke K2)
  have f13 := i_A1.ext (own_ke K2)
  have f14 := i_E2.ext (own_ke K2)
  have f15 := i_E3.ext (own_ke K2)
  have Kp16 := K0.trans K2 (fun x hx => nomatch hx)
  have Zs17 : n0 ≤ h2.size := Nat.le_trans Z0 K2.1
  show own_H T2 9 #[.val (.ref a1), .val (.ref a2), .val (.ref a3)] [(.ref x2), (.ref a1)]
  clear i_Ea i_F_fallbacks i_F_grams i_F_key i_F_firstOfEachLowByte i_F_units i_F_matching i_A1 i_E2 i_E3 K0
  obtain ⟨T18, h18, L18, X18, N18, e18, W18, F18, st18⟩ := own_putF X2 N2 hx hZ hown (own_u hw 32 rfl) e2 f7 f6 (Or.inr ⟨(own_u hw 33 rfl), rfl, hnm⟩) (own_u hw 5 rfl) g_a1 (ty := (.array .int)) (v := (.ref x2)) (by decide) rfl rfl (pc := 9) (Ls := #[.val (.ref a1), .val (.ref a2), .val (.ref a3)]) (rest := []) (hb hby own_d1_9)
  refine own_via st18 ?_
  have f19 := f6.wr W18
  have f20 := f8.other W18 (Or.inr (slot_ne (Or.inr (own_u hw 43 rfl)) (Or.inr (own_u hw 33 rfl)) (by decide) rfl rfl))
  have f21 := f9.other W18 (Or.inr (slot_ne (Or.inr (own_u hw 48 rfl)) (Or.inr (own_u hw 33 rfl)) (by decide) rfl rfl))
  have f22 := f10.other W18 (Or.inr (slot_ne (Or.inr (own_u hw 63 rfl)) (Or.inr (own_u hw 33 rfl)) (by decide) rfl rfl))
  have f23 := f11.other W18 (Or.inr (slot_ne (Or.inr (own_u hw 74 rfl)) (Or.inr (own_u hw 33 rfl)) (by decide) rfl rfl))
  have f24 := f12.other W18 (Or.inr (slot_ne (Or.inr (own_u hw 80 rfl)) (Or.inr (own_u hw 33 rfl)) (by decide) rfl rfl))
  have f25 := f13.other W18 (Ne.symm ne_a1_a2)
  have f26 := f14.wr W18
  have f27 := f15.wr W18
  have f28 := o2_0.other W18 (Ne.symm ne3)
  have Kp29 := Kp16.wr W18 (Or.inl (List.mem_of_getElem? (i := 0) rfl))
  have Wk30 : kw2 ≤ h18.size := by rw [W18.size]; exact Wk2
  have Zs31 : n0 ≤ h18.size := by rw [W18.size]; exact Zs17
  show own_H T18 12 #[.val (.ref a1), .val (.ref a2), .val (.ref a3)] []
  clear f6 f7 f8 f9 f10 f11 f12 f13 f14 f15 o2_0 Kp16 Zs17 Wk2
  refine own_via (fun t k => XS.aloadN X18.here hx rfl (hb hby own_d1_12) rfl rfl k) ?_
  refine own_via (fun t k => XS.aloadN X18.here hx rfl (hb hby own_d1_13) rfl rfl k) ?_
  show own_H T18 14 #[.val (.ref a1), .val (.ref a2), .val (.ref a3)] [(.ref a2), (.ref a1)]
  obtain ⟨T32, X32, e32, st32⟩ := own_callP (y := (⟨"com/example/skipstitch/skipstitch/GramTable", "of", "([I)Lcom/example/skipstitch/skipstitch/GramTable;"⟩ : MethodName)) (W := 1) X18 hx hZ hown (own_u hw 34 rfl) (own_u hw 35 rfl) (own_u hw 36 rfl) (own_u hw 37 rfl) (by decide) (own_gt3 l Z a0 hw [] a2 k_1 p0 p1 p2 h18 f25) (by decide) (by decide) rfl rfl (by decide) (by decide) e18 (pc := 14) (Ls := #[.val (.ref a1), .val (.ref a2), .val (.ref a3)]) (st := [(.ref a2), (.ref a1)]) (argsL := [(.ref a2)]) (rest := [(.ref a1)]) (by rw [hml]; rfl) (lenOf own_pd4 rfl) rfl rfl (Nat.le_of_eq rfl) (hb hby own_d1_14)
  refine own_via st32 ?_
  show own_H T32 17 #[.val (.ref a1), .val (.ref a2), .val (.ref a3)] [.null, (.ref a1)]
  obtain ⟨T33, h33, L33, X33, N33, e33, W33, F33, st33⟩ := own_putF X32 N18 hx hZ hown (own_u hw 42 rfl) e32 f20 f19 (Or.inr ⟨(own_u hw 43 rfl), rfl, hnm⟩) (own_u hw 5 rfl) g_a1 (ty := (.object "com/example/skipstitch/skipstitch/GramTable")) (v := .null) (by decide) rfl rfl (pc := 17) (Ls := #[.val (.ref a1), .val (.ref a2), .val (.ref a3)]) (rest := []) (hb hby own_d1_17)
  refine own_via st33 ?_
  have f34 := f19.wr W33
  have f35 := f21.other W33 (Or.inr (slot_ne (Or.inr (own_u hw 48 rfl)) (Or.inr (own_u hw 43 rfl)) (by decide) rfl rfl))
  have f36 := f22.other W33 (Or.inr (slot_ne (Or.inr (own_u hw 63 rfl)) (Or.inr (own_u hw 43 rfl)) (by decide) rfl rfl))
  have f37 := f23.other W33 (Or.inr (slot_ne (Or.inr (own_u hw 74 rfl)) (Or.inr (own_u hw 43 rfl)) (by decide) rfl rfl))
  have f38 := f24.other W33 (Or.inr (slot_ne (Or.inr (own_u hw 80 rfl)) (Or.inr (own_u hw 43 rfl)) (by decide) rfl rfl))
  have f39 := f25.other W33 (Ne.symm ne_a1_a2)
  have f40 := f26.wr W33
  have f41 := f27.wr W33
  have f42 := f28.other W33 (Ne.symm ne3)
  have f43 := F18.other W33 (Or.inr (slot_ne (Or.inr (own_u hw 33 rfl)) (Or.inr (own_u hw 43 rfl)) (by decide) rfl rfl))
  have Kp44 := Kp29.wr W33 (Or.inl (List.mem_of_getElem? (i := 0) rfl))
  have Wk45 : kw2 ≤ h33.size := by rw [W33.size]; exact Wk30
  have Zs46 : n0 ≤ h33.size := by rw [W33.size]; exact Zs31
  show own_H T33 20 #[.val (.ref a1), .val (.ref a2), .val (.ref a3)] []
  clear f19 f20 f21 f22 f23 f24 f25 f26 f27 f28 F18 Kp29 Zs31 Wk30
  refine own_via (fun t k => XS.aloadN X33.here hx rfl (hb hby own_d1_20) rfl rfl k) ?_
  refine own_via (fun t k => XS.aloadN X33.here hx rfl (hb hby own_d1_21) rfl rfl k) ?_
  show own_H T33 22 #[.val (.ref a1), .val (.ref a2), .val (.ref a3)] [(.ref a2), (.ref a1)]
  obtain ⟨T47, X47, e47, st47⟩ := own_callP (y := (⟨"com/example/skipstitch/skipstitch/GramTable", "keyOfFirst", "([I)I"⟩ : MethodName)) (W := 1) X33 hx hZ hown (own_u hw 44 rfl) (own_u hw 45 rfl) (own_u hw 36 rfl) (own_u hw 46 rfl) (by decide) (own_ky3 l Z a0 hw [] a2 k_1 p0 p1 p2 h33 f39) (by decide) (by decide) rfl rfl (by decide) (by decide) e33 (pc := 22) (Ls := #[.val (.ref a1), .val (.ref a2), .val (.ref a3)]) (st := [(.ref a2), (.ref a1)]) (argsL := [(.ref a2)]) (rest := [(.ref a1)]) (by rw [hml]; rfl) (lenOf own_pd5 rfl) rfl rfl (Nat.le_of_eq rfl) (hb hby own_d1_22)
  refine own_via st47 ?_
  show own_H T47 25 #[.val (.ref a1), .val (.ref a2), .val (.ref a3)] [(.int (own_Fk3 p0 p1 p2)), (.ref a1)]
  obtain ⟨T48, h48, L48, X48, N48, e48, W48, F48, st48⟩ := own_putF X47 N33 hx hZ hown (own_u hw 47 rfl) e47 f35 f34 (Or.inr ⟨(own_u hw 48 rfl), rfl, hnm⟩) (own_u hw 5 rfl) g_a1 (ty := .int) (v := (.int (own_Fk3 p0 p1 p2))) (by decide) rfl rfl (pc := 25) (Ls := #[.val (.ref a1), .val (.ref a2), .val (.ref a3)]) (rest := []) (hb hby own_d1_25)
  refine own_via st48 ?_
  have f49 := f34.wr W48
  have f50 := f36.other W48 (Or.inr (slot_ne (Or.inr (own_u hw 63 rfl)) (Or.inr (own_u hw 48 rfl)) (by decide) rfl rfl))
  have f51 := f37.other W48 (Or.inr (slot_ne (Or.inr (own_u hw 74 rfl)) (Or.inr (own_u hw 48 rfl)) (by decide) rfl rfl))
  have f52 := f38.other W48 (Or.inr (slot_ne (Or.inr (own_u hw 80 rfl)) (Or.inr (own_u hw 48 rfl)) (by decide) rfl rfl))
  have f53 := f39.other W48 (Ne.symm ne_a1_a2)
  have f54 := f40.wr W48
  have f55 := f41.wr W48
  have f56 := f42.other W48 (Ne.symm ne3)
  have f57 := f43.other W48 (Or.inr (slot_ne (Or.inr (own_u hw 33 rfl)) (Or.inr (own_u hw 48 rfl)) (by decide) rfl rfl))
  have Kp59 := Kp44.wr W48 (Or.inl (List.mem_of_getElem? (i := 0) rfl))
  have Wk60 : kw2 ≤ h48.size := by rw [W48.size]; exact Wk45
  have Zs61 : n0 ≤ h48.size := by rw [W48.size]; exact Zs46
  show own_H T48 28 #[.val (.ref a1), .val (.ref a2), .val (.ref a3)] []
  clear f34 f35 f36 f37 f38 f39 f40 f41 f42 f43 F33 Kp44 Zs46 Wk45
  refine own_via (fun t k => XS.aloadN X48.here hx rfl (hb hby own_d1_28) rfl rfl k) ?_
  refine own_via (fun t k => XS.aloadN X48.here hx rfl (hb hby own_d1_29) rfl rfl k) ?_
  show own_H T48 30 #[.val (.ref a1), .val (.ref a2), .val (.ref a3)] [(.ref a2), (.ref a1)]
  obtain ⟨v62, T62, h62, L62, X62, N62, e62, hq62, st62⟩ := own_callSW (y := (⟨"com/example/skipstitch/skipstitch/KmpPattern", "firstOfEachLowByte", "([I)[I"⟩ : MethodName)) (W := 1) X48 N48 hx hZ hown (own_u hw 49 rfl) (own_u hw 50 rfl) (own_u hw 6 rfl) (own_u hw 51 rfl) (by decide) (own_fob l Z a0 hw [] a2 k_1 ([p0, p1, p2] : List Int32) (3 : Int32) (3) h48 n0 Zs61 f53 rfl own_fo3) (by decide) (by decide) (by decide) (by decide) e48 (pc := 30) (Ls := #[.val (.ref a1), .val (.ref a2), .val (.ref a3)]) (st := [(.ref a2), (.ref a1)]) (argsL := [(.ref a2)]) (rest := [(.ref a1)]) (by rw [hml]; rfl) (lenOf own_pd1 rfl) rfl rfl (Nat.le_of_eq rfl) (hb hby own_d1_30)
  obtain ⟨x62, rfl, K62⟩ := hq62
  refine own_via st62 ?_
  have f63 := f49.ext (own_ke K62)
  have f64 := f50.ext (own_ke K62)
  have f65 := f51.ext (own_ke K62)
  have f66 := f52.ext (own_ke K62)
  have f67 := f53.ext (own_ke K62)
  have f68 := f54.ext (own_ke K62)
  have f69 := f55.ext (own_ke K62)
  have f70 := f56.ext (own_ke K62)
  have f71 := f57.ext (own_ke K62)
  have Kp74 := Kp59.trans K62 (fun x hx => nomatch hx)
  have Wk75 : kw2 ≤ h62.size := Nat.le_trans Wk60 K62.1
  show own_H T62 33 #[.val (.ref a1), .val (.ref a2), .val (.ref a3)] [(.ref x62), (.ref a1)]
  clear f49 f50 f51 f52 f53 f54 f55 f56 f57 F48 Kp59 Zs61 Wk60
  obtain ⟨T77, h77, L77, X77, N77, e77, W77, F77, st77⟩ := own_putF X62 N62 hx hZ hown (own_u hw 62 rfl) e62 f64 f63 (Or.inr ⟨(own_u hw 63 rfl), rfl, hnm⟩) (own_u hw 5 rfl) g_a1 (ty := (.array .int)) (v := (.ref x62)) (by decide) rfl rfl (pc := 33) (Ls := #[.val (.ref a1), .val (.ref a2), .val (.ref a3)]) (rest := []) (hb hby own_d1_33)
  refine own_via st77 ?_
  have f78 := f63.wr W77
  have f79 := f65.other W77 (Or.inr (slot_ne (Or.inr (own_u hw 74 rfl)) (Or.inr (own_u hw 63 rfl)) (by decide) rfl rfl))
  have f80 := f66.other W77 (Or.inr (slot_ne (Or.inr (own_u hw 80 rfl)) (Or.inr (own_u hw 63 rfl)) (by decide) rfl rfl))
  have f81 := f67.other W77 (Ne.symm ne_a1_a2)
  have f82 := f68.wr W77
  have f83 := f69.wr W77
  have f84 := f70.other W77 (Ne.symm ne3)
  have f85 := f71.other W77 (Or.inr (slot_ne (Or.inr (own_u hw 33 rfl)) (Or.inr (own_u hw 63 rfl)) (by decide) rfl rfl))
  have Kp88 := Kp74.wr W77 (Or.inl (List.mem_of_getElem? (i := 0) rfl))
  have Wk89 : kw2 ≤ h77.size := by rw [W77.size]; exact Wk75
  show own_H T77 36 #[.val (.ref a1), .val (.ref a2), .val (.ref a3)] []
  clear f63 f64 f65 f66 f67 f68 f69 f70 f71 Kp74 Wk75
  refine own_via (fun t k => XS.aloadN X77.here hx rfl (hb hby own_d1_36) rfl rfl k) ?_
  refine own_via (fun t k => XS.aloadN X77.here hx rfl (hb hby own_d1_37) rfl rfl k) ?_
  show own_H T77 38 #[.val (.ref a1), .val (.ref a2), .val (.ref a3)] [(.ref a2), (.ref a1)]
  obtain ⟨T91, h91, b91, X91, e91, E91, ga91, V91, Ex91, st91⟩ := own_clone X77 hx hZ hown (own_u hw 64 rfl) (own_u hw 65 rfl) (own_u hw 69 rfl) (own_u hw 67 rfl) (own_u hw 68 rfl) (own_u hw 70 rfl) e77 f81 f82 (pc := 38) (Ls := #[.val (.ref a1), .val (.ref a2), .val (.ref a3)]) (rest := [(.ref a1)]) (by rw [hml]; rfl) (hb hby own_d1_38) (by decide) (W := 1) (cap := 3) (Nat.le_of_eq rfl) (by decide) (by decide) (by decide) (by decide)
  refine own_via st91 ?_
  have sz_b91 : h0.size ≤ b91 := Nat.le_trans Kp88.1 (Nat.le_of_eq ga91.symm)
  have ne92 : a1 ≠ b91 := Nat.ne_of_lt (Nat.lt_of_lt_of_le f78.lt (Nat.le_of_eq ga91.symm))
  have f96 := f78.ext E91
  have f97 := f79.ext E91
  have f98 := f80.ext E91
  have f101 := f83.ext E91
  have f102 := f84.ext E91
  have f103 := f85.ext E91
  have Kp107 := Kp88.ext E91
  have Wk108 : kw2 ≤ h91.size := Nat.le_trans Wk89 E91.1
  show own_H T91 41 #[.val (.ref a1), .val (.ref a2), .val (.ref a3)] [(.ref b91), (.ref a1)]
  clear f78 f79 f80 f81 f82 f83 f84 f85 F77 Kp88 Wk89
  obtain ⟨T110, X110, e110, st110⟩ := castY X91 hx hZ hown (own_u hw 71 rfl) e91 (Ins.self Ex91) (g := (mkF m 41 #[.val (.ref a1), .val (.ref a2), .val (.ref a3)] [(.ref b91), (.ref a1)])) rfl rfl (hb hby own_d1_41)
  refine own_via st110 ?_
  show own_H T110 44 #[.val (.ref a1), .val (.ref a2), .val (.ref a3)] [(.ref b91), (.ref a1)]
  obtain ⟨T111, h111, L111, X111, N111, e111, W111, F111, st111⟩ := own_putF X110 N77 hx hZ hown (own_u hw 73 rfl) e110 f97 f96 (Or.inr ⟨(own_u hw 74 rfl), rfl, hnm⟩) (own_u hw 5 rfl) g_a1 (ty := (.array .int)) (v := (.ref b91)) (by decide) rfl rfl (pc := 44) (Ls := #[.val (.ref a1), .val (.ref a2), .val (.ref a3)]) (rest := []) (hb hby own_d1_44)
  refine own_via st111 ?_
  have f112 := f96.wr W111
  have f113 := f98.other W111 (Or.inr (slot_ne (Or.inr (own_u hw 80 rfl)) (Or.inr (own_u hw 74 rfl)) (by decide) rfl rfl))
  have f116 := f101.wr W111
  have f117 := f102.other W111 (Ne.symm ne3)
  have f118 := f103.other W111 (Or.inr (slot_ne (Or.inr (own_u hw 33 rfl)) (Or.inr (own_u hw 74 rfl)) (by decide) rfl rfl))
  have f122 := V91.other W111 (Ne.symm ne92)
  have Kp124 := Kp107.wr W111 (Or.inl (List.mem_of_getElem? (i := 0) rfl))
  have Wk125 : kw2 ≤ h111.size := by rw [W111.size]; exact Wk108
  show own_H T111 47 #[.val (.ref a1), .val (.ref a2), .val (.ref a3)] []
  clear f96 f97 f98 f101 f102 f103 V91 Ex91 Kp107 Wk108
  refine own_via (fun t k => XS.aloadN X111.here hx rfl (hb hby own_d1_47) rfl rfl k) ?_
  refine own_via (fun t k => XS.aloadN X111.here hx rfl (hb hby own_d1_48) rfl rfl k) ?_
  show own_H T111 49 #[.val (.ref a1), .val (.ref a2), .val (.ref a3)] [(.ref a3), (.ref a1)]
  obtain ⟨b127, T127, h127, s, kw127, X127, e127, E127, S127, Wk127, hZ, hown, st127⟩ := own_ldc S2 Wk125 X111 hx hZ hown (own_u hw 75 rfl) (own_wS hw) e111 (pc := 49) (Ls := #[.val (.ref a1), .val (.ref a2), .val (.ref a3)]) (rest := [(.ref a3), (.ref a1)]) (hb hby own_d1_49) (n := 100) (by decide) (by decide) (by decide) (by decide)
  refine own_via st127 ?_
  have f128 := f112.ext E127
  have f129 := f113.ext E127
  have f132 := f116.ext E127
  have f133 := f117.ext E127
  have f134 := f118.ext E127
  have f138 := f122.ext E127
  have f140 := F111.ext E127
  have Kp141 := Kp124.ext E127
  show own_H T127 51 #[.val (.ref a1), .val (.ref a2), .val (.ref a3)] [(.ref b127), (.ref a3), (.ref a1)]
  clear f112 f113 f116 f117 f118 f122 F111 Kp124
  obtain ⟨T143, X143, e143, st143⟩ := own_callP (y := (⟨"java/util/Objects", "requireNonNull", "(Ljava/lang/Object;Ljava/lang/String;)Ljava/lang/Object;"⟩ : MethodName)) (W := 1) X127 hx hZ hown (own_u hw 76 rfl) (own_u hw 29 rfl) (own_u hw 30 rfl) (own_u hw 31 rfl) (by decide) (own_rn l Z a0 hw [] a3 b127 h127 ) (by decide) (by decide) rfl rfl (by decide) (by decide) e127 (pc := 51) (Ls := #[.val (.ref a1), .val (.ref a2), .val (.ref a3)]) (st := [(.ref b127), (.ref a3), (.ref a1)]) (argsL := [(.ref a3), (.ref b127)]) (rest := [(.ref a1)]) (by rw [hml]; rfl) (lenOf own_pd0 rfl) rfl rfl (Nat.le_of_eq rfl) (hb hby own_d1_51)
  refine own_via st143 ?_
  show own_H T143 54 #[.val (.ref a1), .val (.ref a2), .val (.ref a3)] [(.ref a3), (.ref a1)]
  obtain ⟨T144, X144, e144, st144⟩ := castY X143 hx hZ hown (own_u hw 77 rfl) e143 (Ins.self f132) (g := (mkF m 54 #[.val (.ref a1), .val (.ref a2), .val (.ref a3)] [(.ref a3), (.ref a1)])) rfl rfl (hb hby own_d1_54)
  refine own_via st144 ?_
  show own_H T144 57 #[.val (.ref a1), .val (.ref a2), .val (.ref a3)] [(.ref a3), (.ref a1)]
  obtain ⟨T145, h145, L145, X145, N145, e145, W145, F145, st145⟩ := own_putF X144 N111 hx hZ hown (own_u hw 79 rfl) e144 f129 f128 (Or.inr ⟨(own_u hw 80 rfl), rfl, hnm⟩) (own_u hw 5 rfl) g_a1 (ty := (.object "com/example/skipstitch/skipstitch/Matching")) (v := (.ref a3)) (by decide) rfl rfl (pc := 57) (Ls := #[.val (.ref a1), .val (.ref a2), .val (.ref a3)]) (rest := []) (hb hby own_d1_57)
  refine own_via st145 ?_
  have f146 := f128.wr W145
  have f150 := f133.other W145 (Ne.symm ne3)
  have f151 := f134.other W145 (Or.inr (slot_ne (Or.inr (own_u hw 33 rfl)) (Or.inr (own_u hw 80 rfl)) (by decide) rfl rfl))
  have f155 := f138.other W145 (Ne.symm ne92)
  have f157 := f140.other W145 (Or.inr (slot_ne (Or.inr (own_u hw 74 rfl)) (Or.inr (own_u hw 80 rfl)) (by decide) rfl rfl))
  have Kp158 := Kp141.wr W145 (Or.inl (List.mem_of_getElem? (i := 0) rfl))
  have Wk159 : kw127 ≤ h145.size := by rw [W145.size]; exact Wk127
  show own_H T145 60 #[.val (.ref a1), .val (.ref a2), .val (.ref a3)] []
  clear f128 f129 f132 f133 f134 f138 f140 Kp141 Wk127
  rw [hPw]
  refine own_wide S127 ?_
  exact own_retV X145 hx Bd.returns Bd.notSynchronized (hb hby own_d1_60) (by rw [e145]; exact ⟨⟨N145, b91, x2, k_1, kx2, rfl, Kp158, sz_b91, sz_x2, f146, f157, f151, f155, f150⟩, Wk159⟩) (by decide) (by decide)
abbrev own_it4_R : Room := { frames := 3, cells := 14, slots := 800, locals := 90 }
theorem own_it4_ef (m : MethodId) (a1 : Addr) (a2 : Addr) (a3 : Addr) : entryFrame m #[(.ref a1), (.ref a2), (.ref a3)] 3 = mkF m 0 #[.val (.ref a1), .val (.ref a2), .val (.ref a3)] [] := by first | (simp [entryFrame, mkF, argsToLocals, Value.category]; done) | rfl
def own_it4_q (Z : State) (a1 : Addr) (a2 : Addr) (a3 : Addr) (k_1 : ClassId) (p0 : Int32) (p1 : Int32) (p2 : Int32) (p3 : Int32) (h0 : Heap) (v : Option Value) (h : Heap) : Prop := ∃ (x : Addr) (y : Addr) (kx : ClassId) (ky : ClassId), v = none ∧ Keep h0 h [a1] ∧ h0.size ≤ x ∧ h0.size ≤ y ∧ Exa Z h a1 own_cK ∧ Fld Z h a1 own_cK "units" "[I" (.ref x) ∧ Fld Z h a1 own_cK "fallbacks" "[I" (.ref y) ∧ Arv Z h x kx .int (4 : Int32) [(.int p0), (.int p1), (.int p2), (.int p3)] (.int (0 : Int32)) ∧ Arv Z h y ky .int (5 : Int32) ((own_FB4 p0 p1 p2 p3).map Value.int) (.int (0 : Int32))
set_option maxRecDepth 65536 in
set_option maxHeartbeats 40000000 in
theorem own_it4 (l : Launch) (Z : State) (a0 : Array Value) (hw : ∀ d ∈ tables_1, d.before a0 Z = true) (ws : List Jvm.Cond) (a1 : Addr) (a2 : Addr) (a3 : Addr) (k_1 : ClassId) (p0 : Int32) (p1 : Int32) (p2 : Int32) (p3 : Int32) (h0 : Heap) (n0 : Nat) (Z0 : n0 ≤ h0.size) (i_Ea : Exa Z h0 a1 own_cK) (i_F_fallbacks : Fld Z h0 a1 own_cK "fallbacks" "[I" .null) (i_F_grams : Fld Z h0 a1 own_cK "grams" own_dG .null) (i_F_key : Fld Z h0 a1 own_cK "key" "I" (.int (0 : Int32))) (i_F_firstOfEachLowByte : Fld Z h0 a1 own_cK "firstOfEachLowByte" "[I" .null) (i_F_units : Fld Z h0 a1 own_cK "units" "[I" .null) (i_F_matching : Fld Z h0 a1 own_cK "matching" own_dM .null) (i_A1 : Arv Z h0 a2 k_1 .int (4 : Int32) [(.int p0), (.int p1), (.int p2), (.int p3)] (.int (0 : Int32))) (i_E2 : Exa Z h0 a2 "[I") (i_E3 : Exa Z h0 a3 own_cM) (g_a1 : n0 ≤ a1) (ne_a1_a2 : a1 ≠ a2) :
    own_CW l Z (⟨"com/example/skipstitch/skipstitch/KmpPattern", "<init>", "([ILcom/example/skipstitch/skipstitch/Matching;)V"⟩ : MethodName) prog_6_method_1_code 3 none ws own_it4_R #[(.ref a1), (.ref a2), (.ref a3)] h0 (own_W n0 (own_it4_q Z a1 a2 a3 k_1 p0 p1 p2 p3 h0)) := by
  refine MetFree.of_bodySF own_pn1 hisR ?_
  intro p e s m args below meth c s₁ Bd hml0 hP hK
  obtain ⟨rfl, hZ, hh⟩ := hP
  have hx := Bd.exec
  have hby := Bd.bytes
  have hml : c.maxLocals = 3 := hml0
  have hown : s.vm.findClass "com/example/skipstitch/skipstitch/KmpPattern" = some m.cls := findClass_of_methodNamed Bd.named
  have hnm := (name_of_methodNamed Bd.named Bd.method).1
  have X0 : Stand p l e own_it4_R s m #[(.ref a1), (.ref a2), (.ref a3)] below meth c s₁ [] 0 0 := Stand.of_body Bd
  have e0 : s₁.heap = h0 := by rw [← hh, Bd.state]; rfl
  have N0 := Fr.nil n0
  have K0 : Keep h0 h0 [a1] := Keep.refl h0 _
  have S0 := own_S0 s
  have W0 : 0 ≤ h0.size := Nat.zero_le _
  obtain ⟨Pw, hPw⟩ : ∃ P, P = (own_PW s (own_W n0 (own_it4_q Z a1 a2 a3 k_1 p0 p1 p2 p3 h0)) own_it4_R.cells own_it4_R.slots) := ⟨_, rfl⟩
  show own_G p e below (own_PW s (own_W n0 (own_it4_q Z a1 a2 a3 k_1 p0 p1 p2 p3 h0)) own_it4_R.cells own_it4_R.slots) (s₁.setTop (entryFrame m #[(.ref a1), (.ref a2), (.ref a3)] 3))
  rw [← hPw]
  rw [own_it4_ef m a1 a2 a3]
  show own_H s₁ 0 #[.val (.ref a1), .val (.ref a2), .val (.ref a3)] []
  refine own_via (fun t k => XS.aloadN X0.here hx rfl (hb hby own_d1_0) rfl rfl k) ?_
  show own_H s₁ 1 #[.val (.ref a1), .val (.ref a2), .val (.ref a3)] [(.ref a1)]
  obtain ⟨T1, X1, e1, st1⟩ := initO X0 hx hZ hown (own_u hw 10 rfl) (own_u hw 11 rfl) (own_u hw 12 rfl) e0 (g := (mkF m 1 #[.val (.ref a1), .val (.ref a2), .val (.ref a3)] [(.ref a1)])) rfl (by rw [hml]; rfl) rfl (hb hby own_d1_1) (by decide) (W := 0) (by show 2 * 0 + _ ≤ _; exact Nat.le_of_eq rfl) (by decide)
  refine own_via st1 ?_
  show own_H T1 4 #[.val (.ref a1), .val (.ref a2), .val (.ref a3)] []
  refine own_via (fun t k => XS.aloadN X1.here hx rfl (hb hby own_d1_4) rfl rfl k) ?_
  refine own_via (fun t k => XS.aloadN X1.here hx rfl (hb hby own_d1_5) rfl rfl k) ?_
  show own_H T1 6 #[.val (.ref a1), .val (.ref a2), .val (.ref a3)] [(.ref a2), (.ref a1)]
  obtain ⟨v2, T2, h2, L2, s, kw2, X2, N2, e2, hq2, S2, Wk2, hZ, hown, st2⟩ := own_callSX (y := (⟨"com/example/skipstitch/skipstitch/PartialMatchTable", "fallbacksOf", "([I)[I"⟩ : MethodName)) (W := 1) S0 W0 X1 N0 hx hZ hown (own_u hw 13 rfl) (own_u hw 14 rfl) (own_u hw 15 rfl) (own_u hw 16 rfl) (by decide) (own_fb4 l Z a0 hw [] a2 k_1 p0 p1 p2 p3 h0 n0 Z0 i_A1) (by decide) (by decide) (by decide) (by decide) e1 (pc := 6) (Ls := #[.val (.ref a1), .val (.ref a2), .val (.ref a3)]) (st := [(.ref a2), (.ref a1)]) (argsL := [(.ref a2)]) (rest := [(.ref a1)]) (by rw [hml]; rfl) (lenOf own_pd1 rfl) rfl rfl (Nat.le_of_eq rfl) (hb hby own_d1_6)
  obtain ⟨x2, kx2, rfl, K2, zf_x2, o2_0⟩ := hq2
  refine own_via st2 ?_
  have ne3 : a1 ≠ x2 := Nat.ne_of_lt (Nat.lt_of_lt_of_le i_Ea.lt zf_x2)
  have sz_x2 : h0.size ≤ x2 := Nat.le_trans K0.1 zf_x2
  have f6 := i_Ea.ext (own_ke K2)
  have f7 := i_F_fallbacks.ext (own_ke K2)
  have f8 := i_F_grams.ext (own_ke K2)
  have f9 := i_F_key.ext (own_ke K2)
  have f10 := i_F_firstOfEachLowByte.ext (own_ke K2)
  have f11 := i_F_units.ext (own_ke K2)
  have f12 := i_F_matching.ext (own_ke K2)
  have f13 := i_A1.ext (own_ke K2)
  have f14 := i_E2.ext (own_ke K2)
  have f15 := i_E3.ext (own_ke K2)
  have Kp16 := K0.trans K2 (fun x hx => nomatch hx)
  have Zs17 : n0 ≤ h2.size := Nat.le_trans Z0 K2.1
  show own_H T2 9 #[.val (.ref a1), .val (.ref a2), .val (.ref a3)] [(.ref x2), (.ref a1)]
  clear i_Ea i_F_fallbacks i_F_grams i_F_key i_F_firstOfEachLowByte i_F_units i_F_matching i_A1 i_E2 i_E3 K0
  obtain ⟨T18, h18, L18, X18, N18, e18, W18, F18, st18⟩ := own_putF X2 N2 hx hZ hown (own_u hw 32 rfl) e2 f7 f6 (Or.inr ⟨(own_u hw 33 rfl), rfl, hnm⟩) (own_u hw 5 rfl) g_a1 (ty := (.array .int)) (v := (.ref x2)) (by decide) rfl rfl (pc := 9) (Ls := #[.val (.ref a1), .val (.ref a2), .val (.ref a3)]) (rest := []) (hb hby own_d1_9)
  refine own_via st18 ?_
  have f19 := f6.wr W18
  have f20 := f8.other W18 (Or.inr (slot_ne (Or.inr (own_u hw 43 rfl)) (Or.inr (own_u hw 33 rfl)) (by decide) rfl rfl))
  have f21 := f9.other W18 (Or.inr (slot_ne (Or.inr (own_u hw 48 rfl)) (Or.inr (own_u hw 33 rfl)) (by decide) rfl rfl))
  have f22 := f10.other W18 (Or.inr (slot_ne (Or.inr (own_u hw 63 rfl)) (Or.inr (own_u hw 33 rfl)) (by decide) rfl rfl))
  have f23 := f11.other W18 (Or.inr (slot_ne (Or.inr (own_u hw 74 rfl)) (Or.inr (own_u hw 33 rfl)) (by decide) rfl rfl))
  have f24 := f12.other W18 (Or.inr (slot_ne (Or.inr (own_u hw 80 rfl)) (Or.inr (own_u hw 33 rfl)) (by decide) rfl rfl))
  have f25 := f13.other W18 (Ne.symm ne_a1_a2)
  have f26 := f14.wr W18
  have f27 := f15.wr W18
  have f28 := o2_0.other W18 (Ne.symm ne3)
  have Kp29 := Kp16.wr W18 (Or.inl (List.mem_of_getElem? (i := 0) rfl))
  have Wk30 : kw2 ≤ h18.size := by rw [W18.size]; exact Wk2
  have Zs31 : n0 ≤ h18.size := by rw [W18.size]; exact Zs17
  show own_H T18 12 #[.val (.ref a1), .val (.ref a2), .val (.ref a3)] []
  clear f6 f7 f8 f9 f10 f11 f12 f13 f14 f15 o2_0 Kp16 Zs17 Wk2
  refine own_via (fun t k => XS.aloadN X18.here hx rfl (hb hby own_d1_12) rfl rfl k) ?_
  refine own_via (fun t k => XS.aloadN X18.here hx rfl (hb hby own_d1_13) rfl rfl k) ?_
  show own_H T18 14 #[.val (.ref a1), .val (.ref a2), .val (.ref a3)] [(.ref a2), (.ref a1)]
  obtain ⟨T32, X32, e32, st32⟩ := own_callP (y := (⟨"com/example/skipstitch/skipstitch/GramTable", "of", "([I)Lcom/example/skipstitch/skipstitch/GramTable;"⟩ : MethodName)) (W := 1) X18 hx hZ hown (own_u hw 34 rfl) (own_u hw 35 rfl) (own_u hw 36 rfl) (own_u hw 37 rfl) (by decide) (own_gt4 l Z a0 hw [] a2 k_1 p0 p1 p2 p3 h18 f25) (by decide) (by decide) rfl rfl (by decide) (by decide) e18 (pc := 14) (Ls := #[.val (.ref a1), .val (.ref a2), .val (.ref a3)]) (st := [(.ref a2), (.ref a1)]) (argsL := [(.ref a2)]) (rest := [(.ref a1)]) (by rw [hml]; rfl) (lenOf own_pd4 rfl) rfl rfl (Nat.le_of_eq rfl) (hb hby own_d1_14)
  refine own_via st32 ?_
  show own_H T32 17 #[.val (.ref a1), .val (.ref a2), .val (.ref a3)] [.null, (.ref a1)]
  obtain ⟨T33, h33, L33, X33, N33, e33, W33, F33, st33⟩ := own_putF X32 N18 hx hZ hown (own_u hw 42 rfl) e32 f20 f19 (Or.inr ⟨(own_u hw 43 rfl), rfl, hnm⟩) (own_u hw 5 rfl) g_a1 (ty := (.object "com/example/skipstitch/skipstitch/GramTable")) (v := .null) (by decide) rfl rfl (pc := 17) (Ls := #[.val (.ref a1), .val (.ref a2), .val (.ref a3)]) (rest := []) (hb hby own_d1_17)
  refine own_via st33 ?_
  have f34 := f19.wr W33
  have f35 := f21.other W33 (Or.inr (slot_ne (Or.inr (own_u hw 48 rfl)) (Or.inr (own_u hw 43 rfl)) (by decide) rfl rfl))
  have f36 := f22.other W33 (Or.inr (slot_ne (Or.inr (own_u hw 63 rfl)) (Or.inr (own_u hw 43 rfl)) (by decide) rfl rfl))
  have f37 := f23.other W33 (Or.inr (slot_ne (Or.inr (own_u hw 74 rfl)) (Or.inr (own_u hw 43 rfl)) (by decide) rfl rfl))
  have f38 := f24.other W33 (Or.inr (slot_ne (Or.inr (own_u hw 80 rfl)) (Or.inr (own_u hw 43 rfl)) (by decide) rfl rfl))
  have f39 := f25.other W33 (Ne.symm ne_a1_a2)
  have f40 := f26.wr W33
  have f41 := f27.wr W33
  have f42 := f28.other W33 (Ne.symm ne3)
  have f43 := F18.other W33 (Or.inr (slot_ne (Or.inr (own_u hw 33 rfl)) (Or.inr (own_u hw 43 rfl)) (by decide) rfl rfl))
  have Kp44 := Kp29.wr W33 (Or.inl (List.mem_of_getElem? (i := 0) rfl))
  have Wk45 : kw2 ≤ h33.size := by rw [W33.size]; exact Wk30
  have Zs46 : n0 ≤ h33.size := by rw [W33.size]; exact Zs31
  show own_H T33 20 #[.val (.ref a1), .val (.ref a2), .val (.ref a3)] []
  clear f19 f20 f21 f22 f23 f24 f25 f26 f27 f28 F18 Kp29 Zs31 Wk30
  refine own_via (fun t k => XS.aloadN X33.here hx rfl (hb hby own_d1_20) rfl rfl k) ?_
  refine own_via (fun t k => XS.aloadN X33.here hx rfl (hb hby own_d1_21) rfl rfl k) ?_
  show own_H T33 22 #[.val (.ref a1), .val (.ref a2), .val (.ref a3)] [(.ref a2), (.ref a1)]
  obtain ⟨T47, X47, e47, st47⟩ := own_callP (y := (⟨"com/example/skipstitch/skipstitch/GramTable", "keyOfFirst", "([I)I"⟩ : MethodName)) (W := 1) X33 hx hZ hown (own_u hw 44 rfl) (own_u hw 45 rfl) (own_u hw 36 rfl) (own_u hw 46 rfl) (by decide) (own_ky4 l Z a0 hw [] a2 k_1 p0 p1 p2 p3 h33 f39) (by decide) (by decide) rfl rfl (by decide) (by decide) e33 (pc := 22) (Ls := #[.val (.ref a1), .val (.ref a2), .val (.ref a3)]) (st := [(.ref a2), (.ref a1)]) (argsL := [(.ref a2)]) (rest := [(.ref a1)]) (by rw [hml]; rfl) (lenOf own_pd5 rfl) rfl rfl (Nat.le_of_eq rfl) (hb hby own_d1_22)
  refine own_via st47 ?_
  show own_H T47 25 #[.val (.ref a1), .val (.ref a2), .val (.ref a3)] [(.int (own_Fk4 p0 p1 p2 p3)), (.ref a1)]
  obtain ⟨T48, h48, L48, X48, N48, e48, W48, F48, st48⟩ := own_putF X47 N33 hx hZ hown (own_u hw 47 rfl) e47 f35 f34 (Or.inr ⟨(own_u hw 48 rfl), rfl, hnm⟩) (own_u hw 5 rfl) g_a1 (ty := .int) (v := (.int (own_Fk4 p0 p1 p2 p3))) (by decide) rfl rfl (pc := 25) (Ls := #[.val (.ref a1), .val (.ref a2), .val (.ref a3)]) (rest := []) (hb hby own_d1_25)
  refine own_via st48 ?_
  have f49 := f34.wr W48
  have f50 := f36.other W48 (Or.inr (slot_ne (Or.inr (own_u hw 63 rfl)) (Or.inr (own_u hw 48 rfl)) (by decide) rfl rfl))
  have f51 := f37.other W48 (Or.inr (slot_ne (Or.inr (own_u hw 74 rfl)) (Or.inr (own_u hw 48 rfl)) (by decide) rfl rfl))
  have f52 := f38.other W48 (Or.inr (slot_ne (Or.inr (own_u hw 80 rfl)) (Or.inr (own_u hw 48 rfl)) (by decide) rfl rfl))
  have f53 := f39.other W48 (Ne.symm ne_a1_a2)
  have f54 := f40.wr W48
  have f55 := f41.wr W48
  have f56 := f42.other W48 (Ne.symm ne3)
  have f57 := f43.other W48 (Or.inr (slot_ne (Or.inr (own_u hw 33 rfl)) (Or.inr (own_u hw 48 rfl)) (by decide) rfl rfl))
  have Kp59 := Kp44.wr W48 (Or.inl (List.mem_of_getElem? (i := 0) rfl))
  have Wk60 : kw2 ≤ h48.size := by rw [W48.size]; exact Wk45
  have Zs61 : n0 ≤ h48.size := by rw [W48.size]; exact Zs46
  show own_H T48 28 #[.val (.ref a1), .val (.ref a2), .val (.ref a3)] []
  clear f34 f35 f36 f37 f38 f39 f40 f41 f42 f43 F33 Kp44 Zs46 Wk45
  refine own_via (fun t k => XS.aloadN X48.here hx rfl (hb hby own_d1_28) rfl rfl k) ?_
  refine own_via (fun t k => XS.aloadN X48.here hx rfl (hb hby own_d1_29) rfl rfl k) ?_
  show own_H T48 30 #[.val (.ref a1), .val (.ref a2), .val (.ref a3)] [(.ref a2), (.ref a1)]
  obtain ⟨v62, T62, h62, L62, X62, N62, e62, hq62, st62⟩ := own_callSW (y := (⟨"com/example/skipstitch/skipstitch/KmpPattern", "firstOfEachLowByte", "([I)[I"⟩ : MethodName)) (W := 1) X48 N48 hx hZ hown (own_u hw 49 rfl) (own_u hw 50 rfl) (own_u hw 6 rfl) (own_u hw 51 rfl) (by decide) (own_fob l Z a0 hw [] a2 k_1 ([p0, p1, p2, p3] : List Int32) (4 : Int32) (4) h48 n0 Zs61 f53 rfl own_fo4) (by decide) (by decide) (by decide) (by decide) e48 (pc := 30) (Ls := #[.val (.ref a1), .val (.ref a2), .val (.ref a3)]) (st := [(.ref a2), (.ref a1)]) (argsL := [(.ref a2)]) (rest := [(.ref a1)]) (by rw [hml]; rfl) (lenOf own_pd1 rfl) rfl rfl (Nat.le_of_eq rfl) (hb hby own_d1_30)
  obtain ⟨x62, rfl, K62⟩ := hq62
  refine own_via st62 ?_
  have f63 := f49.ext (own_ke K62)
  have f64 := f50.ext (own_ke K62)
  have f65 := f51.ext (own_ke K62)
  have f66 := f52.ext (own_ke K62)
  have f67 := f53.ext (own_ke K62)
  have f68 := f54.ext (own_ke K62)
  have f69 := f55.ext (own_ke K62)
  have f70 := f56.ext (own_ke K62)
  have f71 := f57.ext (own_ke K62)
  have Kp74 := Kp59.trans K62 (fun x hx => nomatch hx)
  have Wk75 : kw2 ≤ h62.size := Nat.le_trans Wk60 K62.1
  show own_H T62 33 #[.val (.ref a1), .val (.ref a2), .val (.ref a3)] [(.ref x62), (.ref a1)]
  clear f49 f50 f51 f52 f53 f54 f55 f56 f57 F48 Kp59 Zs61 Wk60
  obtain ⟨T77, h77, L77, X77, N77, e77, W77, F77, st77⟩ := own_putF X62 N62 hx hZ hown (own_u hw 62 rfl) e62 f64 f63 (Or.inr ⟨(own_u hw 63 rfl), rfl, hnm⟩) (own_u hw 5 rfl) g_a1 (ty := (.array .int)) (v := (.ref x62)) (by decide) rfl rfl (pc := 33) (Ls := #[.val (.ref a1), .val (.ref a2), .val (.ref a3)]) (rest := []) (hb hby own_d1_33)
  refine own_via st77 ?_
  have f78 := f63.wr W77
  have f79 := f65.other W77 (Or.inr (slot_ne (Or.inr (own_u hw 74 rfl)) (Or.inr (own_u hw 63 rfl)) (by decide) rfl rfl))
  have f80 := f66.other W77 (Or.inr (slot_ne (Or.inr (own_u hw 80 rfl)) (Or.inr (own_u hw 63 rfl)) (by decide) rfl rfl))
  have f81 := f67.other W77 (Ne.symm ne_a1_a2)
  have f82 := f68.wr W77
  have f83 := f69.wr W77
  have f84 := f70.other W77 (Ne.symm ne3)
  have f85 := f71.other W77 (Or.inr (slot_ne (Or.inr (own_u hw 33 rfl)) (Or.inr (own_u hw 63 rfl)) (by decide) rfl rfl))
  have Kp88 := Kp74.wr W77 (Or.inl (List.mem_of_getElem? (i := 0) rfl))
  have Wk89 : kw2 ≤ h77.size := by rw [W77.size]; exact Wk75
  show own_H T77 36 #[.val (.ref a1), .val (.ref a2), .val (.ref a3)] []
  clear f63 f64 f65 f66 f67 f68 f69 f70 f71 Kp74 Wk75
  refine own_via (fun t k => XS.aloadN X77.here hx rfl (hb hby own_d1_36) rfl rfl k) ?_
  refine own_via (fun t k => XS.aloadN X77.here hx rfl (hb hby own_d1_37) rfl rfl k) ?_
  show own_H T77 38 #[.val (.ref a1), .val (.ref a2), .val (.ref a3)] [(.ref a2), (.ref a1)]
  obtain ⟨T91, h91, b91, X91, e91, E91, ga91, V91, Ex91, st91⟩ := own_clone X77 hx hZ hown (own_u hw 64 rfl) (own_u hw 65 rfl) (own_u hw 69 rfl) (own_u hw 67 rfl) (own_u hw 68 rfl) (own_u hw 70 rfl) e77 f81 f82 (pc := 38) (Ls := #[.val (.ref a1), .val (.ref a2), .val (.ref a3)]) (rest := [(.ref a1)]) (by rw [hml]; rfl) (hb hby own_d1_38) (by decide) (W := 1) (cap := 4) (Nat.le_of_eq rfl) (by decide) (by decide) (by decide) (by decide)
  refine own_via st91 ?_
  have sz_b91 : h0.size ≤ b91 := Nat.le_trans Kp88.1 (Nat.le_of_eq ga91.symm)
  have ne92 : a1 ≠ b91 := Nat.ne_of_lt (Nat.lt_of_lt_of_le f78.lt (Nat.le_of_eq ga91.symm))
  have f96 := f78.ext E91
  have f97 := f79.ext E91
  have f98 := f80.ext E91
  have f101 := f83.ext E91
  have f102 := f84.ext E91
  have f103 := f85.ext E91
  have Kp107 := Kp88.ext E91
  have Wk108 : kw2 ≤ h91.size := Nat.le_trans Wk89 E91.1
  show own_H T91 41 #[.val (.ref a1), .val (.ref a2), .val (.ref a3)] [(.ref b91), (.ref a1)]
  clear f78 f79 f80 f81 f82 f83 f84 f85 F77 Kp88 Wk89
  obtain ⟨T110, X110, e110, st110⟩ := castY X91 hx hZ hown (own_u hw 71 rfl) e91 (Ins.self Ex91) (g := (mkF m 41 #[.val (.ref a1), .val (.ref a2), .val (.ref a3)] [(.ref b91), (.ref a1)])) rfl rfl (hb hby own_d1_41)
  refine own_via st110 ?_
  show own_H T110 44 #[.val (.ref a1), .val (.ref a2), .val (.ref a3)] [(.ref b91), (.ref a1)]
  obtain ⟨T111, h111, L111, X111, N111, e111, W111, F111, st111⟩ := own_putF X110 N77 hx hZ hown (own_u hw 73 rfl) e110 f97 f96 (Or.inr ⟨(own_u hw 74 rfl), rfl, hnm⟩) (own_u hw 5 rfl) g_a1 (ty := (.array .int)) (v := (.ref b91)) (by decide) rfl rfl (pc := 44) (Ls := #[.val (.ref a1), .val (.ref a2), .val (.ref a3)]) (rest := []) (hb hby own_d1_44)
  refine own_via st111 ?_
  have f112 := f96.wr W111
  have f113 := f98.other W111 (Or.inr (slot_ne (Or.inr (own_u hw 80 rfl)) (Or.inr (own_u hw 74 rfl)) (by decide) rfl rfl))
  have f116 := f101.wr W111
  have f117 := f102.other W111 (Ne.symm ne3)
  have f118 := f103.other W111 (Or.inr (slot_ne (Or.inr (own_u hw 33 rfl)) (Or.inr (own_u hw 74 rfl)) (by decide) rfl rfl))
  have f122 := V91.other W111 (Ne.symm ne92)
  have Kp124 := Kp107.wr W111 (Or.inl (List.mem_of_getElem? (i := 0) rfl))
  have Wk125 : kw2 ≤ h111.size := by rw [W111.size]; exact Wk108
  show own_H T111 47 #[.val (.ref a1), .val (.ref a2), .val (.ref a3)] []
  clear f96 f97 f98 f101 f102 f103 V91 Ex91 Kp107 Wk108
  refine own_via (fun t k => XS.aloadN X111.here hx rfl (hb hby own_d1_47) rfl rfl k) ?_
  refine own_via (fun t k => XS.aloadN X111.here hx rfl (hb hby own_d1_48) rfl rfl k) ?_
  show own_H T111 49 #[.val (.ref a1), .val (.ref a2), .val (.ref a3)] [(.ref a3), (.ref a1)]
  obtain ⟨b127, T127, h127, s, kw127, X127, e127, E127, S127, Wk127, hZ, hown, st127⟩ := own_ldc S2 Wk125 X111 hx hZ hown (own_u hw 75 rfl) (own_wS hw) e111 (pc := 49) (Ls := #[.val (.ref a1), .val (.ref a2), .val (.ref a3)]) (rest := [(.ref a3), (.ref a1)]) (hb hby own_d1_49) (n := 100) (by decide) (by decide) (by decide) (by decide)
  refine own_via st127 ?_
  have f128 := f112.ext E127
  have f129 := f113.ext E127
  have f132 := f116.ext E127
  have f133 := f117.ext E127
  have f134 := f118.ext E127
  have f138 := f122.ext E127
  have f140 := F111.ext E127
  have Kp141 := Kp124.ext E127
  show own_H T127 51 #[.val (.ref a1), .val (.ref a2), .val (.ref a3)] [(.ref b127), (.ref a3), (.ref a1)]
  clear f112 f113 f116 f117 f118 f122 F111 Kp124
  obtain ⟨T143, X143, e143, st143⟩ := own_callP (y := (⟨"java/util/Objects", "requireNonNull", "(Ljava/lang/Object;Ljava/lang/String;)Ljava/lang/Object;"⟩ : MethodName)) (W := 1) X127 hx hZ hown (own_u hw 76 rfl) (own_u hw 29 rfl) (own_u hw 30 rfl) (own_u hw 31 rfl) (by decide) (own_rn l Z a0 hw [] a3 b127 h127 ) (by decide) (by decide) rfl rfl (by decide) (by decide) e127 (pc := 51) (Ls := #[.val (.ref a1), .val (.ref a2), .val (.ref a3)]) (st := [(.ref b127), (.ref a3), (.ref a1)]) (argsL := [(.ref a3), (.ref b127)]) (rest := [(.ref a1)]) (by rw [hml]; rfl) (lenOf own_pd0 rfl) rfl rfl (Nat.le_of_eq rfl) (hb hby own_d1_51)
  refine own_via st143 ?_
  show own_H T143 54 #[.val (.ref a1), .val (.ref a2), .val (.ref a3)] [(.ref a3), (.ref a1)]
  obtain ⟨T144, X144, e144, st144⟩ := castY X143 hx hZ hown (own_u hw 77 rfl) e143 (Ins.self f132) (g := (mkF m 54 #[.val (.ref a1), .val (.ref a2), .val (.ref a3)] [(.ref a3), (.ref a1)])) rfl rfl (hb hby own_d1_54)
  refine own_via st144 ?_
  show own_H T144 57 #[.val (.ref a1), .val (.ref a2), .val (.ref a3)] [(.ref a3), (.ref a1)]
  obtain ⟨T145, h145, L145, X145, N145, e145, W145, F145, st145⟩ := own_putF X144 N111 hx hZ hown (own_u hw 79 rfl) e144 f129 f128 (Or.inr ⟨(own_u hw 80 rfl), rfl, hnm⟩) (own_u hw 5 rfl) g_a1 (ty := (.object "com/example/skipstitch/skipstitch/Matching")) (v := (.ref a3)) (by decide) rfl rfl (pc := 57) (Ls := #[.val (.ref a1), .val (.ref a2), .val (.ref a3)]) (rest := []) (hb hby own_d1_57)
  refine own_via st145 ?_
  have f146 := f128.wr W145
  have f150 := f133.other W145 (Ne.symm ne3)
  have f151 := f134.other W145 (Or.inr (slot_ne (Or.inr (own_u hw 33 rfl)) (Or.inr (own_u hw 80 rfl)) (by decide) rfl rfl))
  have f155 := f138.other W145 (Ne.symm ne92)
  have f157 := f140.other W145 (Or.inr (slot_ne (Or.inr (own_u hw 74 rfl)) (Or.inr (own_u hw 80 rfl)) (by decide) rfl rfl))
  have Kp158 := Kp141.wr W145 (Or.inl (List.mem_of_getElem? (i := 0) rfl))
  have Wk159 : kw127 ≤ h145.size := by rw [W145.size]; exact Wk127
  show own_H T145 60 #[.val (.ref a1), .val (.ref a2), .val (.ref a3)] []
  clear f128 f129 f132 f133 f134 f138 f140 Kp141 Wk127
  rw [hPw]
  refine own_wide S127 ?_
  exact own_retV X145 hx Bd.returns Bd.notSynchronized (hb hby own_d1_60) (by rw [e145]; exact ⟨⟨N145, b91, x2, k_1, kx2, rfl, Kp158, sz_b91, sz_x2, f146, f157, f151, f155, f150⟩, Wk159⟩) (by decide) (by decide)
theorem own_d11_0 : decode prog_6_method_9_code 0 = .ok (.iload_n 1, 1) := by decide +kernel
theorem own_d11_1 : decode prog_6_method_9_code 1 = .ok (.ifCond .le 23, 3) := by decide +kernel
theorem own_d11_4 : decode prog_6_method_9_code 4 = .ok (.aload_n 0, 1) := by decide +kernel
theorem own_d11_5 : decode prog_6_method_9_code 5 = .ok (.getfield 47, 3) := by decide +kernel
theorem own_d11_8 : decode prog_6_method_9_code 8 = .ok (.iload_n 1, 1) := by decide +kernel
theorem own_d11_9 : decode prog_6_method_9_code 9 = .ok (.iaload, 1) := by decide +kernel
theorem own_d11_10 : decode prog_6_method_9_code 10 = .ok (.iload_n 2, 1) := by decide +kernel
theorem own_d11_11 : decode prog_6_method_9_code 11 = .ok (.if_icmp .eq 13, 3) := by decide +kernel
theorem own_d11_14 : decode prog_6_method_9_code 14 = .ok (.aload_n 0, 1) := by decide +kernel
theorem own_d11_15 : decode prog_6_method_9_code 15 = .ok (.getfield 13, 3) := by decide +kernel
theorem own_d11_18 : decode prog_6_method_9_code 18 = .ok (.iload_n 1, 1) := by decide +kernel
theorem own_d11_19 : decode prog_6_method_9_code 19 = .ok (.iaload, 1) := by decide +kernel
theorem own_d11_20 : decode prog_6_method_9_code 20 = .ok (.istore_n 1, 1) := by decide +kernel
theorem own_d11_21 : decode prog_6_method_9_code 21 = .ok (.goto (-21), 3) := by decide +kernel
theorem own_d11_24 : decode prog_6_method_9_code 24 = .ok (.aload_n 0, 1) := by decide +kernel
theorem own_d11_25 : decode prog_6_method_9_code 25 = .ok (.getfield 47, 3) := by decide +kernel
theorem own_d11_28 : decode prog_6_method_9_code 28 = .ok (.iload_n 1, 1) := by decide +kernel
theorem own_d11_29 : decode prog_6_method_9_code 29 = .ok (.iaload, 1) := by decide +kernel
theorem own_d11_30 : decode prog_6_method_9_code 30 = .ok (.iload_n 2, 1) := by decide +kernel
theorem own_d11_31 : decode prog_6_method_9_code 31 = .ok (.if_icmp .ne 9, 3) := by decide +kernel
theorem own_d11_34 : decode prog_6_method_9_code 34 = .ok (.iload_n 1, 1) := by decide +kernel
theorem own_d11_35 : decode prog_6_method_9_code 35 = .ok (.iconst 1, 1) := by decide +kernel
theorem own_d11_36 : decode prog_6_method_9_code 36 = .ok (.iadd, 1) := by decide +kernel
theorem own_d11_37 : decode prog_6_method_9_code 37 = .ok (.goto 4, 3) := by decide +kernel
theorem own_d11_40 : decode prog_6_method_9_code 40 = .ok (.iconst 0, 1) := by decide +kernel
theorem own_d11_41 : decode prog_6_method_9_code 41 = .ok (.ireturn, 1) := by decide +kernel
abbrev own_sp_R : Room := { frames := 0, cells := 0, slots := 0, locals := 0 }
theorem own_pn11 : plainFor (⟨"com/example/skipstitch/skipstitch/KmpPattern", "step", "(II)I"⟩ : MethodName) = true := plainFor_of_name (by first | (simp [plainName, overriddenIn]; done) | decide +kernel)
theorem own_sp_ef (m : MethodId) (a1 : Addr) (m1 : Int32) (x1 : Int32) : entryFrame m #[(.ref a1), (.int m1), (.int x1)] 3 = mkF m 0 #[.val (.ref a1), .val (.int m1), .val (.int x1)] [] := by first | (simp [entryFrame, mkF, argsToLocals, Value.category]; done) | rfl
set_option maxRecDepth 65536 in
set_option maxHeartbeats 40000000 in
theorem own_sp (l : Launch) (Z : State) (a0 : Array Value) (hw : ∀ d ∈ tables_1, d.before a0 Z = true) (ws : List Jvm.Cond) (a1 : Addr) (m1 : Int32) (x1 : Int32) (x : Addr) (y : Addr) (kx : ClassId) (ky : ClassId) (nn : Int32) (z2 : Int32) (P : List Int32) (FB : List Int32) (h0 : Heap)  (i_Fu : Fld Z h0 a1 own_cK "units" "[I" (.ref x)) (i_Ff : Fld Z h0 a1 own_cK "fallbacks" "[I" (.ref y)) (i_Ax : Arv Z h0 x kx .int nn (P.map Value.int) (.int (0 : Int32))) (i_Ay : Arv Z h0 y ky .int z2 (FB.map Value.int) (.int (0 : Int32))) (hp_hs : own_sok P FB nn z2 3 m1) :
    own_C l Z (⟨"com/example/skipstitch/skipstitch/KmpPattern", "step", "(II)I"⟩ : MethodName) prog_6_method_9_code 3 (some .int) ws own_sp_R #[(.ref a1), (.int m1), (.int x1)] h0 (own_Q (.int (own_st P FB x1 3 m1)) h0) := by
  refine MetFree.of_bodySF own_pn11 hisR ?_
  intro p e s m args below meth c s₁ Bd hml0 hP hK
  obtain ⟨rfl, hZ, hh⟩ := hP
  have hx := Bd.exec
  have hby := Bd.bytes
  have hml : c.maxLocals = 3 := hml0
  have hown : s.vm.findClass "com/example/skipstitch/skipstitch/KmpPattern" = some m.cls := findClass_of_methodNamed Bd.named
  have hnm := (name_of_methodNamed Bd.named Bd.method).1
  have X0 : Stand p l e own_sp_R s m #[(.ref a1), (.int m1), (.int x1)] below meth c s₁ [] 0 0 := Stand.of_body Bd
  have e0 : s₁.heap = h0 := by rw [← hh, Bd.state]; rfl
  show own_G p e below (own_P s (own_Q (.int (own_st P FB x1 3 m1)) h0) own_sp_R.cells own_sp_R.slots) (s₁.setTop (entryFrame m #[(.ref a1), (.int m1), (.int x1)] 3))
  rw [own_sp_ef m a1 m1 x1]
  show own_H s₁ 0 #[.val (.ref a1), .val (.int m1), .val (.int x1)] []
  have J1 : ∀ (f : Nat) (m2 : Int32) (TJ1 : State) (XJ1 : Stand p l e own_sp_R s m #[(.ref a1), (.int m1), (.int x1)] below meth c TJ1 [] 0 0) (eJ1 : TJ1.heap = h0) (hI : own_sok P FB nn z2 f m2) (hE : own_st P FB x1 f m2 = own_st P FB x1 3 m1), own_G p e below (own_P s (own_Q (.int (own_st P FB x1 3 m1)) h0) own_sp_R.cells own_sp_R.slots) (TJ1.setTop (mkF m 0 #[.val (.ref a1), .val (.int m2), .val (.int x1)] [])) := by
    intro f
    induction f with
    | zero =>
      intro m2 TJ1 XJ1 eJ1 hI hE
      have hJ : own_in P m2 nn ∧ ¬ ((0 : Int32) < m2) := hI
      show own_H TJ1 0 #[.val (.ref a1), .val (.int m2), .val (.int x1)] []
      refine own_via (fun t k => XS.iloadN XJ1.here hx rfl (hb hby own_d11_0) rfl k) ?_
      show own_H TJ1 1 #[.val (.ref a1), .val (.int m2), .val (.int x1)] [(.int m2)]
      refine own_via (fun t k => XS.ifYes XJ1.here hx rfl (pc0 := 1) (pc' := 24) rfl (hb hby own_d11_1) rfl ((if0 _ _).trans (flt hJ.2).2.2.2) (by decide) (by decide) k) ?_
      show own_H TJ1 24 #[.val (.ref a1), .val (.int m2), .val (.int x1)] []
      refine own_via (fun t k => XS.aloadN XJ1.here hx rfl (hb hby own_d11_24) rfl rfl k) ?_
      show own_H TJ1 25 #[.val (.ref a1), .val (.int m2), .val (.int x1)] [(.ref a1)]
      obtain ⟨T2, X2, e2, st2⟩ := getF XJ1 hx hZ hown (host := "") (Or.inl (own_u hw 73 rfl)) Via.refl eJ1 i_Fu (g := (mkF m 25 #[.val (.ref a1), .val (.int m2), .val (.int x1)] [(.ref a1)])) rfl rfl (hb hby own_d11_25)
      refine own_via st2 ?_
      show own_H T2 28 #[.val (.ref a1), .val (.int m2), .val (.int x1)] [(.ref x)]
      refine own_via (fun t k => XS.iloadN X2.here hx rfl (hb hby own_d11_28) rfl k) ?_
      show own_H T2 29 #[.val (.ref a1), .val (.int m2), .val (.int x1)] [(.int m2), (.ref x)]
      refine own_via (own_ldS (L := P) X2 hx hZ e2 i_Ax (j := m2) hJ.1.1 (pc := 29) (Ls := #[.val (.ref a1), .val (.int m2), .val (.int x1)]) (rest := []) (hb hby own_d11_29)) ?_
      show own_H T2 30 #[.val (.ref a1), .val (.int m2), .val (.int x1)] [(.int (own_get P m2))]
      refine own_via (fun t k => XS.iloadN X2.here hx rfl (hb hby own_d11_30) rfl k) ?_
      show own_H T2 31 #[.val (.ref a1), .val (.int m2), .val (.int x1)] [(.int x1), (.int (own_get P m2))]
      by_cases hc3 : (own_get P m2) = x1
      ·
        refine own_via (fun t k => XS.icmpNo X2.here hx rfl (hb hby own_d11_31) rfl (teq hc3).2 k) ?_
        show own_H T2 34 #[.val (.ref a1), .val (.int m2), .val (.int x1)] []
        refine own_via (fun t k => XS.iloadN X2.here hx rfl (hb hby own_d11_34) rfl k) ?_
        refine own_via (fun t k => XS.iconst X2.here hx rfl (hb hby own_d11_35) k) ?_
        show own_H T2 36 #[.val (.ref a1), .val (.int m2), .val (.int x1)] [(.int (1 : Int32)), (.int m2)]
        refine own_via (fun t k => XS.iadd X2.here hx rfl (hb hby own_d11_36) rfl k) ?_
        show own_H T2 37 #[.val (.ref a1), .val (.int m2), .val (.int x1)] [(.int (m2 + (1 : Int32)))]
        refine own_via (fun t k => XS.goto X2.here hx rfl (pc0 := 37) (pc' := 41) rfl (hb hby own_d11_37) (by decide) (by decide) k) ?_
        show own_H T2 41 #[.val (.ref a1), .val (.int m2), .val (.int x1)] [(.int (m2 + (1 : Int32)))]
        exact own_retI X2 hx Bd.returns Bd.notSynchronized (hb hby own_d11_41) ⟨(by rw [← hE]; simp only [own_st, if_neg hJ.2, if_pos hc3]), rfl, e2⟩ (by decide) (by decide)
      ·
        refine own_via (fun t k => XS.icmpYes X2.here hx rfl (pc0 := 31) (pc' := 40) rfl (hb hby own_d11_31) rfl (feq hc3).2 (by decide) (by decide) k) ?_
        show own_H T2 40 #[.val (.ref a1), .val (.int m2), .val (.int x1)] []
        refine own_via (fun t k => XS.iconst X2.here hx rfl (hb hby own_d11_40) k) ?_
        show own_H T2 41 #[.val (.ref a1), .val (.int m2), .val (.int x1)] [(.int (0 : Int32))]
        exact own_retI X2 hx Bd.returns Bd.notSynchronized (hb hby own_d11_41) ⟨(by rw [← hE]; simp only [own_st, if_neg hJ.2, if_neg hc3]), rfl, e2⟩ (by decide) (by decide)
    | succ f ih =>
      intro m2 TJ1 XJ1 eJ1 hI hE
      have hJ : own_in P m2 nn ∧ ((0 : Int32) < m2 → own_in FB m2 z2 ∧ own_sok P FB nn z2 f (own_get FB m2)) := hI
      show own_H TJ1 0 #[.val (.ref a1), .val (.int m2), .val (.int x1)] []
      refine own_via (fun t k => XS.iloadN XJ1.here hx rfl (hb hby own_d11_0) rfl k) ?_
      show own_H TJ1 1 #[.val (.ref a1), .val (.int m2), .val (.int x1)] [(.int m2)]
      by_cases hc4 : (0 : Int32) < m2
      ·
        refine own_via (fun t k => XS.ifNo XJ1.here hx rfl (hb hby own_d11_1) rfl ((if0 _ _).trans (tlt hc4).2.2.2) k) ?_
        show own_H TJ1 4 #[.val (.ref a1), .val (.int m2), .val (.int x1)] []
        refine own_via (fun t k => XS.aloadN XJ1.here hx rfl (hb hby own_d11_4) rfl rfl k) ?_
        show own_H TJ1 5 #[.val (.ref a1), .val (.int m2), .val (.int x1)] [(.ref a1)]
        obtain ⟨T5, X5, e5, st5⟩ := getF XJ1 hx hZ hown (host := "") (Or.inl (own_u hw 73 rfl)) Via.refl eJ1 i_Fu (g := (mkF m 5 #[.val (.ref a1), .val (.int m2), .val (.int x1)] [(.ref a1)])) rfl rfl (hb hby own_d11_5)
        refine own_via st5 ?_
        show own_H T5 8 #[.val (.ref a1), .val (.int m2), .val (.int x1)] [(.ref x)]
        refine own_via (fun t k => XS.iloadN X5.here hx rfl (hb hby own_d11_8) rfl k) ?_
        show own_H T5 9 #[.val (.ref a1), .val (.int m2), .val (.int x1)] [(.int m2), (.ref x)]
        refine own_via (own_ldS (L := P) X5 hx hZ e5 i_Ax (j := m2) hJ.1.1 (pc := 9) (Ls := #[.val (.ref a1), .val (.int m2), .val (.int x1)]) (rest := []) (hb hby own_d11_9)) ?_
        show own_H T5 10 #[.val (.ref a1), .val (.int m2), .val (.int x1)] [(.int (own_get P m2))]
        refine own_via (fun t k => XS.iloadN X5.here hx rfl (hb hby own_d11_10) rfl k) ?_
        show own_H T5 11 #[.val (.ref a1), .val (.int m2), .val (.int x1)] [(.int x1), (.int (own_get P m2))]
        by_cases hc6 : (own_get P m2) = x1
        ·
          refine own_via (fun t k => XS.icmpYes X5.here hx rfl (pc0 := 11) (pc' := 24) rfl (hb hby own_d11_11) rfl (teq hc6).1 (by decide) (by decide) k) ?_
          show own_H T5 24 #[.val (.ref a1), .val (.int m2), .val (.int x1)] []
          refine own_via (fun t k => XS.aloadN X5.here hx rfl (hb hby own_d11_24) rfl rfl k) ?_
          show own_H T5 25 #[.val (.ref a1), .val (.int m2), .val (.int x1)] [(.ref a1)]
          obtain ⟨T7, X7, e7, st7⟩ := getF X5 hx hZ hown (host := "") (Or.inl (own_u hw 73 rfl)) Via.refl e5 i_Fu (g := (mkF m 25 #[.val (.ref a1), .val (.int m2), .val (.int x1)] [(.ref a1)])) rfl rfl (hb hby own_d11_25)
          refine own_via st7 ?_
          show own_H T7 28 #[.val (.ref a1), .val (.int m2), .val (.int x1)] [(.ref x)]
          refine own_via (fun t k => XS.iloadN X7.here hx rfl (hb hby own_d11_28) rfl k) ?_
          show own_H T7 29 #[.val (.ref a1), .val (.int m2), .val (.int x1)] [(.int m2), (.ref x)]
          refine own_via (own_ldS (L := P) X7 hx hZ e7 i_Ax (j := m2) hJ.1.1 (pc := 29) (Ls := #[.val (.ref a1), .val (.int m2), .val (.int x1)]) (rest := []) (hb hby own_d11_29)) ?_
          show own_H T7 30 #[.val (.ref a1), .val (.int m2), .val (.int x1)] [(.int (own_get P m2))]
          refine own_via (fun t k => XS.iloadN X7.here hx rfl (hb hby own_d11_30) rfl k) ?_
          show own_H T7 31 #[.val (.ref a1), .val (.int m2), .val (.int x1)] [(.int x1), (.int (own_get P m2))]
          refine own_via (fun t k => XS.icmpNo X7.here hx rfl (hb hby own_d11_31) rfl (teq hc6).2 k) ?_
          show own_H T7 34 #[.val (.ref a1), .val (.int m2), .val (.int x1)] []
          refine own_via (fun t k => XS.iloadN X7.here hx rfl (hb hby own_d11_34) rfl k) ?_
          refine own_via (fun t k => XS.iconst X7.here hx rfl (hb hby own_d11_35) k) ?_
          show own_H T7 36 #[.val (.ref a1), .val (.int m2), .val (.int x1)] [(.int (1 : Int32)), (.int m2)]
          refine own_via (fun t k => XS.iadd X7.here hx rfl (hb hby own_d11_36) rfl k) ?_
          show own_H T7 37 #[.val (.ref a1), .val (.int m2), .val (.int x1)] [(.int (m2 + (1 : Int32)))]
          refine own_via (fun t k => XS.goto X7.here hx rfl (pc0 := 37) (pc' := 41) rfl (hb hby own_d11_37) (by decide) (by decide) k) ?_
          show own_H T7 41 #[.val (.ref a1), .val (.int m2), .val (.int x1)] [(.int (m2 + (1 : Int32)))]
          exact own_retI X7 hx Bd.returns Bd.notSynchronized (hb hby own_d11_41) ⟨(by rw [← hE]; simp only [own_st, if_pos hc4, if_pos hc6]), rfl, e7⟩ (by decide) (by decide)
        ·
          refine own_via (fun t k => XS.icmpNo X5.here hx rfl (hb hby own_d11_11) rfl (feq hc6).1 k) ?_
          show own_H T5 14 #[.val (.ref a1), .val (.int m2), .val (.int x1)] []
          refine own_via (fun t k => XS.aloadN X5.here hx rfl (hb hby own_d11_14) rfl rfl k) ?_
          show own_H T5 15 #[.val (.ref a1), .val (.int m2), .val (.int x1)] [(.ref a1)]
          obtain ⟨T8, X8, e8, st8⟩ := getF X5 hx hZ hown (host := "") (Or.inl (own_u hw 32 rfl)) Via.refl e5 i_Ff (g := (mkF m 15 #[.val (.ref a1), .val (.int m2), .val (.int x1)] [(.ref a1)])) rfl rfl (hb hby own_d11_15)
          refine own_via st8 ?_
          show own_H T8 18 #[.val (.ref a1), .val (.int m2), .val (.int x1)] [(.ref y)]
          refine own_via (fun t k => XS.iloadN X8.here hx rfl (hb hby own_d11_18) rfl k) ?_
          show own_H T8 19 #[.val (.ref a1), .val (.int m2), .val (.int x1)] [(.int m2), (.ref y)]
          refine own_via (own_ldS (L := FB) X8 hx hZ e8 i_Ay (j := m2) (hJ.2 hc4).1.1 (pc := 19) (Ls := #[.val (.ref a1), .val (.int m2), .val (.int x1)]) (rest := []) (hb hby own_d11_19)) ?_
          show own_H T8 20 #[.val (.ref a1), .val (.int m2), .val (.int x1)] [(.int (own_get FB m2))]
          refine own_via (fun t k => XS.istoreN X8.here hx rfl (hb hby own_d11_20) rfl (l' := #[.val (.ref a1), .val (.int (own_get FB m2)), .val (.int x1)]) rfl k) ?_
          show own_H T8 21 #[.val (.ref a1), .val (.int (own_get FB m2)), .val (.int x1)] []
          refine own_via (fun t k => XS.goto X8.here hx rfl (pc0 := 21) (pc' := 0) rfl (hb hby own_d11_21) (by decide) (by decide) k) ?_
          show own_H T8 0 #[.val (.ref a1), .val (.int (own_get FB m2)), .val (.int x1)] []
          exact ih  (own_get FB m2) _ X8 e8 (hJ.2 hc4).2 (by rw [← hE]; simp only [own_st, if_pos hc4, if_neg hc6])
      ·
        refine own_via (fun t k => XS.ifYes XJ1.here hx rfl (pc0 := 1) (pc' := 24) rfl (hb hby own_d11_1) rfl ((if0 _ _).trans (flt hc4).2.2.2) (by decide) (by decide) k) ?_
        show own_H TJ1 24 #[.val (.ref a1), .val (.int m2), .val (.int x1)] []
        refine own_via (fun t k => XS.aloadN XJ1.here hx rfl (hb hby own_d11_24) rfl rfl k) ?_
        show own_H TJ1 25 #[.val (.ref a1), .val (.int m2), .val (.int x1)] [(.ref a1)]
        obtain ⟨T9, X9, e9, st9⟩ := getF XJ1 hx hZ hown (host := "") (Or.inl (own_u hw 73 rfl)) Via.refl eJ1 i_Fu (g := (mkF m 25 #[.val (.ref a1), .val (.int m2), .val (.int x1)] [(.ref a1)])) rfl rfl (hb hby own_d11_25)
        refine own_via st9 ?_
        show own_H T9 28 #[.val (.ref a1), .val (.int m2), .val (.int x1)] [(.ref x)]
        refine own_via (fun t k => XS.iloadN X9.here hx rfl (hb hby own_d11_28) rfl k) ?_
        show own_H T9 29 #[.val (.ref a1), .val (.int m2), .val (.int x1)] [(.int m2), (.ref x)]
        refine own_via (own_ldS (L := P) X9 hx hZ e9 i_Ax (j := m2) hJ.1.1 (pc := 29) (Ls := #[.val (.ref a1), .val (.int m2), .val (.int x1)]) (rest := []) (hb hby own_d11_29)) ?_
        show own_H T9 30 #[.val (.ref a1), .val (.int m2), .val (.int x1)] [(.int (own_get P m2))]
        refine own_via (fun t k => XS.iloadN X9.here hx rfl (hb hby own_d11_30) rfl k) ?_
        show own_H T9 31 #[.val (.ref a1), .val (.int m2), .val (.int x1)] [(.int x1), (.int (own_get P m2))]
        by_cases hc10 : (own_get P m2) = x1
        ·
          refine own_via (fun t k => XS.icmpNo X9.here hx rfl (hb hby own_d11_31) rfl (teq hc10).2 k) ?_
          show own_H T9 34 #[.val (.ref a1), .val (.int m2), .val (.int x1)] []
          refine own_via (fun t k => XS.iloadN X9.here hx rfl (hb hby own_d11_34) rfl k) ?_
          refine own_via (fun t k => XS.iconst X9.here hx rfl (hb hby own_d11_35) k) ?_
          show own_H T9 36 #[.val (.ref a1), .val (.int m2), .val (.int x1)] [(.int (1 : Int32)), (.int m2)]
          refine own_via (fun t k => XS.iadd X9.here hx rfl (hb hby own_d11_36) rfl k) ?_
          show own_H T9 37 #[.val (.ref a1), .val (.int m2), .val (.int x1)] [(.int (m2 + (1 : Int32)))]
          refine own_via (fun t k => XS.goto X9.here hx rfl (pc0 := 37) (pc' := 41) rfl (hb hby own_d11_37) (by decide) (by decide) k) ?_
          show own_H T9 41 #[.val (.ref a1), .val (.int m2), .val (.int x1)] [(.int (m2 + (1 : Int32)))]
          exact own_retI X9 hx Bd.returns Bd.notSynchronized (hb hby own_d11_41) ⟨(by rw [← hE]; simp only [own_st, if_neg hc4, if_pos hc10]), rfl, e9⟩ (by decide) (by decide)
        ·
          refine own_via (fun t k => XS.icmpYes X9.here hx rfl (pc0 := 31) (pc' := 40) rfl (hb hby own_d11_31) rfl (feq hc10).2 (by decide) (by decide) k) ?_
          show own_H T9 40 #[.val (.ref a1), .val (.int m2), .val (.int x1)] []
          refine own_via (fun t k => XS.iconst X9.here hx rfl (hb hby own_d11_40) k) ?_
          show own_H T9 41 #[.val (.ref a1), .val (.int m2), .val (.int x1)] [(.int (0 : Int32))]
          exact own_retI X9 hx Bd.returns Bd.notSynchronized (hb hby own_d11_41) ⟨(by rw [← hE]; simp only [own_st, if_neg hc4, if_neg hc10]), rfl, e9⟩ (by decide) (by decide)
  exact J1 3 m1 _ X0 e0 hp_hs rfl
theorem own_d13_0 : decode method_2_code 0 = .ok (.iload_n 3, 1) := by decide +kernel
theorem own_d13_1 : decode method_2_code 1 = .ok (.iload_n 1, 1) := by decide +kernel
theorem own_d13_2 : decode method_2_code 2 = .ok (.if_icmp .ge 9, 3) := by decide +kernel
theorem own_d13_5 : decode method_2_code 5 = .ok (.aload_n 0, 1) := by decide +kernel
theorem own_d13_6 : decode method_2_code 6 = .ok (.iload_n 3, 1) := by decide +kernel
theorem own_d13_7 : decode method_2_code 7 = .ok (.iaload, 1) := by decide +kernel
theorem own_d13_8 : decode method_2_code 8 = .ok (.goto 4, 3) := by decide +kernel
theorem own_d13_11 : decode method_2_code 11 = .ok (.iload_n 2, 1) := by decide +kernel
theorem own_d13_12 : decode method_2_code 12 = .ok (.ireturn, 1) := by decide +kernel
abbrev own_at_R : Room := { frames := 0, cells := 0, slots := 0, locals := 0 }
theorem own_pn13 : plainFor (⟨"com/example/skipstitch/skipstitch/KmpPatternStepPinLaw", "at", "([IIII)I"⟩ : MethodName) = true := plainFor_of_name (by first | (simp [plainName, overriddenIn]; done) | decide +kernel)
theorem own_at_ef (m : MethodId) (a1 : Addr) (m1 : Int32) (x1 : Int32) (j1 : Int32) : entryFrame m #[(.ref a1), (.int m1), (.int x1), (.int j1)] 4 = mkF m 0 #[.val (.ref a1), .val (.int m1), .val (.int x1), .val (.int j1)] [] := by first | (simp [entryFrame, mkF, argsToLocals, Value.category]; done) | rfl
def own_Fat (P : List Int32) (m1 : Int32) (x1 : Int32) (j1 : Int32) : Int32 := (if j1 < m1 then (own_get P j1) else x1)
set_option maxRecDepth 65536 in
set_option maxHeartbeats 40000000 in
theorem own_at (l : Launch) (Z : State) (a0 : Array Value) (hw : ∀ d ∈ tables_1, d.before a0 Z = true) (ws : List Jvm.Cond) (a1 : Addr) (m1 : Int32) (x1 : Int32) (j1 : Int32) (k_1 : ClassId) (nn : Int32) (P : List Int32) (h0 : Heap)  (i_A1 : Arv Z h0 a1 k_1 .int nn (P.map Value.int) (.int (0 : Int32))) (hp_hj : j1 < m1 → own_in P j1 nn) :
    own_C l Z (⟨"com/example/skipstitch/skipstitch/KmpPatternStepPinLaw", "at", "([IIII)I"⟩ : MethodName) method_2_code 4 (some .int) ws own_at_R #[(.ref a1), (.int m1), (.int x1), (.int j1)] h0 (own_Q (.int (own_Fat P m1 x1 j1)) h0) := by
  refine MetFree.of_bodySF own_pn13 hisR ?_
  intro p e s m args below meth c s₁ Bd hml0 hP hK
  obtain ⟨rfl, hZ, hh⟩ := hP
  have hx := Bd.exec
  have hby := Bd.bytes
  have hml : c.maxLocals = 4 := hml0
  have hown : s.vm.findClass "com/example/skipstitch/skipstitch/KmpPatternStepPinLaw" = some m.cls := findClass_of_methodNamed Bd.named
  have hnm := (name_of_methodNamed Bd.named Bd.method).1
  have X0 : Stand p l e own_at_R s m #[(.ref a1), (.int m1), (.int x1), (.int j1)] below meth c s₁ [] 0 0 := Stand.of_body Bd
  have e0 : s₁.heap = h0 := by rw [← hh, Bd.state]; rfl
  show own_G p e below (own_P s (own_Q (.int (own_Fat P m1 x1 j1)) h0) own_at_R.cells own_at_R.slots) (s₁.setTop (entryFrame m #[(.ref a1), (.int m1), (.int x1), (.int j1)] 4))
  rw [own_at_ef m a1 m1 x1 j1]
  show own_H s₁ 0 #[.val (.ref a1), .val (.int m1), .val (.int x1), .val (.int j1)] []
  refine own_via (fun t k => XS.iloadN X0.here hx rfl (hb hby own_d13_0) rfl k) ?_
  refine own_via (fun t k => XS.iloadN X0.here hx rfl (hb hby own_d13_1) rfl k) ?_
  show own_H s₁ 2 #[.val (.ref a1), .val (.int m1), .val (.int x1), .val (.int j1)] [(.int m1), (.int j1)]
  by_cases hc1 : j1 < m1
  ·
    refine own_via (fun t k => XS.icmpNo X0.here hx rfl (hb hby own_d13_2) rfl (tlt hc1).2.1 k) ?_
    show own_H s₁ 5 #[.val (.ref a1), .val (.int m1), .val (.int x1), .val (.int j1)] []
    refine own_via (fun t k => XS.aloadN X0.here hx rfl (hb hby own_d13_5) rfl rfl k) ?_
    refine own_via (fun t k => XS.iloadN X0.here hx rfl (hb hby own_d13_6) rfl k) ?_
    show own_H s₁ 7 #[.val (.ref a1), .val (.int m1), .val (.int x1), .val (.int j1)] [(.int j1), (.ref a1)]
    refine own_via (own_ldS (L := P) X0 hx hZ e0 i_A1 (j := j1) (hp_hj hc1).1 (pc := 7) (Ls := #[.val (.ref a1), .val (.int m1), .val (.int x1), .val (.int j1)]) (rest := []) (hb hby own_d13_7)) ?_
    show own_H s₁ 8 #[.val (.ref a1), .val (.int m1), .val (.int x1), .val (.int j1)] [(.int (own_get P j1))]
    refine own_via (fun t k => XS.goto X0.here hx rfl (pc0 := 8) (pc' := 12) rfl (hb hby own_d13_8) (by decide) (by decide) k) ?_
    show own_H s₁ 12 #[.val (.ref a1), .val (.int m1), .val (.int x1), .val (.int j1)] [(.int (own_get P j1))]
    exact own_retI X0 hx Bd.returns Bd.notSynchronized (hb hby own_d13_12) ⟨(by show (some (.int (own_get P j1)) : Option Value) = some (.int (own_Fat P m1 x1 j1)); simp only [own_Fat, if_pos hp_hj, if_pos hc1]), rfl, e0⟩ (by decide) (by decide)
  ·
    refine own_via (fun t k => XS.icmpYes X0.here hx rfl (pc0 := 2) (pc' := 11) rfl (hb hby own_d13_2) rfl (flt hc1).2.1 (by decide) (by decide) k) ?_
    show own_H s₁ 11 #[.val (.ref a1), .val (.int m1), .val (.int x1), .val (.int j1)] []
    refine own_via (fun t k => XS.iloadN X0.here hx rfl (hb hby own_d13_11) rfl k) ?_
    show own_H s₁ 12 #[.val (.ref a1), .val (.int m1), .val (.int x1), .val (.int j1)] [(.int x1)]
    exact own_retI X0 hx Bd.returns Bd.notSynchronized (hb hby own_d13_12) ⟨(by show (some (.int x1) : Option Value) = some (.int (own_Fat P m1 x1 j1)); simp only [own_Fat, if_pos hp_hj, if_neg hc1]), rfl, e0⟩ (by decide) (by decide)
theorem own_d12_0 : decode method_3_code 0 = .ok (.iconst 1, 1) := by decide +kernel
theorem own_d12_1 : decode method_3_code 1 = .ok (.istore 4, 2) := by decide +kernel
theorem own_d12_3 : decode method_3_code 3 = .ok (.iload_n 3, 1) := by decide +kernel
theorem own_d12_4 : decode method_3_code 4 = .ok (.iconst 1, 1) := by decide +kernel
theorem own_d12_5 : decode method_3_code 5 = .ok (.if_icmp .lt 32, 3) := by decide +kernel
theorem own_d12_8 : decode method_3_code 8 = .ok (.iload 4, 2) := by decide +kernel
theorem own_d12_10 : decode method_3_code 10 = .ok (.ifCond .eq 24, 3) := by decide +kernel
theorem own_d12_13 : decode method_3_code 13 = .ok (.aload_n 0, 1) := by decide +kernel
theorem own_d12_14 : decode method_3_code 14 = .ok (.iconst 0, 1) := by decide +kernel
theorem own_d12_15 : decode method_3_code 15 = .ok (.iaload, 1) := by decide +kernel
theorem own_d12_16 : decode method_3_code 16 = .ok (.aload_n 0, 1) := by decide +kernel
theorem own_d12_17 : decode method_3_code 17 = .ok (.iload_n 1, 1) := by decide +kernel
theorem own_d12_18 : decode method_3_code 18 = .ok (.iload_n 2, 1) := by decide +kernel
theorem own_d12_19 : decode method_3_code 19 = .ok (.iload_n 1, 1) := by decide +kernel
theorem own_d12_20 : decode method_3_code 20 = .ok (.iconst 1, 1) := by decide +kernel
theorem own_d12_21 : decode method_3_code 21 = .ok (.iadd, 1) := by decide +kernel
theorem own_d12_22 : decode method_3_code 22 = .ok (.iload_n 3, 1) := by decide +kernel
theorem own_d12_23 : decode method_3_code 23 = .ok (.isub, 1) := by decide +kernel
theorem own_d12_24 : decode method_3_code 24 = .ok (.invokestatic 7, 3) := by decide +kernel
theorem own_d12_27 : decode method_3_code 27 = .ok (.if_icmp .ne 7, 3) := by decide +kernel
theorem own_d12_30 : decode method_3_code 30 = .ok (.iconst 1, 1) := by decide +kernel
theorem own_d12_31 : decode method_3_code 31 = .ok (.goto 4, 3) := by decide +kernel
theorem own_d12_34 : decode method_3_code 34 = .ok (.iconst 0, 1) := by decide +kernel
theorem own_d12_35 : decode method_3_code 35 = .ok (.istore 4, 2) := by decide +kernel
theorem own_d12_37 : decode method_3_code 37 = .ok (.iload_n 3, 1) := by decide +kernel
theorem own_d12_38 : decode method_3_code 38 = .ok (.iconst 2, 1) := by decide +kernel
theorem own_d12_39 : decode method_3_code 39 = .ok (.if_icmp .lt 32, 3) := by decide +kernel
theorem own_d12_71 : decode method_3_code 71 = .ok (.iload_n 3, 1) := by decide +kernel
theorem own_d12_72 : decode method_3_code 72 = .ok (.iconst 3, 1) := by decide +kernel
theorem own_d12_73 : decode method_3_code 73 = .ok (.if_icmp .lt 32, 3) := by decide +kernel
theorem own_d12_105 : decode method_3_code 105 = .ok (.iload_n 3, 1) := by decide +kernel
theorem own_d12_106 : decode method_3_code 106 = .ok (.iconst 4, 1) := by decide +kernel
theorem own_d12_107 : decode method_3_code 107 = .ok (.if_icmp .lt 32, 3) := by decide +kernel
theorem own_d12_139 : decode method_3_code 139 = .ok (.iload 4, 2) := by decide +kernel
theorem own_d12_141 : decode method_3_code 141 = .ok (.ireturn, 1) := by decide +kernel
abbrev own_ib1_R : Room := { frames := 1, cells := 0, slots := 0, locals := 16 }
theorem own_pn12 : plainFor (⟨"com/example/skipstitch/skipstitch/KmpPatternStepPinLaw", "isBorder", "([IIII)Z"⟩ : MethodName) = true := plainFor_of_name (by first | (simp [plainName, overriddenIn]; done) | decide +kernel)
theorem own_ib1_ef (m : MethodId) (a1 : Addr) (m1 : Int32) (x1 : Int32) : entryFrame m #[(.ref a1), (.int m1), (.int x1), (.int (1 : Int32))] 5 = mkF m 0 #[.val (.ref a1), .val (.int m1), .val (.int x1), .val (.int (1 : Int32)), .unset] [] := by first | (simp [entryFrame, mkF, argsToLocals, Value.category]; done) | rfl
def own_Fb1 (P : List Int32) (m1 : Int32) (x1 : Int32) : Int32 := (let zj3 : Int32 := (if (own_get P (0 : Int32)) = (own_Fat P m1 x1 ((m1 + (1 : Int32)) - (1 : Int32))) then (1 : Int32) else (0 : Int32)); (nar .boolean zj3))
set_option maxRecDepth 65536 in
set_option maxHeartbeats 40000000 in
theorem own_ib1 (l : Launch) (Z : State) (a0 : Array Value) (hw : ∀ d ∈ tables_1, d.before a0 Z = true) (ws : List Jvm.Cond) (a1 : Addr) (m1 : Int32) (x1 : Int32) (k_1 : ClassId) (nn : Int32) (P : List Int32) (h0 : Heap)  (i_A1 : Arv Z h0 a1 k_1 .int nn (P.map Value.int) (.int (0 : Int32))) (hp_i0 : own_in P (0 : Int32) nn) (hp_a0 : ((m1 + (1 : Int32)) - (1 : Int32)) < m1 → own_in P ((m1 + (1 : Int32)) - (1 : Int32)) nn) :
    own_C l Z (⟨"com/example/skipstitch/skipstitch/KmpPatternStepPinLaw", "isBorder", "([IIII)Z"⟩ : MethodName) method_3_code 5 (some .boolean) ws own_ib1_R #[(.ref a1), (.int m1), (.int x1), (.int (1 : Int32))] h0 (own_Q (.int (own_Fb1 P m1 x1)) h0) := by
  refine MetFree.of_bodySF own_pn12 hisR ?_
  intro p e s m args below meth c s₁ Bd hml0 hP hK
  obtain ⟨rfl, hZ, hh⟩ := hP
  have hx := Bd.exec
  have hby := Bd.bytes
  have hml : c.maxLocals = 5 := hml0
  have hown : s.vm.findClass "com/example/skipstitch/skipstitch/KmpPatternStepPinLaw" = some m.cls := findClass_of_methodNamed Bd.named
  have hnm := (name_of_methodNamed Bd.named Bd.method).1
  have X0 : Stand p l e own_ib1_R s m #[(.ref a1), (.int m1), (.int x1), (.int (1 : Int32))] below meth c s₁ [] 0 0 := Stand.of_body Bd
  have e0 : s₁.heap = h0 := by rw [← hh, Bd.state]; rfl
  show own_G p e below (own_P s (own_Q (.int (own_Fb1 P m1 x1)) h0) own_ib1_R.cells own_ib1_R.slots) (s₁.setTop (entryFrame m #[(.ref a1), (.int m1), (.int x1), (.int (1 : Int32))] 5))
  rw [own_ib1_ef m a1 m1 x1]
  show own_H s₁ 0 #[.val (.ref a1), .val (.int m1), .val (.int x1), .val (.int (1 : Int32)), .unset] []
  refine own_via (fun t k => XS.iconst X0.here hx rfl (hb hby own_d12_0) k) ?_
  show own_H s₁ 1 #[.val (.ref a1), .val (.int m1), .val (.int x1), .val (.int (1 : Int32)), .unset] [(.int (1 : Int32))]
  refine own_via (fun t k => XS.istore X0.here hx rfl (hb hby own_d12_1) rfl (l' := #[.val (.ref a1), .val (.int m1), .val (.int x1), .val (.int (1 : Int32)), .val (.int (1 : Int32))]) rfl k) ?_
  refine own_via (fun t k => XS.iloadN X0.here hx rfl (hb hby own_d12_3) rfl k) ?_
  refine own_via (fun t k => XS.iconst X0.here hx rfl (hb hby own_d12_4) k) ?_
  show own_H s₁ 5 #[.val (.ref a1), .val (.int m1), .val (.int x1), .val (.int (1 : Int32)), .val (.int (1 : Int32))] [(.int (1 : Int32)), (.int (1 : Int32))]
  refine own_via (fun t k => XS.icmpNo X0.here hx rfl (hb hby own_d12_5) rfl (flt (by decide : ¬ ((1 : Int32) < (1 : Int32)))).1 k) ?_
  show own_H s₁ 8 #[.val (.ref a1), .val (.int m1), .val (.int x1), .val (.int (1 : Int32)), .val (.int (1 : Int32))] []
  refine own_via (fun t k => XS.iload X0.here hx rfl (hb hby own_d12_8) rfl k) ?_
  show own_H s₁ 10 #[.val (.ref a1), .val (.int m1), .val (.int x1), .val (.int (1 : Int32)), .val (.int (1 : Int32))] [(.int (1 : Int32))]
  refine own_via (fun t k => XS.ifNo X0.here hx rfl (hb hby own_d12_10) rfl ((if0 _ _).trans (feq (by decide : ¬ ((1 : Int32) = (0 : Int32)))).1) k) ?_
  show own_H s₁ 13 #[.val (.ref a1), .val (.int m1), .val (.int x1), .val (.int (1 : Int32)), .val (.int (1 : Int32))] []
  refine own_via (fun t k => XS.aloadN X0.here hx rfl (hb hby own_d12_13) rfl rfl k) ?_
  refine own_via (fun t k => XS.iconst X0.here hx rfl (hb hby own_d12_14) k) ?_
  show own_H s₁ 15 #[.val (.ref a1), .val (.int m1), .val (.int x1), .val (.int (1 : Int32)), .val (.int (1 : Int32))] [(.int (0 : Int32)), (.ref a1)]
  refine own_via (own_ldS (L := P) X0 hx hZ e0 i_A1 (j := (0 : Int32)) hp_i0.1 (pc := 15) (Ls := #[.val (.ref a1), .val (.int m1), .val (.int x1), .val (.int (1 : Int32)), .val (.int (1 : Int32))]) (rest := []) (hb hby own_d12_15)) ?_
  show own_H s₁ 16 #[.val (.ref a1), .val (.int m1), .val (.int x1), .val (.int (1 : Int32)), .val (.int (1 : Int32))] [(.int (own_get P (0 : Int32)))]
  refine own_via (fun t k => XS.aloadN X0.here hx rfl (hb hby own_d12_16) rfl rfl k) ?_
  refine own_via (fun t k => XS.iloadN X0.here hx rfl (hb hby own_d12_17) rfl k) ?_
  refine own_via (fun t k => XS.iloadN X0.here hx rfl (hb hby own_d12_18) rfl k) ?_
  refine own_via (fun t k => XS.iloadN X0.here hx rfl (hb hby own_d12_19) rfl k) ?_
  refine own_via (fun t k => XS.iconst X0.here hx rfl (hb hby own_d12_20) k) ?_
  show own_H s₁ 21 #[.val (.ref a1), .val (.int m1), .val (.int x1), .val (.int (1 : Int32)), .val (.int (1 : Int32))] [(.int (1 : Int32)), (.int m1), (.int x1), (.int m1), (.ref a1), (.int (own_get P (0 : Int32)))]
  refine own_via (fun t k => XS.iadd X0.here hx rfl (hb hby own_d12_21) rfl k) ?_
  refine own_via (fun t k => XS.iloadN X0.here hx rfl (hb hby own_d12_22) rfl k) ?_
  show own_H s₁ 23 #[.val (.ref a1), .val (.int m1), .val (.int x1), .val (.int (1 : Int32)), .val (.int (1 : Int32))] [(.int (1 : Int32)), (.int (m1 + (1 : Int32))), (.int x1), (.int m1), (.ref a1), (.int (own_get P (0 : Int32)))]
  refine own_via (fun t k => XS.isub X0.here hx rfl (hb hby own_d12_23) rfl k) ?_
  show own_H s₁ 24 #[.val (.ref a1), .val (.int m1), .val (.int x1), .val (.int (1 : Int32)), .val (.int (1 : Int32))] [(.int ((m1 + (1 : Int32)) - (1 : Int32))), (.int x1), (.int m1), (.ref a1), (.int (own_get P (0 : Int32)))]
  obtain ⟨T1, X1, e1, st1⟩ := own_callP (y := (⟨"com/example/skipstitch/skipstitch/KmpPatternStepPinLaw", "at", "([IIII)I"⟩ : MethodName)) (W := 1) X0 hx hZ hown (own_u hw 90 rfl) (own_u hw 91 rfl) (own_u hw 88 rfl) (own_u hw 92 rfl) (by decide) (own_at l Z a0 hw [] a1 m1 x1 ((m1 + (1 : Int32)) - (1 : Int32)) k_1 nn P h0 i_A1 hp_a0) (by decide) (by decide) rfl rfl (by decide) (by decide) e0 (pc := 24) (Ls := #[.val (.ref a1), .val (.int m1), .val (.int x1), .val (.int (1 : Int32)), .val (.int (1 : Int32))]) (st := [(.int ((m1 + (1 : Int32)) - (1 : Int32))), (.int x1), (.int m1), (.ref a1), (.int (own_get P (0 : Int32)))]) (argsL := [(.ref a1), (.int m1), (.int x1), (.int ((m1 + (1 : Int32)) - (1 : Int32)))]) (rest := [(.int (own_get P (0 : Int32)))]) (by rw [hml]; rfl) (lenOf own_pd6 rfl) rfl rfl (Nat.le_of_eq rfl) (hb hby own_d12_24)
  refine own_via st1 ?_
  show own_H T1 27 #[.val (.ref a1), .val (.int m1), .val (.int x1), .val (.int (1 : Int32)), .val (.int (1 : Int32))] [(.int (own_Fat P m1 x1 ((m1 + (1 : Int32)) - (1 : Int32)))), (.int (own_get P (0 : Int32)))]
  have J2 : ∀ (TJ2 : State) (XJ2 : Stand p l e own_ib1_R s m #[(.ref a1), (.int m1), (.int x1), (.int (1 : Int32))] below meth c TJ2 [] 0 0) (EJ2 : TJ2.heap = h0) (zj3 : Int32), zj3 = (if (own_get P (0 : Int32)) = (own_Fat P m1 x1 ((m1 + (1 : Int32)) - (1 : Int32))) then (1 : Int32) else (0 : Int32)) → own_G p e below (own_P s (own_Q (.int (own_Fb1 P m1 x1)) h0) own_ib1_R.cells own_ib1_R.slots) (TJ2.setTop (mkF m 35 #[.val (.ref a1), .val (.int m1), .val (.int x1), .val (.int (1 : Int32)), .val (.int (1 : Int32))] [(.int zj3)])) := by
    intro TJ2 XJ2 EJ2 zj3 hzj3
    refine own_via (fun t k => XS.istore XJ2.here hx rfl (hb hby own_d12_35) rfl (l' := #[.val (.ref a1), .val (.int m1), .val (.int x1), .val (.int (1 : Int32)), .val (.int zj3)]) rfl k) ?_
    refine own_via (fun t k => XS.iloadN XJ2.here hx rfl (hb hby own_d12_37) rfl k) ?_
    refine own_via (fun t k => XS.iconst XJ2.here hx rfl (hb hby own_d12_38) k) ?_
    show own_H TJ2 39 #[.val (.ref a1), .val (.int m1), .val (.int x1), .val (.int (1 : Int32)), .val (.int zj3)] [(.int (2 : Int32)), (.int (1 : Int32))]
    refine own_via (fun t k => XS.icmpYes XJ2.here hx rfl (pc0 := 39) (pc' := 71) rfl (hb hby own_d12_39) rfl (tlt (by decide : (1 : Int32) < (2 : Int32))).1 (by decide) (by decide) k) ?_
    show own_H TJ2 71 #[.val (.ref a1), .val (.int m1), .val (.int x1), .val (.int (1 : Int32)), .val (.int zj3)] []
    refine own_via (fun t k => XS.iloadN XJ2.here hx rfl (hb hby own_d12_71) rfl k) ?_
    refine own_via (fun t k => XS.iconst XJ2.here hx rfl (hb hby own_d12_72) k) ?_
    show own_H TJ2 73 #[.val (.ref a1), .val (.int m1), .val (.int x1), .val (.int (1 : Int32)), .val (.int zj3)] [(.int (3 : Int32)), (.int (1 : Int32))]
    refine own_via (fun t k => XS.icmpYes XJ2.here hx rfl (pc0 := 73) (pc' := 105) rfl (hb hby own_d12_73) rfl (tlt (by decide : (1 : Int32) < (3 : Int32))).1 (by decide) (by decide) k) ?_
    show own_H TJ2 105 #[.val (.ref a1), .val (.int m1), .val (.int x1), .val (.int (1 : Int32)), .val (.int zj3)] []
    refine own_via (fun t k => XS.iloadN XJ2.here hx rfl (hb hby own_d12_105) rfl k) ?_
    refine own_via (fun t k => XS.iconst XJ2.here hx rfl (hb hby own_d12_106) k) ?_
    show own_H TJ2 107 #[.val (.ref a1), .val (.int m1), .val (.int x1), .val (.int (1 : Int32)), .val (.int zj3)] [(.int (4 : Int32)), (.int (1 : Int32))]
    refine own_via (fun t k => XS.icmpYes XJ2.here hx rfl (pc0 := 107) (pc' := 139) rfl (hb hby own_d12_107) rfl (tlt (by decide : (1 : Int32) < (4 : Int32))).1 (by decide) (by decide) k) ?_
    show own_H TJ2 139 #[.val (.ref a1), .val (.int m1), .val (.int x1), .val (.int (1 : Int32)), .val (.int zj3)] []
    refine own_via (fun t k => XS.iload XJ2.here hx rfl (hb hby own_d12_139) rfl k) ?_
    show own_H TJ2 141 #[.val (.ref a1), .val (.int m1), .val (.int x1), .val (.int (1 : Int32)), .val (.int zj3)] [(.int zj3)]
    exact own_retN (t := .boolean) XJ2 hx Bd.returns (by simp) Bd.notSynchronized (hb hby own_d12_141) ⟨(by show (some (.int (nar .boolean zj3)) : Option Value) = some (.int (own_Fb1 P m1 x1)); subst hzj3; simp only [own_Fb1, if_pos hp_i0, if_pos hp_a0]), rfl, EJ2⟩ (by decide) (by decide)
  by_cases hc4 : (own_get P (0 : Int32)) = (own_Fat P m1 x1 ((m1 + (1 : Int32)) - (1 : Int32)))
  ·
    refine own_via (fun t k => XS.icmpNo X1.here hx rfl (hb hby own_d12_27) rfl (teq hc4).2 k) ?_
    show own_H T1 30 #[.val (.ref a1), .val (.int m1), .val (.int x1), .val (.int (1 : Int32)), .val (.int (1 : Int32))] []
    refine own_via (fun t k => XS.iconst X1.here hx rfl (hb hby own_d12_30) k) ?_
    show own_H T1 31 #[.val (.ref a1), .val (.int m1), .val (.int x1), .val (.int (1 : Int32)), .val (.int (1 : Int32))] [(.int (1 : Int32))]
    refine own_via (fun t k => XS.goto X1.here hx rfl (pc0 := 31) (pc' := 35) rfl (hb hby own_d12_31) (by decide) (by decide) k) ?_
    show own_H T1 35 #[.val (.ref a1), .val (.int m1), .val (.int x1), .val (.int (1 : Int32)), .val (.int (1 : Int32))] [(.int (1 : Int32))]
    exact J2 _ X1 e1 _ (by simp only [if_pos hc4])
  ·
    refine own_via (fun t k => XS.icmpYes X1.here hx rfl (pc0 := 27) (pc' := 34) rfl (hb hby own_d12_27) rfl (feq hc4).2 (by decide) (by decide) k) ?_
    show own_H T1 34 #[.val (.ref a1), .val (.int m1), .val (.int x1), .val (.int (1 : Int32)), .val (.int (1 : Int32))] []
    refine own_via (fun t k => XS.iconst X1.here hx rfl (hb hby own_d12_34) k) ?_
    show own_H T1 35 #[.val (.ref a1), .val (.int m1), .val (.int x1), .val (.int (1 : Int32)), .val (.int (1 : Int32))] [(.int (0 : Int32))]
    exact J2 _ X1 e1 _ (by simp only [if_neg hc4])
theorem own_d12_42 : decode method_3_code 42 = .ok (.iload 4, 2) := by decide +kernel
theorem own_d12_44 : decode method_3_code 44 = .ok (.ifCond .eq 24, 3) := by decide +kernel
theorem own_d12_47 : decode method_3_code 47 = .ok (.aload_n 0, 1) := by decide +kernel
theorem own_d12_48 : decode method_3_code 48 = .ok (.iconst 1, 1) := by decide +kernel
theorem own_d12_49 : decode method_3_code 49 = .ok (.iaload, 1) := by decide +kernel
theorem own_d12_50 : decode method_3_code 50 = .ok (.aload_n 0, 1) := by decide +kernel
theorem own_d12_51 : decode method_3_code 51 = .ok (.iload_n 1, 1) := by decide +kernel
theorem own_d12_52 : decode method_3_code 52 = .ok (.iload_n 2, 1) := by decide +kernel
theorem own_d12_53 : decode method_3_code 53 = .ok (.iload_n 1, 1) := by decide +kernel
theorem own_d12_54 : decode method_3_code 54 = .ok (.iconst 2, 1) := by decide +kernel
theorem own_d12_55 : decode method_3_code 55 = .ok (.iadd, 1) := by decide +kernel
theorem own_d12_56 : decode method_3_code 56 = .ok (.iload_n 3, 1) := by decide +kernel
theorem own_d12_57 : decode method_3_code 57 = .ok (.isub, 1) := by decide +kernel
theorem own_d12_58 : decode method_3_code 58 = .ok (.invokestatic 7, 3) := by decide +kernel
theorem own_d12_61 : decode method_3_code 61 = .ok (.if_icmp .ne 7, 3) := by decide +kernel
theorem own_d12_64 : decode method_3_code 64 = .ok (.iconst 1, 1) := by decide +kernel
theorem own_d12_65 : decode method_3_code 65 = .ok (.goto 4, 3) := by decide +kernel
theorem own_d12_68 : decode method_3_code 68 = .ok (.iconst 0, 1) := by decide +kernel
theorem own_d12_69 : decode method_3_code 69 = .ok (.istore 4, 2) := by decide +kernel
abbrev own_ib2_R : Room := { frames := 1, cells := 0, slots := 0, locals := 16 }
theorem own_ib2_ef (m : MethodId) (a1 : Addr) (m1 : Int32) (x1 : Int32) : entryFrame m #[(.ref a1), (.int m1), (.int x1), (.int (2 : Int32))] 5 = mkF m 0 #[.val (.ref a1), .val (.int m1), .val (.int x1), .val (.int (2 : Int32)), .unset] [] := by first | (simp [entryFrame, mkF, argsToLocals, Value.category]; done) | rfl
def own_Fb2 (P : List Int32) (m1 : Int32) (x1 : Int32) : Int32 := (let zj3 : Int32 := (if (own_get P (0 : Int32)) = (own_Fat P m1 x1 ((m1 + (1 : Int32)) - (2 : Int32))) then (1 : Int32) else (0 : Int32)); (let zj5 : Int32 := (if zj3 = (0 : Int32) then (0 : Int32) else (if (own_get P (1 : Int32)) = (own_Fat P m1 x1 ((m1 + (2 : Int32)) - (2 : Int32))) then (1 : Int32) else (0 : Int32))); (nar .boolean zj5)))
set_option maxRecDepth 65536 in
set_option maxHeartbeats 40000000 in
theorem own_ib2 (l : Launch) (Z : State) (a0 : Array Value) (hw : ∀ d ∈ tables_1, d.before a0 Z = true) (ws : List Jvm.Cond) (a1 : Addr) (m1 : Int32) (x1 : Int32) (k_1 : ClassId) (nn : Int32) (P : List Int32) (h0 : Heap)  (i_A1 : Arv Z h0 a1 k_1 .int nn (P.map Value.int) (.int (0 : Int32))) (hp_i0 : own_in P (0 : Int32) nn) (hp_i1 : own_in P (1 : Int32) nn) (hp_a0 : ((m1 + (1 : Int32)) - (2 : Int32)) < m1 → own_in P ((m1 + (1 : Int32)) - (2 : Int32)) nn) (hp_a1 : ((m1 + (2 : Int32)) - (2 : Int32)) < m1 → own_in P ((m1 + (2 : Int32)) - (2 : Int32)) nn) :
    own_C l Z (⟨"com/example/skipstitch/skipstitch/KmpPatternStepPinLaw", "isBorder", "([IIII)Z"⟩ : MethodName) method_3_code 5 (some .boolean) ws own_ib2_R #[(.ref a1), (.int m1), (.int x1), (.int (2 : Int32))] h0 (own_Q (.int (own_Fb2 P m1 x1)) h0) := by
  refine MetFree.of_bodySF own_pn12 hisR ?_
  intro p e s m args below meth c s₁ Bd hml0 hP hK
  obtain ⟨rfl, hZ, hh⟩ := hP
  have hx := Bd.exec
  have hby := Bd.bytes
  have hml : c.maxLocals = 5 := hml0
  have hown : s.vm.findClass "com/example/skipstitch/skipstitch/KmpPatternStepPinLaw" = some m.cls := findClass_of_methodNamed Bd.named
  have hnm := (name_of_methodNamed Bd.named Bd.method).1
  have X0 : Stand p l e own_ib2_R s m #[(.ref a1), (.int m1), (.int x1), (.int (2 : Int32))] below meth c s₁ [] 0 0 := Stand.of_body Bd
  have e0 : s₁.heap = h0 := by rw [← hh, Bd.state]; rfl
  show own_G p e below (own_P s (own_Q (.int (own_Fb2 P m1 x1)) h0) own_ib2_R.cells own_ib2_R.slots) (s₁.setTop (entryFrame m #[(.ref a1), (.int m1), (.int x1), (.int (2 : Int32))] 5))
  rw [own_ib2_ef m a1 m1 x1]
  show own_H s₁ 0 #[.val (.ref a1), .val (.int m1), .val (.int x1), .val (.int (2 : Int32)), .unset] []
  refine own_via (fun t k => XS.iconst X0.here hx rfl (hb hby own_d12_0) k) ?_
  show own_H s₁ 1 #[.val (.ref a1), .val (.int m1), .val (.int x1), .val (.int (2 : Int32)), .unset] [(.int (1 : Int32))]
  refine own_via (fun t k => XS.istore X0.here hx rfl (hb hby own_d12_1) rfl (l' := #[.val (.ref a1), .val (.int m1), .val (.int x1), .val (.int (2 : Int32)), .val (.int (1 : Int32))]) rfl k) ?_
  refine own_via (fun t k => XS.iloadN X0.here hx rfl (hb hby own_d12_3) rfl k) ?_
  refine own_via (fun t k => XS.iconst X0.here hx rfl (hb hby own_d12_4) k) ?_
  show own_H s₁ 5 #[.val (.ref a1), .val (.int m1), .val (.int x1), .val (.int (2 : Int32)), .val (.int (1 : Int32))] [(.int (1 : Int32)), (.int (2 : Int32))]
  refine own_via (fun t k => XS.icmpNo X0.here hx rfl (hb hby own_d12_5) rfl (flt (by decide : ¬ ((2 : Int32) < (1 : Int32)))).1 k) ?_
  show own_H s₁ 8 #[.val (.ref a1), .val (.int m1), .val (.int x1), .val (.int (2 : Int32)), .val (.int (1 : Int32))] []
  refine own_via (fun t k => XS.iload X0.here hx rfl (hb hby own_d12_8) rfl k) ?_
  show own_H s₁ 10 #[.val (.ref a1), .val (.int m1), .val (.int x1), .val (.int (2 : Int32)), .val (.int (1 : Int32))] [(.int (1 : Int32))]
  refine own_via (fun t k => XS.ifNo X0.here hx rfl (hb hby own_d12_10) rfl ((if0 _ _).trans (feq (by decide : ¬ ((1 : Int32) = (0 : Int32)))).1) k) ?_
  show own_H s₁ 13 #[.val (.ref a1), .val (.int m1), .val (.int x1), .val (.int (2 : Int32)), .val (.int (1 : Int32))] []
  refine own_via (fun t k => XS.aloadN X0.here hx rfl (hb hby own_d12_13) rfl rfl k) ?_
  refine own_via (fun t k => XS.iconst X0.here hx rfl (hb hby own_d12_14) k) ?_
  show own_H s₁ 15 #[.val (.ref a1), .val (.int m1), .val (.int x1), .val (.int (2 : Int32)), .val (.int (1 : Int32))] [(.int (0 : Int32)), (.ref a1)]
  refine own_via (own_ldS (L := P) X0 hx hZ e0 i_A1 (j := (0 : Int32)) hp_i0.1 (pc := 15) (Ls := #[.val (.ref a1), .val (.int m1), .val (.int x1), .val (.int (2 : Int32)), .val (.int (1 : Int32))]) (rest := []) (hb hby own_d12_15)) ?_
  show own_H s₁ 16 #[.val (.ref a1), .val (.int m1), .val (.int x1), .val (.int (2 : Int32)), .val (.int (1 : Int32))] [(.int (own_get P (0 : Int32)))]
  refine own_via (fun t k => XS.aloadN X0.here hx rfl (hb hby own_d12_16) rfl rfl k) ?_
  refine own_via (fun t k => XS.iloadN X0.here hx rfl (hb hby own_d12_17) rfl k) ?_
  refine own_via (fun t k => XS.iloadN X0.here hx rfl (hb hby own_d12_18) rfl k) ?_
  refine own_via (fun t k => XS.iloadN X0.here hx rfl (hb hby own_d12_19) rfl k) ?_
  refine own_via (fun t k => XS.iconst X0.here hx rfl (hb hby own_d12_20) k) ?_
  show own_H s₁ 21 #[.val (.ref a1), .val (.int m1), .val (.int x1), .val (.int (2 : Int32)), .val (.int (1 : Int32))] [(.int (1 : Int32)), (.int m1), (.int x1), (.int m1), (.ref a1), (.int (own_get P (0 : Int32)))]
  refine own_via (fun t k => XS.iadd X0.here hx rfl (hb hby own_d12_21) rfl k) ?_
  refine own_via (fun t k => XS.iloadN X0.here hx rfl (hb hby own_d12_22) rfl k) ?_
  show own_H s₁ 23 #[.val (.ref a1), .val (.int m1), .val (.int x1), .val (.int (2 : Int32)), .val (.int (1 : Int32))] [(.int (2 : Int32)), (.int (m1 + (1 : Int32))), (.int x1), (.int m1), (.ref a1), (.int (own_get P (0 : Int32)))]
  refine own_via (fun t k => XS.isub X0.here hx rfl (hb hby own_d12_23) rfl k) ?_
  show own_H s₁ 24 #[.val (.ref a1), .val (.int m1), .val (.int x1), .val (.int (2 : Int32)), .val (.int (1 : Int32))] [(.int ((m1 + (1 : Int32)) - (2 : Int32))), (.int x1), (.int m1), (.ref a1), (.int (own_get P (0 : Int32)))]
  obtain ⟨T1, X1, e1, st1⟩ := own_callP (y := (⟨"com/example/skipstitch/skipstitch/KmpPatternStepPinLaw", "at", "([IIII)I"⟩ : MethodName)) (W := 1) X0 hx hZ hown (own_u hw 90 rfl) (own_u hw 91 rfl) (own_u hw 88 rfl) (own_u hw 92 rfl) (by decide) (own_at l Z a0 hw [] a1 m1 x1 ((m1 + (1 : Int32)) - (2 : Int32)) k_1 nn P h0 i_A1 hp_a0) (by decide) (by decide) rfl rfl (by decide) (by decide) e0 (pc := 24) (Ls := #[.val (.ref a1), .val (.int m1), .val (.int x1), .val (.int (2 : Int32)), .val (.int (1 : Int32))]) (st := [(.int ((m1 + (1 : Int32)) - (2 : Int32))), (.int x1), (.int m1), (.ref a1), (.int (own_get P (0 : Int32)))]) (argsL := [(.ref a1), (.int m1), (.int x1), (.int ((m1 + (1 : Int32)) - (2 : Int32)))]) (rest := [(.int (own_get P (0 : Int32)))]) (by rw [hml]; rfl) (lenOf own_pd6 rfl) rfl rfl (Nat.le_of_eq rfl) (hb hby own_d12_24)
  refine own_via st1 ?_
  show own_H T1 27 #[.val (.ref a1), .val (.int m1), .val (.int x1), .val (.int (2 : Int32)), .val (.int (1 : Int32))] [(.int (own_Fat P m1 x1 ((m1 + (1 : Int32)) - (2 : Int32)))), (.int (own_get P (0 : Int32)))]
  have J2 : ∀ (TJ2 : State) (XJ2 : Stand p l e own_ib2_R s m #[(.ref a1), (.int m1), (.int x1), (.int (2 : Int32))] below meth c TJ2 [] 0 0) (EJ2 : TJ2.heap = h0) (zj3 : Int32), zj3 = (if (own_get P (0 : Int32)) = (own_Fat P m1 x1 ((m1 + (1 : Int32)) - (2 : Int32))) then (1 : Int32) else (0 : Int32)) → own_G p e below (own_P s (own_Q (.int (own_Fb2 P m1 x1)) h0) own_ib2_R.cells own_ib2_R.slots) (TJ2.setTop (mkF m 35 #[.val (.ref a1), .val (.int m1), .val (.int x1), .val (.int (2 : Int32)), .val (.int (1 : Int32))] [(.int zj3)])) := by
    intro TJ2 XJ2 EJ2 zj3 hzj3
    refine own_via (fun t k => XS.istore XJ2.here hx rfl (hb hby own_d12_35) rfl (l' := #[.val (.ref a1), .val (.int m1), .val (.int x1), .val (.int (2 : Int32)), .val (.int zj3)]) rfl k) ?_
    refine own_via (fun t k => XS.iloadN XJ2.here hx rfl (hb hby own_d12_37) rfl k) ?_
    refine own_via (fun t k => XS.iconst XJ2.here hx rfl (hb hby own_d12_38) k) ?_
    show own_H TJ2 39 #[.val (.ref a1), .val (.int m1), .val (.int x1), .val (.int (2 : Int32)), .val (.int zj3)] [(.int (2 : Int32)), (.int (2 : Int32))]
    refine own_via (fun t k => XS.icmpNo XJ2.here hx rfl (hb hby own_d12_39) rfl (flt (by decide : ¬ ((2 : Int32) < (2 : Int32)))).1 k) ?_
    show own_H TJ2 42 #[.val (.ref a1), .val (.int m1), .val (.int x1), .val (.int (2 : Int32)), .val (.int zj3)] []
    refine own_via (fun t k => XS.iload XJ2.here hx rfl (hb hby own_d12_42) rfl k) ?_
    show own_H TJ2 44 #[.val (.ref a1), .val (.int m1), .val (.int x1), .val (.int (2 : Int32)), .val (.int zj3)] [(.int zj3)]
    have J4 : ∀ (TJ4 : State) (XJ4 : Stand p l e own_ib2_R s m #[(.ref a1), (.int m1), (.int x1), (.int (2 : Int32))] below meth c TJ4 [] 0 0) (EJ4 : TJ4.heap = h0) (zj5 : Int32), zj5 = (if zj3 = (0 : Int32) then (0 : Int32) else (if (own_get P (1 : Int32)) = (own_Fat P m1 x1 ((m1 + (2 : Int32)) - (2 : Int32))) then (1 : Int32) else (0 : Int32))) → own_G p e below (own_P s (own_Q (.int (own_Fb2 P m1 x1)) h0) own_ib2_R.cells own_ib2_R.slots) (TJ4.setTop (mkF m 69 #[.val (.ref a1), .val (.int m1), .val (.int x1), .val (.int (2 : Int32)), .val (.int zj3)] [(.int zj5)])) := by
      intro TJ4 XJ4 EJ4 zj5 hzj5
      refine own_via (fun t k => XS.istore XJ4.here hx rfl (hb hby own_d12_69) rfl (l' := #[.val (.ref a1), .val (.int m1), .val (.int x1), .val (.int (2 : Int32)), .val (.int zj5)]) rfl k) ?_
      refine own_via (fun t k => XS.iloadN XJ4.here hx rfl (hb hby own_d12_71) rfl k) ?_
      refine own_via (fun t k => XS.iconst XJ4.here hx rfl (hb hby own_d12_72) k) ?_
      show own_H TJ4 73 #[.val (.ref a1), .val (.int m1), .val (.int x1), .val (.int (2 : Int32)), .val (.int zj5)] [(.int (3 : Int32)), (.int (2 : Int32))]
      refine own_via (fun t k => XS.icmpYes XJ4.here hx rfl (pc0 := 73) (pc' := 105) rfl (hb hby own_d12_73) rfl (tlt (by decide : (2 : Int32) < (3 : Int32))).1 (by decide) (by decide) k) ?_
      show own_H TJ4 105 #[.val (.ref a1), .val (.int m1), .val (.int x1), .val (.int (2 : Int32)), .val (.int zj5)] []
      refine own_via (fun t k => XS.iloadN XJ4.here hx rfl (hb hby own_d12_105) rfl k) ?_
      refine own_via (fun t k => XS.iconst XJ4.here hx rfl (hb hby own_d12_106) k) ?_
      show own_H TJ4 107 #[.val (.ref a1), .val (.int m1), .val (.int x1), .val (.int (2 : Int32)), .val (.int zj5)] [(.int (4 : Int32)), (.int (2 : Int32))]
      refine own_via (fun t k => XS.icmpYes XJ4.here hx rfl (pc0 := 107) (pc' := 139) rfl (hb hby own_d12_107) rfl (tlt (by decide : (2 : Int32) < (4 : Int32))).1 (by decide) (by decide) k) ?_
      show own_H TJ4 139 #[.val (.ref a1), .val (.int m1), .val (.int x1), .val (.int (2 : Int32)), .val (.int zj5)] []
      refine own_via (fun t k => XS.iload XJ4.here hx rfl (hb hby own_d12_139) rfl k) ?_
      show own_H TJ4 141 #[.val (.ref a1), .val (.int m1), .val (.int x1), .val (.int (2 : Int32)), .val (.int zj5)] [(.int zj5)]
      exact own_retN (t := .boolean) XJ4 hx Bd.returns (by simp) Bd.notSynchronized (hb hby own_d12_141) ⟨(by show (some (.int (nar .boolean zj5)) : Option Value) = some (.int (own_Fb2 P m1 x1)); subst hzj5; subst hzj3; simp only [own_Fb2, if_pos hp_i0, if_pos hp_i1, if_pos hp_a0, if_pos hp_a1]), rfl, EJ4⟩ (by decide) (by decide)
    by_cases hc6 : zj3 = (0 : Int32)
    ·
      refine own_via (fun t k => XS.ifYes XJ2.here hx rfl (pc0 := 44) (pc' := 68) rfl (hb hby own_d12_44) rfl ((if0 _ _).trans (teq hc6).1) (by decide) (by decide) k) ?_
      show own_H TJ2 68 #[.val (.ref a1), .val (.int m1), .val (.int x1), .val (.int (2 : Int32)), .val (.int zj3)] []
      refine own_via (fun t k => XS.iconst XJ2.here hx rfl (hb hby own_d12_68) k) ?_
      show own_H TJ2 69 #[.val (.ref a1), .val (.int m1), .val (.int x1), .val (.int (2 : Int32)), .val (.int zj3)] [(.int (0 : Int32))]
      exact J4 _ XJ2 EJ2 _ (by simp only [if_pos hc6])
    ·
      refine own_via (fun t k => XS.ifNo XJ2.here hx rfl (hb hby own_d12_44) rfl ((if0 _ _).trans (feq hc6).1) k) ?_
      show own_H TJ2 47 #[.val (.ref a1), .val (.int m1), .val (.int x1), .val (.int (2 : Int32)), .val (.int zj3)] []
      refine own_via (fun t k => XS.aloadN XJ2.here hx rfl (hb hby own_d12_47) rfl rfl k) ?_
      show own_H TJ2 48 #[.val (.ref a1), .val (.int m1), .val (.int x1), .val (.int (2 : Int32)), .val (.int zj3)] [(.ref a1)]
      refine own_via (fun t k => XS.iconst XJ2.here hx rfl (hb hby own_d12_48) k) ?_
      show own_H TJ2 49 #[.val (.ref a1), .val (.int m1), .val (.int x1), .val (.int (2 : Int32)), .val (.int zj3)] [(.int (1 : Int32)), (.ref a1)]
      refine own_via (own_ldS (L := P) XJ2 hx hZ EJ2 i_A1 (j := (1 : Int32)) hp_i1.1 (pc := 49) (Ls := #[.val (.ref a1), .val (.int m1), .val (.int x1), .val (.int (2 : Int32)), .val (.int zj3)]) (rest := []) (hb hby own_d12_49)) ?_
      show own_H TJ2 50 #[.val (.ref a1), .val (.int m1), .val (.int x1), .val (.int (2 : Int32)), .val (.int zj3)] [(.int (own_get P (1 : Int32)))]
      refine own_via (fun t k => XS.aloadN XJ2.here hx rfl (hb hby own_d12_50) rfl rfl k) ?_
      show own_H TJ2 51 #[.val (.ref a1), .val (.int m1), .val (.int x1), .val (.int (2 : Int32)), .val (.int zj3)] [(.ref a1), (.int (own_get P (1 : Int32)))]
      refine own_via (fun t k => XS.iloadN XJ2.here hx rfl (hb hby own_d12_51) rfl k) ?_
      show own_H TJ2 52 #[.val (.ref a1), .val (.int m1), .val (.int x1), .val (.int (2 : Int32)), .val (.int zj3)] [(.int m1), (.ref a1), (.int (own_get P (1 : Int32)))]
      refine own_via (fun t k => XS.iloadN XJ2.here hx rfl (hb hby own_d12_52) rfl k) ?_
      show own_H TJ2 53 #[.val (.ref a1), .val (.int m1), .val (.int x1), .val (.int (2 : Int32)), .val (.int zj3)] [(.int x1), (.int m1), (.ref a1), (.int (own_get P (1 : Int32)))]
      refine own_via (fun t k => XS.iloadN XJ2.here hx rfl (hb hby own_d12_53) rfl k) ?_
      show own_H TJ2 54 #[.val (.ref a1), .val (.int m1), .val (.int x1), .val (.int (2 : Int32)), .val (.int zj3)] [(.int m1), (.int x1), (.int m1), (.ref a1), (.int (own_get P (1 : Int32)))]
      refine own_via (fun t k => XS.iconst XJ2.here hx rfl (hb hby own_d12_54) k) ?_
      show own_H TJ2 55 #[.val (.ref a1), .val (.int m1), .val (.int x1), .val (.int (2 : Int32)), .val (.int zj3)] [(.int (2 : Int32)), (.int m1), (.int x1), (.int m1), (.ref a1), (.int (own_get P (1 : Int32)))]
      refine own_via (fun t k => XS.iadd XJ2.here hx rfl (hb hby own_d12_55) rfl k) ?_
      show own_H TJ2 56 #[.val (.ref a1), .val (.int m1), .val (.int x1), .val (.int (2 : Int32)), .val (.int zj3)] [(.int (m1 + (2 : Int32))), (.int x1), (.int m1), (.ref a1), (.int (own_get P (1 : Int32)))]
      refine own_via (fun t k => XS.iloadN XJ2.here hx rfl (hb hby own_d12_56) rfl k) ?_
      show own_H TJ2 57 #[.val (.ref a1), .val (.int m1), .val (.int x1), .val (.int (2 : Int32)), .val (.int zj3)] [(.int (2 : Int32)), (.int (m1 + (2 : Int32))), (.int x1), (.int m1), (.ref a1), (.int (own_get P (1 : Int32)))]
      refine own_via (fun t k => XS.isub XJ2.here hx rfl (hb hby own_d12_57) rfl k) ?_
      show own_H TJ2 58 #[.val (.ref a1), .val (.int m1), .val (.int x1), .val (.int (2 : Int32)), .val (.int zj3)] [(.int ((m1 + (2 : Int32)) - (2 : Int32))), (.int x1), (.int m1), (.ref a1), (.int (own_get P (1 : Int32)))]
      obtain ⟨T7, X7, e7, st7⟩ := own_callP (y := (⟨"com/example/skipstitch/skipstitch/KmpPatternStepPinLaw", "at", "([IIII)I"⟩ : MethodName)) (W := 1) XJ2 hx hZ hown (own_u hw 90 rfl) (own_u hw 91 rfl) (own_u hw 88 rfl) (own_u hw 92 rfl) (by decide) (own_at l Z a0 hw [] a1 m1 x1 ((m1 + (2 : Int32)) - (2 : Int32)) k_1 nn P h0 i_A1 hp_a1) (by decide) (by decide) rfl rfl (by decide) (by decide) EJ2 (pc := 58) (Ls := #[.val (.ref a1), .val (.int m1), .val (.int x1), .val (.int (2 : Int32)), .val (.int zj3)]) (st := [(.int ((m1 + (2 : Int32)) - (2 : Int32))), (.int x1), (.int m1), (.ref a1), (.int (own_get P (1 : Int32)))]) (argsL := [(.ref a1), (.int m1), (.int x1), (.int ((m1 + (2 : Int32)) - (2 : Int32)))]) (rest := [(.int (own_get P (1 : Int32)))]) (by rw [hml]; rfl) (lenOf own_pd6 rfl) rfl rfl (Nat.le_of_eq rfl) (hb hby own_d12_58)
      refine own_via st7 ?_
      show own_H T7 61 #[.val (.ref a1), .val (.int m1), .val (.int x1), .val (.int (2 : Int32)), .val (.int zj3)] [(.int (own_Fat P m1 x1 ((m1 + (2 : Int32)) - (2 : Int32)))), (.int (own_get P (1 : Int32)))]
      by_cases hc8 : (own_get P (1 : Int32)) = (own_Fat P m1 x1 ((m1 + (2 : Int32)) - (2 : Int32)))
      ·
        refine own_via (fun t k => XS.icmpNo X7.here hx rfl (hb hby own_d12_61) rfl (teq hc8).2 k) ?_
        show own_H T7 64 #[.val (.ref a1), .val (.int m1), .val (.int x1), .val (.int (2 : Int32)), .val (.int zj3)] []
        refine own_via (fun t k => XS.iconst X7.here hx rfl (hb hby own_d12_64) k) ?_
        show own_H T7 65 #[.val (.ref a1), .val (.int m1), .val (.int x1), .val (.int (2 : Int32)), .val (.int zj3)] [(.int (1 : Int32))]
        refine own_via (fun t k => XS.goto X7.here hx rfl (pc0 := 65) (pc' := 69) rfl (hb hby own_d12_65) (by decide) (by decide) k) ?_
        show own_H T7 69 #[.val (.ref a1), .val (.int m1), .val (.int x1), .val (.int (2 : Int32)), .val (.int zj3)] [(.int (1 : Int32))]
        exact J4 _ X7 e7 _ (by simp only [if_neg hc6, if_pos hc8])
      ·
        refine own_via (fun t k => XS.icmpYes X7.here hx rfl (pc0 := 61) (pc' := 68) rfl (hb hby own_d12_61) rfl (feq hc8).2 (by decide) (by decide) k) ?_
        show own_H T7 68 #[.val (.ref a1), .val (.int m1), .val (.int x1), .val (.int (2 : Int32)), .val (.int zj3)] []
        refine own_via (fun t k => XS.iconst X7.here hx rfl (hb hby own_d12_68) k) ?_
        show own_H T7 69 #[.val (.ref a1), .val (.int m1), .val (.int x1), .val (.int (2 : Int32)), .val (.int zj3)] [(.int (0 : Int32))]
        exact J4 _ X7 e7 _ (by simp only [if_neg hc6, if_neg hc8])
  by_cases hc9 : (own_get P (0 : Int32)) = (own_Fat P m1 x1 ((m1 + (1 : Int32)) - (2 : Int32)))
  ·
    refine own_via (fun t k => XS.icmpNo X1.here hx rfl (hb hby own_d12_27) rfl (teq hc9).2 k) ?_
    show own_H T1 30 #[.val (.ref a1), .val (.int m1), .val (.int x1), .val (.int (2 : Int32)), .val (.int (1 : Int32))] []
    refine own_via (fun t k => XS.iconst X1.here hx rfl (hb hby own_d12_30) k) ?_
    show own_H T1 31 #[.val (.ref a1), .val (.int m1), .val (.int x1), .val (.int (2 : Int32)), .val (.int (1 : Int32))] [(.int (1 : Int32))]
    refine own_via (fun t k => XS.goto X1.here hx rfl (pc0 := 31) (pc' := 35) rfl (hb hby own_d12_31) (by decide) (by decide) k) ?_
    show own_H T1 35 #[.val (.ref a1), .val (.int m1), .val (.int x1), .val (.int (2 : Int32)), .val (.int (1 : Int32))] [(.int (1 : Int32))]
    exact J2 _ X1 e1 _ (by simp only [if_pos hc9])
  ·
    refine own_via (fun t k => XS.icmpYes X1.here hx rfl (pc0 := 27) (pc' := 34) rfl (hb hby own_d12_27) rfl (feq hc9).2 (by decide) (by decide) k) ?_
    show own_H T1 34 #[.val (.ref a1), .val (.int m1), .val (.int x1), .val (.int (2 : Int32)), .val (.int (1 : Int32))] []
    refine own_via (fun t k => XS.iconst X1.here hx rfl (hb hby own_d12_34) k) ?_
    show own_H T1 35 #[.val (.ref a1), .val (.int m1), .val (.int x1), .val (.int (2 : Int32)), .val (.int (1 : Int32))] [(.int (0 : Int32))]
    exact J2 _ X1 e1 _ (by simp only [if_neg hc9])
theorem own_d12_76 : decode method_3_code 76 = .ok (.iload 4, 2) := by decide +kernel
theorem own_d12_78 : decode method_3_code 78 = .ok (.ifCond .eq 24, 3) := by decide +kernel
theorem own_d12_81 : decode method_3_code 81 = .ok (.aload_n 0, 1) := by decide +kernel
theorem own_d12_82 : decode method_3_code 82 = .ok (.iconst 2, 1) := by decide +kernel
theorem own_d12_83 : decode method_3_code 83 = .ok (.iaload, 1) := by decide +kernel
theorem own_d12_84 : decode method_3_code 84 = .ok (.aload_n 0, 1) := by decide +kernel
theorem own_d12_85 : decode method_3_code 85 = .ok (.iload_n 1, 1) := by decide +kernel
theorem own_d12_86 : decode method_3_code 86 = .ok (.iload_n 2, 1) := by decide +kernel
theorem own_d12_87 : decode method_3_code 87 = .ok (.iload_n 1, 1) := by decide +kernel
theorem own_d12_88 : decode method_3_code 88 = .ok (.iconst 3, 1) := by decide +kernel
theorem own_d12_89 : decode method_3_code 89 = .ok (.iadd, 1) := by decide +kernel
theorem own_d12_90 : decode method_3_code 90 = .ok (.iload_n 3, 1) := by decide +kernel
theorem own_d12_91 : decode method_3_code 91 = .ok (.isub, 1) := by decide +kernel
theorem own_d12_92 : decode method_3_code 92 = .ok (.invokestatic 7, 3) := by decide +kernel
theorem own_d12_95 : decode method_3_code 95 = .ok (.if_icmp .ne 7, 3) := by decide +kernel
theorem own_d12_98 : decode method_3_code 98 = .ok (.iconst 1, 1) := by decide +kernel
theorem own_d12_99 : decode method_3_code 99 = .ok (.goto 4, 3) := by decide +kernel
theorem own_d12_102 : decode method_3_code 102 = .ok (.iconst 0, 1) := by decide +kernel
theorem own_d12_103 : decode method_3_code 103 = .ok (.istore 4, 2) := by decide +kernel
abbrev own_ib3_R : Room := { frames := 1, cells := 0, slots := 0, locals := 16 }
theorem own_ib3_ef (m : MethodId) (a1 : Addr) (m1 : Int32) (x1 : Int32) : entryFrame m #[(.ref a1), (.int m1), (.int x1), (.int (3 : Int32))] 5 = mkF m 0 #[.val (.ref a1), .val (.int m1), .val (.int x1), .val (.int (3 : Int32)), .unset] [] := by first | (simp [entryFrame, mkF, argsToLocals, Value.category]; done) | rfl
def own_Fb3 (P : List Int32) (m1 : Int32) (x1 : Int32) : Int32 := (let zj3 : Int32 := (if (own_get P (0 : Int32)) = (own_Fat P m1 x1 ((m1 + (1 : Int32)) - (3 : Int32))) then (1 : Int32) else (0 : Int32)); (let zj5 : Int32 := (if zj3 = (0 : Int32) then (0 : Int32) else (if (own_get P (1 : Int32)) = (own_Fat P m1 x1 ((m1 + (2 : Int32)) - (3 : Int32))) then (1 : Int32) else (0 : Int32))); (let zj7 : Int32 := (if zj5 = (0 : Int32) then (0 : Int32) else (if (own_get P (2 : Int32)) = (own_Fat P m1 x1 ((m1 + (3 : Int32)) - (3 : Int32))) then (1 : Int32) else (0 : Int32))); (nar .boolean zj7))))
set_option maxRecDepth 65536 in
set_option maxHeartbeats 40000000 in
theorem own_ib3 (l : Launch) (Z : State) (a0 : Array Value) (hw : ∀ d ∈ tables_1, d.before a0 Z = true) (ws : List Jvm.Cond) (a1 : Addr) (m1 : Int32) (x1 : Int32) (k_1 : ClassId) (nn : Int32) (P : List Int32) (h0 : Heap)  (i_A1 : Arv Z h0 a1 k_1 .int nn (P.map Value.int) (.int (0 : Int32))) (hp_i0 : own_in P (0 : Int32) nn) (hp_i1 : own_in P (1 : Int32) nn) (hp_i2 : own_in P (2 : Int32) nn) (hp_a0 : ((m1 + (1 : Int32)) - (3 : Int32)) < m1 → own_in P ((m1 + (1 : Int32)) - (3 : Int32)) nn) (hp_a1 : ((m1 + (2 : Int32)) - (3 : Int32)) < m1 → own_in P ((m1 + (2 : Int32)) - (3 : Int32)) nn) (hp_a2 : ((m1 + (3 : Int32)) - (3 : Int32)) < m1 → own_in P ((m1 + (3 : Int32)) - (3 : Int32)) nn) :
    own_C l Z (⟨"com/example/skipstitch/skipstitch/KmpPatternStepPinLaw", "isBorder", "([IIII)Z"⟩ : MethodName) method_3_code 5 (some .boolean) ws own_ib3_R #[(.ref a1), (.int m1), (.int x1), (.int (3 : Int32))] h0 (own_Q (.int (own_Fb3 P m1 x1)) h0) := by
  refine MetFree.of_bodySF own_pn12 hisR ?_
  intro p e s m args below meth c s₁ Bd hml0 hP hK
  obtain ⟨rfl, hZ, hh⟩ := hP
  have hx := Bd.exec
  have hby := Bd.bytes
  have hml : c.maxLocals = 5 := hml0
  have hown : s.vm.findClass "com/example/skipstitch/skipstitch/KmpPatternStepPinLaw" = some m.cls := findClass_of_methodNamed Bd.named
  have hnm := (name_of_methodNamed Bd.named Bd.method).1
  have X0 : Stand p l e own_ib3_R s m #[(.ref a1), (.int m1), (.int x1), (.int (3 : Int32))] below meth c s₁ [] 0 0 := Stand.of_body Bd
  have e0 : s₁.heap = h0 := by rw [← hh, Bd.state]; rfl
  show own_G p e below (own_P s (own_Q (.int (own_Fb3 P m1 x1)) h0) own_ib3_R.cells own_ib3_R.slots) (s₁.setTop (entryFrame m #[(.ref a1), (.int m1), (.int x1), (.int (3 : Int32))] 5))
  rw [own_ib3_ef m a1 m1 x1]
  show own_H s₁ 0 #[.val (.ref a1), .val (.int m1), .val (.int x1), .val (.int (3 : Int32)), .unset] []
  refine own_via (fun t k => XS.iconst X0.here hx rfl (hb hby own_d12_0) k) ?_
  show own_H s₁ 1 #[.val (.ref a1), .val (.int m1), .val (.int x1), .val (.int (3 : Int32)), .unset] [(.int (1 : Int32))]
  refine own_via (fun t k => XS.istore X0.here hx rfl (hb hby own_d12_1) rfl (l' := #[.val (.ref a1), .val (.int m1), .val (.int x1), .val (.int (3 : Int32)), .val (.int (1 : Int32))]) rfl k) ?_
  refine own_via (fun t k => XS.iloadN X0.here hx rfl (hb hby own_d12_3) rfl k) ?_
  refine own_via (fun t k => XS.iconst X0.here hx rfl (hb hby own_d12_4) k) ?_
  show own_H s₁ 5 #[.val (.ref a1), .val (.int m1), .val (.int x1), .val (.int (3 : Int32)), .val (.int (1 : Int32))] [(.int (1 : Int32)), (.int (3 : Int32))]
  refine own_via (fun t k => XS.icmpNo X0.here hx rfl (hb hby own_d12_5) rfl (flt (by decide : ¬ ((3 : Int32) < (1 : Int32)))).1 k) ?_
  show own_H s₁ 8 #[.val (.ref a1), .val (.int m1), .val (.int x1), .val (.int (3 : Int32)), .val (.int (1 : Int32))] []
  refine own_via (fun t k => XS.iload X0.here hx rfl (hb hby own_d12_8) rfl k) ?_
  show own_H s₁ 10 #[.val (.ref a1), .val (.int m1), .val (.int x1), .val (.int (3 : Int32)), .val (.int (1 : Int32))] [(.int (1 : Int32))]
  refine own_via (fun t k => XS.ifNo X0.here hx rfl (hb hby own_d12_10) rfl ((if0 _ _).trans (feq (by decide : ¬ ((1 : Int32) = (0 : Int32)))).1) k) ?_
  show own_H s₁ 13 #[.val (.ref a1), .val (.int m1), .val (.int x1), .val (.int (3 : Int32)), .val (.int (1 : Int32))] []
  refine own_via (fun t k => XS.aloadN X0.here hx rfl (hb hby own_d12_13) rfl rfl k) ?_
  refine own_via (fun t k => XS.iconst X0.here hx rfl (hb hby own_d12_14) k) ?_
  show own_H s₁ 15 #[.val (.ref a1), .val (.int m1), .val (.int x1), .val (.int (3 : Int32)), .val (.int (1 : Int32))] [(.int (0 : Int32)), (.ref a1)]
  refine own_via (own_ldS (L := P) X0 hx hZ e0 i_A1 (j := (0 : Int32)) hp_i0.1 (pc := 15) (Ls := #[.val (.ref a1), .val (.int m1), .val (.int x1), .val (.int (3 : Int32)), .val (.int (1 : Int32))]) (rest := []) (hb hby own_d12_15)) ?_
  show own_H s₁ 16 #[.val (.ref a1), .val (.int m1), .val (.int x1), .val (.int (3 : Int32)), .val (.int (1 : Int32))] [(.int (own_get P (0 : Int32)))]
  refine own_via (fun t k => XS.aloadN X0.here hx rfl (hb hby own_d12_16) rfl rfl k) ?_
  refine own_via (fun t k => XS.iloadN X0.here hx rfl (hb hby own_d12_17) rfl k) ?_
  refine own_via (fun t k => XS.iloadN X0.here hx rfl (hb hby own_d12_18) rfl k) ?_
  refine own_via (fun t k => XS.iloadN X0.here hx rfl (hb hby own_d12_19) rfl k) ?_
  refine own_via (fun t k => XS.iconst X0.here hx rfl (hb hby own_d12_20) k) ?_
  show own_H s₁ 21 #[.val (.ref a1), .val (.int m1), .val (.int x1), .val (.int (3 : Int32)), .val (.int (1 : Int32))] [(.int (1 : Int32)), (.int m1), (.int x1), (.int m1), (.ref a1), (.int (own_get P (0 : Int32)))]
  refine own_via (fun t k => XS.iadd X0.here hx rfl (hb hby own_d12_21) rfl k) ?_
  refine own_via (fun t k => XS.iloadN X0.here hx rfl (hb hby own_d12_22) rfl k) ?_
  show own_H s₁ 23 #[.val (.ref a1), .val (.int m1), .val (.int x1), .val (.int (3 : Int32)), .val (.int (1 : Int32))] [(.int (3 : Int32)), (.int (m1 + (1 : Int32))), (.int x1), (.int m1), (.ref a1), (.int (own_get P (0 : Int32)))]
  refine own_via (fun t k => XS.isub X0.here hx rfl (hb hby own_d12_23) rfl k) ?_
  show own_H s₁ 24 #[.val (.ref a1), .val (.int m1), .val (.int x1), .val (.int (3 : Int32)), .val (.int (1 : Int32))] [(.int ((m1 + (1 : Int32)) - (3 : Int32))), (.int x1), (.int m1), (.ref a1), (.int (own_get P (0 : Int32)))]
  obtain ⟨T1, X1, e1, st1⟩ := own_callP (y := (⟨"com/example/skipstitch/skipstitch/KmpPatternStepPinLaw", "at", "([IIII)I"⟩ : MethodName)) (W := 1) X0 hx hZ hown (own_u hw 90 rfl) (own_u hw 91 rfl) (own_u hw 88 rfl) (own_u hw 92 rfl) (by decide) (own_at l Z a0 hw [] a1 m1 x1 ((m1 + (1 : Int32)) - (3 : Int32)) k_1 nn P h0 i_A1 hp_a0) (by decide) (by decide) rfl rfl (by decide) (by decide) e0 (pc := 24) (Ls := #[.val (.ref a1), .val (.int m1), .val (.int x1), .val (.int (3 : Int32)), .val (.int (1 : Int32))]) (st := [(.int ((m1 + (1 : Int32)) - (3 : Int32))), (.int x1), (.int m1), (.ref a1), (.int (own_get P (0 : Int32)))]) (argsL := [(.ref a1), (.int m1), (.int x1), (.int ((m1 + (1 : Int32)) - (3 : Int32)))]) (rest := [(.int (own_get P (0 : Int32)))]) (by rw [hml]; rfl) (lenOf own_pd6 rfl) rfl rfl (Nat.le_of_eq rfl) (hb hby own_d12_24)
  refine own_via st1 ?_
  show own_H T1 27 #[.val (.ref a1), .val (.int m1), .val (.int x1), .val (.int (3 : Int32)), .val (.int (1 : Int32))] [(.int (own_Fat P m1 x1 ((m1 + (1 : Int32)) - (3 : Int32)))), (.int (own_get P (0 : Int32)))]
  have J2 : ∀ (TJ2 : State) (XJ2 : Stand p l e own_ib3_R s m #[(.ref a1), (.int m1), (.int x1), (.int (3 : Int32))] below meth c TJ2 [] 0 0) (EJ2 : TJ2.heap = h0) (zj3 : Int32), zj3 = (if (own_get P (0 : Int32)) = (own_Fat P m1 x1 ((m1 + (1 : Int32)) - (3 : Int32))) then (1 : Int32) else (0 : Int32)) → own_G p e below (own_P s (own_Q (.int (own_Fb3 P m1 x1)) h0) own_ib3_R.cells own_ib3_R.slots) (TJ2.setTop (mkF m 35 #[.val (.ref a1), .val (.int m1), .val (.int x1), .val (.int (3 : Int32)), .val (.int (1 : Int32))] [(.int zj3)])) := by
    intro TJ2 XJ2 EJ2 zj3 hzj3
    refine own_via (fun t k => XS.istore XJ2.here hx rfl (hb hby own_d12_35) rfl (l' := #[.val (.ref a1), .val (.int m1), .val (.int x1), .val (.int (3 : Int32)), .val (.int zj3)]) rfl k) ?_
    refine own_via (fun t k => XS.iloadN XJ2.here hx rfl (hb hby own_d12_37) rfl k) ?_
    refine own_via (fun t k => XS.iconst XJ2.here hx rfl (hb hby own_d12_38) k) ?_
    show own_H TJ2 39 #[.val (.ref a1), .val (.int m1), .val (.int x1), .val (.int (3 : Int32)), .val (.int zj3)] [(.int (2 : Int32)), (.int (3 : Int32))]
    refine own_via (fun t k => XS.icmpNo XJ2.here hx rfl (hb hby own_d12_39) rfl (flt (by decide : ¬ ((3 : Int32) < (2 : Int32)))).1 k) ?_
    show own_H TJ2 42 #[.val (.ref a1), .val (.int m1), .val (.int x1), .val (.int (3 : Int32)), .val (.int zj3)] []
    refine own_via (fun t k => XS.iload XJ2.here hx rfl (hb hby own_d12_42) rfl k) ?_
    show own_H TJ2 44 #[.val (.ref a1), .val (.int m1), .val (.int x1), .val (.int (3 : Int32)), .val (.int zj3)] [(.int zj3)]
    have J4 : ∀ (TJ4 : State) (XJ4 : Stand p l e own_ib3_R s m #[(.ref a1), (.int m1), (.int x1), (.int (3 : Int32))] below meth c TJ4 [] 0 0) (EJ4 : TJ4.heap = h0) (zj5 : Int32), zj5 = (if zj3 = (0 : Int32) then (0 : Int32) else (if (own_get P (1 : Int32)) = (own_Fat P m1 x1 ((m1 + (2 : Int32)) - (3 : Int32))) then (1 : Int32) else (0 : Int32))) → own_G p e below (own_P s (own_Q (.int (own_Fb3 P m1 x1)) h0) own_ib3_R.cells own_ib3_R.slots) (TJ4.setTop (mkF m 69 #[.val (.ref a1), .val (.int m1), .val (.int x1), .val (.int (3 : Int32)), .val (.int zj3)] [(.int zj5)])) := by
      intro TJ4 XJ4 EJ4 zj5 hzj5
      refine own_via (fun t k => XS.istore XJ4.here hx rfl (hb hby own_d12_69) rfl (l' := #[.val (.ref a1), .val (.int m1), .val (.int x1), .val (.int (3 : Int32)), .val (.int zj5)]) rfl k) ?_
      refine own_via (fun t k => XS.iloadN XJ4.here hx rfl (hb hby own_d12_71) rfl k) ?_
      refine own_via (fun t k => XS.iconst XJ4.here hx rfl (hb hby own_d12_72) k) ?_
      show own_H TJ4 73 #[.val (.ref a1), .val (.int m1), .val (.int x1), .val (.int (3 : Int32)), .val (.int zj5)] [(.int (3 : Int32)), (.int (3 : Int32))]
      refine own_via (fun t k => XS.icmpNo XJ4.here hx rfl (hb hby own_d12_73) rfl (flt (by decide : ¬ ((3 : Int32) < (3 : Int32)))).1 k) ?_
      show own_H TJ4 76 #[.val (.ref a1), .val (.int m1), .val (.int x1), .val (.int (3 : Int32)), .val (.int zj5)] []
      refine own_via (fun t k => XS.iload XJ4.here hx rfl (hb hby own_d12_76) rfl k) ?_
      show own_H TJ4 78 #[.val (.ref a1), .val (.int m1), .val (.int x1), .val (.int (3 : Int32)), .val (.int zj5)] [(.int zj5)]
      have J6 : ∀ (TJ6 : State) (XJ6 : Stand p l e own_ib3_R s m #[(.ref a1), (.int m1), (.int x1), (.int (3 : Int32))] below meth c TJ6 [] 0 0) (EJ6 : TJ6.heap = h0) (zj7 : Int32), zj7 = (if zj5 = (0 : Int32) then (0 : Int32) else (if (own_get P (2 : Int32)) = (own_Fat P m1 x1 ((m1 + (3 : Int32)) - (3 : Int32))) then (1 : Int32) else (0 : Int32))) → own_G p e below (own_P s (own_Q (.int (own_Fb3 P m1 x1)) h0) own_ib3_R.cells own_ib3_R.slots) (TJ6.setTop (mkF m 103 #[.val (.ref a1), .val (.int m1), .val (.int x1), .val (.int (3 : Int32)), .val (.int zj5)] [(.int zj7)])) := by
        intro TJ6 XJ6 EJ6 zj7 hzj7
        refine own_via (fun t k => XS.istore XJ6.here hx rfl (hb hby own_d12_103) rfl (l' := #[.val (.ref a1), .val (.int m1), .val (.int x1), .val (.int (3 : Int32)), .val (.int zj7)]) rfl k) ?_
        refine own_via (fun t k => XS.iloadN XJ6.here hx rfl (hb hby own_d12_105) rfl k) ?_
        refine own_via (fun t k => XS.iconst XJ6.here hx rfl (hb hby own_d12_106) k) ?_
        show own_H TJ6 107 #[.val (.ref a1), .val (.int m1), .val (.int x1), .val (.int (3 : Int32)), .val (.int zj7)] [(.int (4 : Int32)), (.int (3 : Int32))]
        refine own_via (fun t k => XS.icmpYes XJ6.here hx rfl (pc0 := 107) (pc' := 139) rfl (hb hby own_d12_107) rfl (tlt (by decide : (3 : Int32) < (4 : Int32))).1 (by decide) (by decide) k) ?_
        show own_H TJ6 139 #[.val (.ref a1), .val (.int m1), .val (.int x1), .val (.int (3 : Int32)), .val (.int zj7)] []
        refine own_via (fun t k => XS.iload XJ6.here hx rfl (hb hby own_d12_139) rfl k) ?_
        show own_H TJ6 141 #[.val (.ref a1), .val (.int m1), .val (.int x1), .val (.int (3 : Int32)), .val (.int zj7)] [(.int zj7)]
        exact own_retN (t := .boolean) XJ6 hx Bd.returns (by simp) Bd.notSynchronized (hb hby own_d12_141) ⟨(by show (some (.int (nar .boolean zj7)) : Option Value) = some (.int (own_Fb3 P m1 x1)); subst hzj7; subst hzj5; subst hzj3; simp only [own_Fb3, if_pos hp_i0, if_pos hp_i1, if_pos hp_i2, if_pos hp_a0, if_pos hp_a1, if_pos hp_a2]), rfl, EJ6⟩ (by decide) (by decide)
      by_cases hc8 : zj5 = (0 : Int32)
      ·
        refine own_via (fun t k => XS.ifYes XJ4.here hx rfl (pc0 := 78) (pc' := 102) rfl (hb hby own_d12_78) rfl ((if0 _ _).trans (teq hc8).1) (by decide) (by decide) k) ?_
        show own_H TJ4 102 #[.val (.ref a1), .val (.int m1), .val (.int x1), .val (.int (3 : Int32)), .val (.int zj5)] []
        refine own_via (fun t k => XS.iconst XJ4.here hx rfl (hb hby own_d12_102) k) ?_
        show own_H TJ4 103 #[.val (.ref a1), .val (.int m1), .val (.int x1), .val (.int (3 : Int32)), .val (.int zj5)] [(.int (0 : Int32))]
        exact J6 _ XJ4 EJ4 _ (by simp only [if_pos hc8])
      ·
        refine own_via (fun t k => XS.ifNo XJ4.here hx rfl (hb hby own_d12_78) rfl ((if0 _ _).trans (feq hc8).1) k) ?_
        show own_H TJ4 81 #[.val (.ref a1), .val (.int m1), .val (.int x1), .val (.int (3 : Int32)), .val (.int zj5)] []
        refine own_via (fun t k => XS.aloadN XJ4.here hx rfl (hb hby own_d12_81) rfl rfl k) ?_
        show own_H TJ4 82 #[.val (.ref a1), .val (.int m1), .val (.int x1), .val (.int (3 : Int32)), .val (.int zj5)] [(.ref a1)]
        refine own_via (fun t k => XS.iconst XJ4.here hx rfl (hb hby own_d12_82) k) ?_
        show own_H TJ4 83 #[.val (.ref a1), .val (.int m1), .val (.int x1), .val (.int (3 : Int32)), .val (.int zj5)] [(.int (2 : Int32)), (.ref a1)]
        refine own_via (own_ldS (L := P) XJ4 hx hZ EJ4 i_A1 (j := (2 : Int32)) hp_i2.1 (pc := 83) (Ls := #[.val (.ref a1), .val (.int m1), .val (.int x1), .val (.int (3 : Int32)), .val (.int zj5)]) (rest := []) (hb hby own_d12_83)) ?_
        show own_H TJ4 84 #[.val (.ref a1), .val (.int m1), .val (.int x1), .val (.int (3 : Int32)), .val (.int zj5)] [(.int (own_get P (2 : Int32)))]
        refine own_via (fun t k => XS.aloadN XJ4.here hx rfl (hb hby own_d12_84) rfl rfl k) ?_
        show own_H TJ4 85 #[.val (.ref a1), .val (.int m1), .val (.int x1), .val (.int (3 : Int32)), .val (.int zj5)] [(.ref a1), (.int (own_get P (2 : Int32)))]
        refine own_via (fun t k => XS.iloadN XJ4.here hx rfl (hb hby own_d12_85) rfl k) ?_
        show own_H TJ4 86 #[.val (.ref a1), .val (.int m1), .val (.int x1), .val (.int (3 : Int32)), .val (.int zj5)] [(.int m1), (.ref a1), (.int (own_get P (2 : Int32)))]
        refine own_via (fun t k => XS.iloadN XJ4.here hx rfl (hb hby own_d12_86) rfl k) ?_
        show own_H TJ4 87 #[.val (.ref a1), .val (.int m1), .val (.int x1), .val (.int (3 : Int32)), .val (.int zj5)] [(.int x1), (.int m1), (.ref a1), (.int (own_get P (2 : Int32)))]
        refine own_via (fun t k => XS.iloadN XJ4.here hx rfl (hb hby own_d12_87) rfl k) ?_
        show own_H TJ4 88 #[.val (.ref a1), .val (.int m1), .val (.int x1), .val (.int (3 : Int32)), .val (.int zj5)] [(.int m1), (.int x1), (.int m1), (.ref a1), (.int (own_get P (2 : Int32)))]
        refine own_via (fun t k => XS.iconst XJ4.here hx rfl (hb hby own_d12_88) k) ?_
        show own_H TJ4 89 #[.val (.ref a1), .val (.int m1), .val (.int x1), .val (.int (3 : Int32)), .val (.int zj5)] [(.int (3 : Int32)), (.int m1), (.int x1), (.int m1), (.ref a1), (.int (own_get P (2 : Int32)))]
        refine own_via (fun t k => XS.iadd XJ4.here hx rfl (hb hby own_d12_89) rfl k) ?_
        show own_H TJ4 90 #[.val (.ref a1), .val (.int m1), .val (.int x1), .val (.int (3 : Int32)), .val (.int zj5)] [(.int (m1 + (3 : Int32))), (.int x1), (.int m1), (.ref a1), (.int (own_get P (2 : Int32)))]
        refine own_via (fun t k => XS.iloadN XJ4.here hx rfl (hb hby own_d12_90) rfl k) ?_
        show own_H TJ4 91 #[.val (.ref a1), .val (.int m1), .val (.int x1), .val (.int (3 : Int32)), .val (.int zj5)] [(.int (3 : Int32)), (.int (m1 + (3 : Int32))), (.int x1), (.int m1), (.ref a1), (.int (own_get P (2 : Int32)))]
        refine own_via (fun t k => XS.isub XJ4.here hx rfl (hb hby own_d12_91) rfl k) ?_
        show own_H TJ4 92 #[.val (.ref a1), .val (.int m1), .val (.int x1), .val (.int (3 : Int32)), .val (.int zj5)] [(.int ((m1 + (3 : Int32)) - (3 : Int32))), (.int x1), (.int m1), (.ref a1), (.int (own_get P (2 : Int32)))]
        obtain ⟨T9, X9, e9, st9⟩ := own_callP (y := (⟨"com/example/skipstitch/skipstitch/KmpPatternStepPinLaw", "at", "([IIII)I"⟩ : MethodName)) (W := 1) XJ4 hx hZ hown (own_u hw 90 rfl) (own_u hw 91 rfl) (own_u hw 88 rfl) (own_u hw 92 rfl) (by decide) (own_at l Z a0 hw [] a1 m1 x1 ((m1 + (3 : Int32)) - (3 : Int32)) k_1 nn P h0 i_A1 hp_a2) (by decide) (by decide) rfl rfl (by decide) (by decide) EJ4 (pc := 92) (Ls := #[.val (.ref a1), .val (.int m1), .val (.int x1), .val (.int (3 : Int32)), .val (.int zj5)]) (st := [(.int ((m1 + (3 : Int32)) - (3 : Int32))), (.int x1), (.int m1), (.ref a1), (.int (own_get P (2 : Int32)))]) (argsL := [(.ref a1), (.int m1), (.int x1), (.int ((m1 + (3 : Int32)) - (3 : Int32)))]) (rest := [(.int (own_get P (2 : Int32)))]) (by rw [hml]; rfl) (lenOf own_pd6 rfl) rfl rfl (Nat.le_of_eq rfl) (hb hby own_d12_92)
        refine own_via st9 ?_
        show own_H T9 95 #[.val (.ref a1), .val (.int m1), .val (.int x1), .val (.int (3 : Int32)), .val (.int zj5)] [(.int (own_Fat P m1 x1 ((m1 + (3 : Int32)) - (3 : Int32)))), (.int (own_get P (2 : Int32)))]
        by_cases hc10 : (own_get P (2 : Int32)) = (own_Fat P m1 x1 ((m1 + (3 : Int32)) - (3 : Int32)))
        ·
          refine own_via (fun t k => XS.icmpNo X9.here hx rfl (hb hby own_d12_95) rfl (teq hc10).2 k) ?_
          show own_H T9 98 #[.val (.ref a1), .val (.int m1), .val (.int x1), .val (.int (3 : Int32)), .val (.int zj5)] []
          refine own_via (fun t k => XS.iconst X9.here hx rfl (hb hby own_d12_98) k) ?_
          show own_H T9 99 #[.val (.ref a1), .val (.int m1), .val (.int x1), .val (.int (3 : Int32)), .val (.int zj5)] [(.int (1 : Int32))]
          refine own_via (fun t k => XS.goto X9.here hx rfl (pc0 := 99) (pc' := 103) rfl (hb hby own_d12_99) (by decide) (by decide) k) ?_
          show own_H T9 103 #[.val (.ref a1), .val (.int m1), .val (.int x1), .val (.int (3 : Int32)), .val (.int zj5)] [(.int (1 : Int32))]
          exact J6 _ X9 e9 _ (by simp only [if_neg hc8, if_pos hc10])
        ·
          refine own_via (fun t k => XS.icmpYes X9.here hx rfl (pc0 := 95) (pc' := 102) rfl (hb hby own_d12_95) rfl (feq hc10).2 (by decide) (by decide) k) ?_
          show own_H T9 102 #[.val (.ref a1), .val (.int m1), .val (.int x1), .val (.int (3 : Int32)), .val (.int zj5)] []
          refine own_via (fun t k => XS.iconst X9.here hx rfl (hb hby own_d12_102) k) ?_
          show own_H T9 103 #[.val (.ref a1), .val (.int m1), .val (.int x1), .val (.int (3 : Int32)), .val (.int zj5)] [(.int (0 : Int32))]
          exact J6 _ X9 e9 _ (by simp only [if_neg hc8, if_neg hc10])
    by_cases hc11 : zj3 = (0 : Int32)
    ·
      refine own_via (fun t k => XS.ifYes XJ2.here hx rfl (pc0 := 44) (pc' := 68) rfl (hb hby own_d12_44) rfl ((if0 _ _).trans (teq hc11).1) (by decide) (by decide) k) ?_
      show own_H TJ2 68 #[.val (.ref a1), .val (.int m1), .val (.int x1), .val (.int (3 : Int32)), .val (.int zj3)] []
      refine own_via (fun t k => XS.iconst XJ2.here hx rfl (hb hby own_d12_68) k) ?_
      show own_H TJ2 69 #[.val (.ref a1), .val (.int m1), .val (.int x1), .val (.int (3 : Int32)), .val (.int zj3)] [(.int (0 : Int32))]
      exact J4 _ XJ2 EJ2 _ (by simp only [if_pos hc11])
    ·
      refine own_via (fun t k => XS.ifNo XJ2.here hx rfl (hb hby own_d12_44) rfl ((if0 _ _).trans (feq hc11).1) k) ?_
      show own_H TJ2 47 #[.val (.ref a1), .val (.int m1), .val (.int x1), .val (.int (3 : Int32)), .val (.int zj3)] []
      refine own_via (fun t k => XS.aloadN XJ2.here hx rfl (hb hby own_d12_47) rfl rfl k) ?_
      show own_H TJ2 48 #[.val (.ref a1), .val (.int m1), .val (.int x1), .val (.int (3 : Int32)), .val (.int zj3)] [(.ref a1)]
      refine own_via (fun t k => XS.iconst XJ2.here hx rfl (hb hby own_d12_48) k) ?_
      show own_H TJ2 49 #[.val (.ref a1), .val (.int m1), .val (.int x1), .val (.int (3 : Int32)), .val (.int zj3)] [(.int (1 : Int32)), (.ref a1)]
      refine own_via (own_ldS (L := P) XJ2 hx hZ EJ2 i_A1 (j := (1 : Int32)) hp_i1.1 (pc := 49) (Ls := #[.val (.ref a1), .val (.int m1), .val (.int x1), .val (.int (3 : Int32)), .val (.int zj3)]) (rest := []) (hb hby own_d12_49)) ?_
      show own_H TJ2 50 #[.val (.ref a1), .val (.int m1), .val (.int x1), .val (.int (3 : Int32)), .val (.int zj3)] [(.int (own_get P (1 : Int32)))]
      refine own_via (fun t k => XS.aloadN XJ2.here hx rfl (hb hby own_d12_50) rfl rfl k) ?_
      show own_H TJ2 51 #[.val (.ref a1), .val (.int m1), .val (.int x1), .val (.int (3 : Int32)), .val (.int zj3)] [(.ref a1), (.int (own_get P (1 : Int32)))]
      refine own_via (fun t k => XS.iloadN XJ2.here hx rfl (hb hby own_d12_51) rfl k) ?_
      show own_H TJ2 52 #[.val (.ref a1), .val (.int m1), .val (.int x1), .val (.int (3 : Int32)), .val (.int zj3)] [(.int m1), (.ref a1), (.int (own_get P (1 : Int32)))]
      refine own_via (fun t k => XS.iloadN XJ2.here hx rfl (hb hby own_d12_52) rfl k) ?_
      show own_H TJ2 53 #[.val (.ref a1), .val (.int m1), .val (.int x1), .val (.int (3 : Int32)), .val (.int zj3)] [(.int x1), (.int m1), (.ref a1), (.int (own_get P (1 : Int32)))]
      refine own_via (fun t k => XS.iloadN XJ2.here hx rfl (hb hby own_d12_53) rfl k) ?_
      show own_H TJ2 54 #[.val (.ref a1), .val (.int m1), .val (.int x1), .val (.int (3 : Int32)), .val (.int zj3)] [(.int m1), (.int x1), (.int m1), (.ref a1), (.int (own_get P (1 : Int32)))]
      refine own_via (fun t k => XS.iconst XJ2.here hx rfl (hb hby own_d12_54) k) ?_
      show own_H TJ2 55 #[.val (.ref a1), .val (.int m1), .val (.int x1), .val (.int (3 : Int32)), .val (.int zj3)] [(.int (2 : Int32)), (.int m1), (.int x1), (.int m1), (.ref a1), (.int (own_get P (1 : Int32)))]
      refine own_via (fun t k => XS.iadd XJ2.here hx rfl (hb hby own_d12_55) rfl k) ?_
      show own_H TJ2 56 #[.val (.ref a1), .val (.int m1), .val (.int x1), .val (.int (3 : Int32)), .val (.int zj3)] [(.int (m1 + (2 : Int32))), (.int x1), (.int m1), (.ref a1), (.int (own_get P (1 : Int32)))]
      refine own_via (fun t k => XS.iloadN XJ2.here hx rfl (hb hby own_d12_56) rfl k) ?_
      show own_H TJ2 57 #[.val (.ref a1), .val (.int m1), .val (.int x1), .val (.int (3 : Int32)), .val (.int zj3)] [(.int (3 : Int32)), (.int (m1 + (2 : Int32))), (.int x1), (.int m1), (.ref a1), (.int (own_get P (1 : Int32)))]
      refine own_via (fun t k => XS.isub XJ2.here hx rfl (hb hby own_d12_57) rfl k) ?_
      show own_H TJ2 58 #[.val (.ref a1), .val (.int m1), .val (.int x1), .val (.int (3 : Int32)), .val (.int zj3)] [(.int ((m1 + (2 : Int32)) - (3 : Int32))), (.int x1), (.int m1), (.ref a1), (.int (own_get P (1 : Int32)))]
      obtain ⟨T12, X12, e12, st12⟩ := own_callP (y := (⟨"com/example/skipstitch/skipstitch/KmpPatternStepPinLaw", "at", "([IIII)I"⟩ : MethodName)) (W := 1) XJ2 hx hZ hown (own_u hw 90 rfl) (own_u hw 91 rfl) (own_u hw 88 rfl) (own_u hw 92 rfl) (by decide) (own_at l Z a0 hw [] a1 m1 x1 ((m1 + (2 : Int32)) - (3 : Int32)) k_1 nn P h0 i_A1 hp_a1) (by decide) (by decide) rfl rfl (by decide) (by decide) EJ2 (pc := 58) (Ls := #[.val (.ref a1), .val (.int m1), .val (.int x1), .val (.int (3 : Int32)), .val (.int zj3)]) (st := [(.int ((m1 + (2 : Int32)) - (3 : Int32))), (.int x1), (.int m1), (.ref a1), (.int (own_get P (1 : Int32)))]) (argsL := [(.ref a1), (.int m1), (.int x1), (.int ((m1 + (2 : Int32)) - (3 : Int32)))]) (rest := [(.int (own_get P (1 : Int32)))]) (by rw [hml]; rfl) (lenOf own_pd6 rfl) rfl rfl (Nat.le_of_eq rfl) (hb hby own_d12_58)
      refine own_via st12 ?_
      show own_H T12 61 #[.val (.ref a1), .val (.int m1), .val (.int x1), .val (.int (3 : Int32)), .val (.int zj3)] [(.int (own_Fat P m1 x1 ((m1 + (2 : Int32)) - (3 : Int32)))), (.int (own_get P (1 : Int32)))]
      by_cases hc13 : (own_get P (1 : Int32)) = (own_Fat P m1 x1 ((m1 + (2 : Int32)) - (3 : Int32)))
      ·
        refine own_via (fun t k => XS.icmpNo X12.here hx rfl (hb hby own_d12_61) rfl (teq hc13).2 k) ?_
        show own_H T12 64 #[.val (.ref a1), .val (.int m1), .val (.int x1), .val (.int (3 : Int32)), .val (.int zj3)] []
        refine own_via (fun t k => XS.iconst X12.here hx rfl (hb hby own_d12_64) k) ?_
        show own_H T12 65 #[.val (.ref a1), .val (.int m1), .val (.int x1), .val (.int (3 : Int32)), .val (.int zj3)] [(.int (1 : Int32))]
        refine own_via (fun t k => XS.goto X12.here hx rfl (pc0 := 65) (pc' := 69) rfl (hb hby own_d12_65) (by decide) (by decide) k) ?_
        show own_H T12 69 #[.val (.ref a1), .val (.int m1), .val (.int x1), .val (.int (3 : Int32)), .val (.int zj3)] [(.int (1 : Int32))]
        exact J4 _ X12 e12 _ (by simp only [if_neg hc11, if_pos hc13])
      ·
        refine own_via (fun t k => XS.icmpYes X12.here hx rfl (pc0 := 61) (pc' := 68) rfl (hb hby own_d12_61) rfl (feq hc13).2 (by decide) (by decide) k) ?_
        show own_H T12 68 #[.val (.ref a1), .val (.int m1), .val (.int x1), .val (.int (3 : Int32)), .val (.int zj3)] []
        refine own_via (fun t k => XS.iconst X12.here hx rfl (hb hby own_d12_68) k) ?_
        show own_H T12 69 #[.val (.ref a1), .val (.int m1), .val (.int x1), .val (.int (3 : Int32)), .val (.int zj3)] [(.int (0 : Int32))]
        exact J4 _ X12 e12 _ (by simp only [if_neg hc11, if_neg hc13])
  by_cases hc14 : (own_get P (0 : Int32)) = (own_Fat P m1 x1 ((m1 + (1 : Int32)) - (3 : Int32)))
  ·
    refine own_via (fun t k => XS.icmpNo X1.here hx rfl (hb hby own_d12_27) rfl (teq hc14).2 k) ?_
    show own_H T1 30 #[.val (.ref a1), .val (.int m1), .val (.int x1), .val (.int (3 : Int32)), .val (.int (1 : Int32))] []
    refine own_via (fun t k => XS.iconst X1.here hx rfl (hb hby own_d12_30) k) ?_
    show own_H T1 31 #[.val (.ref a1), .val (.int m1), .val (.int x1), .val (.int (3 : Int32)), .val (.int (1 : Int32))] [(.int (1 : Int32))]
    refine own_via (fun t k => XS.goto X1.here hx rfl (pc0 := 31) (pc' := 35) rfl (hb hby own_d12_31) (by decide) (by decide) k) ?_
    show own_H T1 35 #[.val (.ref a1), .val (.int m1), .val (.int x1), .val (.int (3 : Int32)), .val (.int (1 : Int32))] [(.int (1 : Int32))]
    exact J2 _ X1 e1 _ (by simp only [if_pos hc14])
  ·
    refine own_via (fun t k => XS.icmpYes X1.here hx rfl (pc0 := 27) (pc' := 34) rfl (hb hby own_d12_27) rfl (feq hc14).2 (by decide) (by decide) k) ?_
    show own_H T1 34 #[.val (.ref a1), .val (.int m1), .val (.int x1), .val (.int (3 : Int32)), .val (.int (1 : Int32))] []
    refine own_via (fun t k => XS.iconst X1.here hx rfl (hb hby own_d12_34) k) ?_
    show own_H T1 35 #[.val (.ref a1), .val (.int m1), .val (.int x1), .val (.int (3 : Int32)), .val (.int (1 : Int32))] [(.int (0 : Int32))]
    exact J2 _ X1 e1 _ (by simp only [if_neg hc14])
theorem own_d12_110 : decode method_3_code 110 = .ok (.iload 4, 2) := by decide +kernel
theorem own_d12_112 : decode method_3_code 112 = .ok (.ifCond .eq 24, 3) := by decide +kernel
theorem own_d12_115 : decode method_3_code 115 = .ok (.aload_n 0, 1) := by decide +kernel
theorem own_d12_116 : decode method_3_code 116 = .ok (.iconst 3, 1) := by decide +kernel
theorem own_d12_117 : decode method_3_code 117 = .ok (.iaload, 1) := by decide +kernel
theorem own_d12_118 : decode method_3_code 118 = .ok (.aload_n 0, 1) := by decide +kernel
theorem own_d12_119 : decode method_3_code 119 = .ok (.iload_n 1, 1) := by decide +kernel
theorem own_d12_120 : decode method_3_code 120 = .ok (.iload_n 2, 1) := by decide +kernel
theorem own_d12_121 : decode method_3_code 121 = .ok (.iload_n 1, 1) := by decide +kernel
theorem own_d12_122 : decode method_3_code 122 = .ok (.iconst 4, 1) := by decide +kernel
theorem own_d12_123 : decode method_3_code 123 = .ok (.iadd, 1) := by decide +kernel
theorem own_d12_124 : decode method_3_code 124 = .ok (.iload_n 3, 1) := by decide +kernel
theorem own_d12_125 : decode method_3_code 125 = .ok (.isub, 1) := by decide +kernel
theorem own_d12_126 : decode method_3_code 126 = .ok (.invokestatic 7, 3) := by decide +kernel
theorem own_d12_129 : decode method_3_code 129 = .ok (.if_icmp .ne 7, 3) := by decide +kernel
theorem own_d12_132 : decode method_3_code 132 = .ok (.iconst 1, 1) := by decide +kernel
theorem own_d12_133 : decode method_3_code 133 = .ok (.goto 4, 3) := by decide +kernel
theorem own_d12_136 : decode method_3_code 136 = .ok (.iconst 0, 1) := by decide +kernel
theorem own_d12_137 : decode method_3_code 137 = .ok (.istore 4, 2) := by decide +kernel
abbrev own_ib4_R : Room := { frames := 1, cells := 0, slots := 0, locals := 16 }
theorem own_ib4_ef (m : MethodId) (a1 : Addr) (m1 : Int32) (x1 : Int32) : entryFrame m #[(.ref a1), (.int m1), (.int x1), (.int (4 : Int32))] 5 = mkF m 0 #[.val (.ref a1), .val (.int m1), .val (.int x1), .val (.int (4 : Int32)), .unset] [] := by first | (simp [entryFrame, mkF, argsToLocals, Value.category]; done) | rfl
def own_Fb4 (P : List Int32) (m1 : Int32) (x1 : Int32) : Int32 := (let zj3 : Int32 := (if (own_get P (0 : Int32)) = (own_Fat P m1 x1 ((m1 + (1 : Int32)) - (4 : Int32))) then (1 : Int32) else (0 : Int32)); (let zj5 : Int32 := (if zj3 = (0 : Int32) then (0 : Int32) else (if (own_get P (1 : Int32)) = (own_Fat P m1 x1 ((m1 + (2 : Int32)) - (4 : Int32))) then (1 : Int32) else (0 : Int32))); (let zj7 : Int32 := (if zj5 = (0 : Int32) then (0 : Int32) else (if (own_get P (2 : Int32)) = (own_Fat P m1 x1 ((m1 + (3 : Int32)) - (4 : Int32))) then (1 : Int32) else (0 : Int32))); (let zj9 : Int32 := (if zj7 = (0 : Int32) then (0 : Int32) else (if (own_get P (3 : Int32)) = (own_Fat P m1 x1 ((m1 + (4 : Int32)) - (4 : Int32))) then (1 : Int32) else (0 : Int32))); (nar .boolean zj9)))))
set_option maxRecDepth 65536 in
set_option maxHeartbeats 40000000 in
theorem own_ib4 (l : Launch) (Z : State) (a0 : Array Value) (hw : ∀ d ∈ tables_1, d.before a0 Z = true) (ws : List Jvm.Cond) (a1 : Addr) (m1 : Int32) (x1 : Int32) (k_1 : ClassId) (nn : Int32) (P : List Int32) (h0 : Heap)  (i_A1 : Arv Z h0 a1 k_1 .int nn (P.map Value.int) (.int (0 : Int32))) (hp_i0 : own_in P (0 : Int32) nn) (hp_i1 : own_in P (1 : Int32) nn) (hp_i2 : own_in P (2 : Int32) nn) (hp_i3 : own_in P (3 : Int32) nn) (hp_a0 : ((m1 + (1 : Int32)) - (4 : Int32)) < m1 → own_in P ((m1 + (1 : Int32)) - (4 : Int32)) nn) (hp_a1 : ((m1 + (2 : Int32)) - (4 : Int32)) < m1 → own_in P ((m1 + (2 : Int32)) - (4 : Int32)) nn) (hp_a2 : ((m1 + (3 : Int32)) - (4 : Int32)) < m1 → own_in P ((m1 + (3 : Int32)) - (4 : Int32)) nn) (hp_a3 : ((m1 + (4 : Int32)) - (4 : Int32)) < m1 → own_in P ((m1 + (4 : Int32)) - (4 : Int32)) nn) :
    own_C l Z (⟨"com/example/skipstitch/skipstitch/KmpPatternStepPinLaw", "isBorder", "([IIII)Z"⟩ : MethodName) method_3_code 5 (some .boolean) ws own_ib4_R #[(.ref a1), (.int m1), (.int x1), (.int (4 : Int32))] h0 (own_Q (.int (own_Fb4 P m1 x1)) h0) := by
  refine MetFree.of_bodySF own_pn12 hisR ?_
  intro p e s m args below meth c s₁ Bd hml0 hP hK
  obtain ⟨rfl, hZ, hh⟩ := hP
  have hx := Bd.exec
  have hby := Bd.bytes
  have hml : c.maxLocals = 5 := hml0
  have hown : s.vm.findClass "com/example/skipstitch/skipstitch/KmpPatternStepPinLaw" = some m.cls := findClass_of_methodNamed Bd.named
  have hnm := (name_of_methodNamed Bd.named Bd.method).1
  have X0 : Stand p l e own_ib4_R s m #[(.ref a1), (.int m1), (.int x1), (.int (4 : Int32))] below meth c s₁ [] 0 0 := Stand.of_body Bd
  have e0 : s₁.heap = h0 := by rw [← hh, Bd.state]; rfl
  show own_G p e below (own_P s (own_Q (.int (own_Fb4 P m1 x1)) h0) own_ib4_R.cells own_ib4_R.slots) (s₁.setTop (entryFrame m #[(.ref a1), (.int m1), (.int x1), (.int (4 : Int32))] 5))
  rw [own_ib4_ef m a1 m1 x1]
  show own_H s₁ 0 #[.val (.ref a1), .val (.int m1), .val (.int x1), .val (.int (4 : Int32)), .unset] []
  refine own_via (fun t k => XS.iconst X0.here hx rfl (hb hby own_d12_0) k) ?_
  show own_H s₁ 1 #[.val (.ref a1), .val (.int m1), .val (.int x1), .val (.int (4 : Int32)), .unset] [(.int (1 : Int32))]
  refine own_via (fun t k => XS.istore X0.here hx rfl (hb hby own_d12_1) rfl (l' := #[.val (.ref a1), .val (.int m1), .val (.int x1), .val (.int (4 : Int32)), .val (.int (1 : Int32))]) rfl k) ?_
  refine own_via (fun t k => XS.iloadN X0.here hx rfl (hb hby own_d12_3) rfl k) ?_
  refine own_via (fun t k => XS.iconst X0.here hx rfl (hb hby own_d12_4) k) ?_
  show own_H s₁ 5 #[.val (.ref a1), .val (.int m1), .val (.int x1), .val (.int (4 : Int32)), .val (.int (1 : Int32))] [(.int (1 : Int32)), (.int (4 : Int32))]
  refine own_via (fun t k => XS.icmpNo X0.here hx rfl (hb hby own_d12_5) rfl (flt (by decide : ¬ ((4 : Int32) < (1 : Int32)))).1 k) ?_
  show own_H s₁ 8 #[.val (.ref a1), .val (.int m1), .val (.int x1), .val (.int (4 : Int32)), .val (.int (1 : Int32))] []
  refine own_via (fun t k => XS.iload X0.here hx rfl (hb hby own_d12_8) rfl k) ?_
  show own_H s₁ 10 #[.val (.ref a1), .val (.int m1), .val (.int x1), .val (.int (4 : Int32)), .val (.int (1 : Int32))] [(.int (1 : Int32))]
  refine own_via (fun t k => XS.ifNo X0.here hx rfl (hb hby own_d12_10) rfl ((if0 _ _).trans (feq (by decide : ¬ ((1 : Int32) = (0 : Int32)))).1) k) ?_
  show own_H s₁ 13 #[.val (.ref a1), .val (.int m1), .val (.int x1), .val (.int (4 : Int32)), .val (.int (1 : Int32))] []
  refine own_via (fun t k => XS.aloadN X0.here hx rfl (hb hby own_d12_13) rfl rfl k) ?_
  refine own_via (fun t k => XS.iconst X0.here hx rfl (hb hby own_d12_14) k) ?_
  show own_H s₁ 15 #[.val (.ref a1), .val (.int m1), .val (.int x1), .val (.int (4 : Int32)), .val (.int (1 : Int32))] [(.int (0 : Int32)), (.ref a1)]
  refine own_via (own_ldS (L := P) X0 hx hZ e0 i_A1 (j := (0 : Int32)) hp_i0.1 (pc := 15) (Ls := #[.val (.ref a1), .val (.int m1), .val (.int x1), .val (.int (4 : Int32)), .val (.int (1 : Int32))]) (rest := []) (hb hby own_d12_15)) ?_
  show own_H s₁ 16 #[.val (.ref a1), .val (.int m1), .val (.int x1), .val (.int (4 : Int32)), .val (.int (1 : Int32))] [(.int (own_get P (0 : Int32)))]
  refine own_via (fun t k => XS.aloadN X0.here hx rfl (hb hby own_d12_16) rfl rfl k) ?_
  refine own_via (fun t k => XS.iloadN X0.here hx rfl (hb hby own_d12_17) rfl k) ?_
  refine own_via (fun t k => XS.iloadN X0.here hx rfl (hb hby own_d12_18) rfl k) ?_
  refine own_via (fun t k => XS.iloadN X0.here hx rfl (hb hby own_d12_19) rfl k) ?_
  refine own_via (fun t k => XS.iconst X0.here hx rfl (hb hby own_d12_20) k) ?_
  show own_H s₁ 21 #[.val (.ref a1), .val (.int m1), .val (.int x1), .val (.int (4 : Int32)), .val (.int (1 : Int32))] [(.int (1 : Int32)), (.int m1), (.int x1), (.int m1), (.ref a1), (.int (own_get P (0 : Int32)))]
  refine own_via (fun t k => XS.iadd X0.here hx rfl (hb hby own_d12_21) rfl k) ?_
  refine own_via (fun t k => XS.iloadN X0.here hx rfl (hb hby own_d12_22) rfl k) ?_
  show own_H s₁ 23 #[.val (.ref a1), .val (.int m1), .val (.int x1), .val (.int (4 : Int32)), .val (.int (1 : Int32))] [(.int (4 : Int32)), (.int (m1 + (1 : Int32))), (.int x1), (.int m1), (.ref a1), (.int (own_get P (0 : Int32)))]
  refine own_via (fun t k => XS.isub X0.here hx rfl (hb hby own_d12_23) rfl k) ?_
  show own_H s₁ 24 #[.val (.ref a1), .val (.int m1), .val (.int x1), .val (.int (4 : Int32)), .val (.int (1 : Int32))] [(.int ((m1 + (1 : Int32)) - (4 : Int32))), (.int x1), (.int m1), (.ref a1), (.int (own_get P (0 : Int32)))]
  obtain ⟨T1, X1, e1, st1⟩ := own_callP (y := (⟨"com/example/skipstitch/skipstitch/KmpPatternStepPinLaw", "at", "([IIII)I"⟩ : MethodName)) (W := 1) X0 hx hZ hown (own_u hw 90 rfl) (own_u hw 91 rfl) (own_u hw 88 rfl) (own_u hw 92 rfl) (by decide) (own_at l Z a0 hw [] a1 m1 x1 ((m1 + (1 : Int32)) - (4 : Int32)) k_1 nn P h0 i_A1 hp_a0) (by decide) (by decide) rfl rfl (by decide) (by decide) e0 (pc := 24) (Ls := #[.val (.ref a1), .val (.int m1), .val (.int x1), .val (.int (4 : Int32)), .val (.int (1 : Int32))]) (st := [(.int ((m1 + (1 : Int32)) - (4 : Int32))), (.int x1), (.int m1), (.ref a1), (.int (own_get P (0 : Int32)))]) (argsL := [(.ref a1), (.int m1), (.int x1), (.int ((m1 + (1 : Int32)) - (4 : Int32)))]) (rest := [(.int (own_get P (0 : Int32)))]) (by rw [hml]; rfl) (lenOf own_pd6 rfl) rfl rfl (Nat.le_of_eq rfl) (hb hby own_d12_24)
  refine own_via st1 ?_
  show own_H T1 27 #[.val (.ref a1), .val (.int m1), .val (.int x1), .val (.int (4 : Int32)), .val (.int (1 : Int32))] [(.int (own_Fat P m1 x1 ((m1 + (1 : Int32)) - (4 : Int32)))), (.int (own_get P (0 : Int32)))]
  have J2 : ∀ (TJ2 : State) (XJ2 : Stand p l e own_ib4_R s m #[(.ref a1), (.int m1), (.int x1), (.int (4 : Int32))] below meth c TJ2 [] 0 0) (EJ2 : TJ2.heap = h0) (zj3 : Int32), zj3 = (if (own_get P (0 : Int32)) = (own_Fat P m1 x1 ((m1 + (1 : Int32)) - (4 : Int32))) then (1 : Int32) else (0 : Int32)) → own_G p e below (own_P s (own_Q (.int (own_Fb4 P m1 x1)) h0) own_ib4_R.cells own_ib4_R.slots) (TJ2.setTop (mkF m 35 #[.val (.ref a1), .val (.int m1), .val (.int x1), .val (.int (4 : Int32)), .val (.int (1 : Int32))] [(.int zj3)])) := by
    intro TJ2 XJ2 EJ2 zj3 hzj3
    refine own_via (fun t k => XS.istore XJ2.here hx rfl (hb hby own_d12_35) rfl (l' := #[.val (.ref a1), .val (.int m1), .val (.int x1), .val (.int (4 : Int32)), .val (.int zj3)]) rfl k) ?_
    refine own_via (fun t k => XS.iloadN XJ2.here hx rfl (hb hby own_d12_37) rfl k) ?_
    refine own_via (fun t k => XS.iconst XJ2.here hx rfl (hb hby own_d12_38) k) ?_
    show own_H TJ2 39 #[.val (.ref a1), .val (.int m1), .val (.int x1), .val (.int (4 : Int32)), .val (.int zj3)] [(.int (2 : Int32)), (.int (4 : Int32))]
    refine own_via (fun t k => XS.icmpNo XJ2.here hx rfl (hb hby own_d12_39) rfl (flt (by decide : ¬ ((4 : Int32) < (2 : Int32)))).1 k) ?_
    show own_H TJ2 42 #[.val (.ref a1), .val (.int m1), .val (.int x1), .val (.int (4 : Int32)), .val (.int zj3)] []
    refine own_via (fun t k => XS.iload XJ2.here hx rfl (hb hby own_d12_42) rfl k) ?_
    show own_H TJ2 44 #[.val (.ref a1), .val (.int m1), .val (.int x1), .val (.int (4 : Int32)), .val (.int zj3)] [(.int zj3)]
    have J4 : ∀ (TJ4 : State) (XJ4 : Stand p l e own_ib4_R s m #[(.ref a1), (.int m1), (.int x1), (.int (4 : Int32))] below meth c TJ4 [] 0 0) (EJ4 : TJ4.heap = h0) (zj5 : Int32), zj5 = (if zj3 = (0 : Int32) then (0 : Int32) else (if (own_get P (1 : Int32)) = (own_Fat P m1 x1 ((m1 + (2 : Int32)) - (4 : Int32))) then (1 : Int32) else (0 : Int32))) → own_G p e below (own_P s (own_Q (.int (own_Fb4 P m1 x1)) h0) own_ib4_R.cells own_ib4_R.slots) (TJ4.setTop (mkF m 69 #[.val (.ref a1), .val (.int m1), .val (.int x1), .val (.int (4 : Int32)), .val (.int zj3)] [(.int zj5)])) := by
      intro TJ4 XJ4 EJ4 zj5 hzj5
      refine own_via (fun t k => XS.istore XJ4.here hx rfl (hb hby own_d12_69) rfl (l' := #[.val (.ref a1), .val (.int m1), .val (.int x1), .val (.int (4 : Int32)), .val (.int zj5)]) rfl k) ?_
      refine own_via (fun t k => XS.iloadN XJ4.here hx rfl (hb hby own_d12_71) rfl k) ?_
      refine own_via (fun t k => XS.iconst XJ4.here hx rfl (hb hby own_d12_72) k) ?_
      show own_H TJ4 73 #[.val (.ref a1), .val (.int m1), .val (.int x1), .val (.int (4 : Int32)), .val (.int zj5)] [(.int (3 : Int32)), (.int (4 : Int32))]
      refine own_via (fun t k => XS.icmpNo XJ4.here hx rfl (hb hby own_d12_73) rfl (flt (by decide : ¬ ((4 : Int32) < (3 : Int32)))).1 k) ?_
      show own_H TJ4 76 #[.val (.ref a1), .val (.int m1), .val (.int x1), .val (.int (4 : Int32)), .val (.int zj5)] []
      refine own_via (fun t k => XS.iload XJ4.here hx rfl (hb hby own_d12_76) rfl k) ?_
      show own_H TJ4 78 #[.val (.ref a1), .val (.int m1), .val (.int x1), .val (.int (4 : Int32)), .val (.int zj5)] [(.int zj5)]
      have J6 : ∀ (TJ6 : State) (XJ6 : Stand p l e own_ib4_R s m #[(.ref a1), (.int m1), (.int x1), (.int (4 : Int32))] below meth c TJ6 [] 0 0) (EJ6 : TJ6.heap = h0) (zj7 : Int32), zj7 = (if zj5 = (0 : Int32) then (0 : Int32) else (if (own_get P (2 : Int32)) = (own_Fat P m1 x1 ((m1 + (3 : Int32)) - (4 : Int32))) then (1 : Int32) else (0 : Int32))) → own_G p e below (own_P s (own_Q (.int (own_Fb4 P m1 x1)) h0) own_ib4_R.cells own_ib4_R.slots) (TJ6.setTop (mkF m 103 #[.val (.ref a1), .val (.int m1), .val (.int x1), .val (.int (4 : Int32)), .val (.int zj5)] [(.int zj7)])) := by
        intro TJ6 XJ6 EJ6 zj7 hzj7
        refine own_via (fun t k => XS.istore XJ6.here hx rfl (hb hby own_d12_103) rfl (l' := #[.val (.ref a1), .val (.int m1), .val (.int x1), .val (.int (4 : Int32)), .val (.int zj7)]) rfl k) ?_
        refine own_via (fun t k => XS.iloadN XJ6.here hx rfl (hb hby own_d12_105) rfl k) ?_
        refine own_via (fun t k => XS.iconst XJ6.here hx rfl (hb hby own_d12_106) k) ?_
        show own_H TJ6 107 #[.val (.ref a1), .val (.int m1), .val (.int x1), .val (.int (4 : Int32)), .val (.int zj7)] [(.int (4 : Int32)), (.int (4 : Int32))]
        refine own_via (fun t k => XS.icmpNo XJ6.here hx rfl (hb hby own_d12_107) rfl (flt (by decide : ¬ ((4 : Int32) < (4 : Int32)))).1 k) ?_
        show own_H TJ6 110 #[.val (.ref a1), .val (.int m1), .val (.int x1), .val (.int (4 : Int32)), .val (.int zj7)] []
        refine own_via (fun t k => XS.iload XJ6.here hx rfl (hb hby own_d12_110) rfl k) ?_
        show own_H TJ6 112 #[.val (.ref a1), .val (.int m1), .val (.int x1), .val (.int (4 : Int32)), .val (.int zj7)] [(.int zj7)]
        have J8 : ∀ (TJ8 : State) (XJ8 : Stand p l e own_ib4_R s m #[(.ref a1), (.int m1), (.int x1), (.int (4 : Int32))] below meth c TJ8 [] 0 0) (EJ8 : TJ8.heap = h0) (zj9 : Int32), zj9 = (if zj7 = (0 : Int32) then (0 : Int32) else (if (own_get P (3 : Int32)) = (own_Fat P m1 x1 ((m1 + (4 : Int32)) - (4 : Int32))) then (1 : Int32) else (0 : Int32))) → own_G p e below (own_P s (own_Q (.int (own_Fb4 P m1 x1)) h0) own_ib4_R.cells own_ib4_R.slots) (TJ8.setTop (mkF m 137 #[.val (.ref a1), .val (.int m1), .val (.int x1), .val (.int (4 : Int32)), .val (.int zj7)] [(.int zj9)])) := by
          intro TJ8 XJ8 EJ8 zj9 hzj9
          refine own_via (fun t k => XS.istore XJ8.here hx rfl (hb hby own_d12_137) rfl (l' := #[.val (.ref a1), .val (.int m1), .val (.int x1), .val (.int (4 : Int32)), .val (.int zj9)]) rfl k) ?_
          refine own_via (fun t k => XS.iload XJ8.here hx rfl (hb hby own_d12_139) rfl k) ?_
          show own_H TJ8 141 #[.val (.ref a1), .val (.int m1), .val (.int x1), .val (.int (4 : Int32)), .val (.int zj9)] [(.int zj9)]
          exact own_retN (t := .boolean) XJ8 hx Bd.returns (by simp) Bd.notSynchronized (hb hby own_d12_141) ⟨(by show (some (.int (nar .boolean zj9)) : Option Value) = some (.int (own_Fb4 P m1 x1)); subst hzj9; subst hzj7; subst hzj5; subst hzj3; simp only [own_Fb4, if_pos hp_i0, if_pos hp_i1, if_pos hp_i2, if_pos hp_i3, if_pos hp_a0, if_pos hp_a1, if_pos hp_a2, if_pos hp_a3]), rfl, EJ8⟩ (by decide) (by decide)
        by_cases hc10 : zj7 = (0 : Int32)
        ·
          refine own_via (fun t k => XS.ifYes XJ6.here hx rfl (pc0 := 112) (pc' := 136) rfl (hb hby own_d12_112) rfl ((if0 _ _).trans (teq hc10).1) (by decide) (by decide) k) ?_
          show own_H TJ6 136 #[.val (.ref a1), .val (.int m1), .val (.int x1), .val (.int (4 : Int32)), .val (.int zj7)] []
          refine own_via (fun t k => XS.iconst XJ6.here hx rfl (hb hby own_d12_136) k) ?_
          show own_H TJ6 137 #[.val (.ref a1), .val (.int m1), .val (.int x1), .val (.int (4 : Int32)), .val (.int zj7)] [(.int (0 : Int32))]
          exact J8 _ XJ6 EJ6 _ (by simp only [if_pos hc10])
        ·
          refine own_via (fun t k => XS.ifNo XJ6.here hx rfl (hb hby own_d12_112) rfl ((if0 _ _).trans (feq hc10).1) k) ?_
          show own_H TJ6 115 #[.val (.ref a1), .val (.int m1), .val (.int x1), .val (.int (4 : Int32)), .val (.int zj7)] []
          refine own_via (fun t k => XS.aloadN XJ6.here hx rfl (hb hby own_d12_115) rfl rfl k) ?_
          show own_H TJ6 116 #[.val (.ref a1), .val (.int m1), .val (.int x1), .val (.int (4 : Int32)), .val (.int zj7)] [(.ref a1)]
          refine own_via (fun t k => XS.iconst XJ6.here hx rfl (hb hby own_d12_116) k) ?_
          show own_H TJ6 117 #[.val (.ref a1), .val (.int m1), .val (.int x1), .val (.int (4 : Int32)), .val (.int zj7)] [(.int (3 : Int32)), (.ref a1)]
          refine own_via (own_ldS (L := P) XJ6 hx hZ EJ6 i_A1 (j := (3 : Int32)) hp_i3.1 (pc := 117) (Ls := #[.val (.ref a1), .val (.int m1), .val (.int x1), .val (.int (4 : Int32)), .val (.int zj7)]) (rest := []) (hb hby own_d12_117)) ?_
          show own_H TJ6 118 #[.val (.ref a1), .val (.int m1), .val (.int x1), .val (.int (4 : Int32)), .val (.int zj7)] [(.int (own_get P (3 : Int32)))]
          refine own_via (fun t k => XS.aloadN XJ6.here hx rfl (hb hby own_d12_118) rfl rfl k) ?_
          show own_H TJ6 119 #[.val (.ref a1), .val (.int m1), .val (.int x1), .val (.int (4 : Int32)), .val (.int zj7)] [(.ref a1), (.int (own_get P (3 : Int32)))]
          refine own_via (fun t k => XS.iloadN XJ6.here hx rfl (hb hby own_d12_119) rfl k) ?_
          show own_H TJ6 120 #[.val (.ref a1), .val (.int m1), .val (.int x1), .val (.int (4 : Int32)), .val (.int zj7)] [(.int m1), (.ref a1), (.int (own_get P (3 : Int32)))]
          refine own_via (fun t k => XS.iloadN XJ6.here hx rfl (hb hby own_d12_120) rfl k) ?_
          show own_H TJ6 121 #[.val (.ref a1), .val (.int m1), .val (.int x1), .val (.int (4 : Int32)), .val (.int zj7)] [(.int x1), (.int m1), (.ref a1), (.int (own_get P (3 : Int32)))]
          refine own_via (fun t k => XS.iloadN XJ6.here hx rfl (hb hby own_d12_121) rfl k) ?_
          show own_H TJ6 122 #[.val (.ref a1), .val (.int m1), .val (.int x1), .val (.int (4 : Int32)), .val (.int zj7)] [(.int m1), (.int x1), (.int m1), (.ref a1), (.int (own_get P (3 : Int32)))]
          refine own_via (fun t k => XS.iconst XJ6.here hx rfl (hb hby own_d12_122) k) ?_
          show own_H TJ6 123 #[.val (.ref a1), .val (.int m1), .val (.int x1), .val (.int (4 : Int32)), .val (.int zj7)] [(.int (4 : Int32)), (.int m1), (.int x1), (.int m1), (.ref a1), (.int (own_get P (3 : Int32)))]
          refine own_via (fun t k => XS.iadd XJ6.here hx rfl (hb hby own_d12_123) rfl k) ?_
          show own_H TJ6 124 #[.val (.ref a1), .val (.int m1), .val (.int x1), .val (.int (4 : Int32)), .val (.int zj7)] [(.int (m1 + (4 : Int32))), (.int x1), (.int m1), (.ref a1), (.int (own_get P (3 : Int32)))]
          refine own_via (fun t k => XS.iloadN XJ6.here hx rfl (hb hby own_d12_124) rfl k) ?_
          show own_H TJ6 125 #[.val (.ref a1), .val (.int m1), .val (.int x1), .val (.int (4 : Int32)), .val (.int zj7)] [(.int (4 : Int32)), (.int (m1 + (4 : Int32))), (.int x1), (.int m1), (.ref a1), (.int (own_get P (3 : Int32)))]
          refine own_via (fun t k => XS.isub XJ6.here hx rfl (hb hby own_d12_125) rfl k) ?_
          show own_H TJ6 126 #[.val (.ref a1), .val (.int m1), .val (.int x1), .val (.int (4 : Int32)), .val (.int zj7)] [(.int ((m1 + (4 : Int32)) - (4 : Int32))), (.int x1), (.int m1), (.ref a1), (.int (own_get P (3 : Int32)))]
          obtain ⟨T11, X11, e11, st11⟩ := own_callP (y := (⟨"com/example/skipstitch/skipstitch/KmpPatternStepPinLaw", "at", "([IIII)I"⟩ : MethodName)) (W := 1) XJ6 hx hZ hown (own_u hw 90 rfl) (own_u hw 91 rfl) (own_u hw 88 rfl) (own_u hw 92 rfl) (by decide) (own_at l Z a0 hw [] a1 m1 x1 ((m1 + (4 : Int32)) - (4 : Int32)) k_1 nn P h0 i_A1 hp_a3) (by decide) (by decide) rfl rfl (by decide) (by decide) EJ6 (pc := 126) (Ls := #[.val (.ref a1), .val (.int m1), .val (.int x1), .val (.int (4 : Int32)), .val (.int zj7)]) (st := [(.int ((m1 + (4 : Int32)) - (4 : Int32))), (.int x1), (.int m1), (.ref a1), (.int (own_get P (3 : Int32)))]) (argsL := [(.ref a1), (.int m1), (.int x1), (.int ((m1 + (4 : Int32)) - (4 : Int32)))]) (rest := [(.int (own_get P (3 : Int32)))]) (by rw [hml]; rfl) (lenOf own_pd6 rfl) rfl rfl (Nat.le_of_eq rfl) (hb hby own_d12_126)
          refine own_via st11 ?_
          show own_H T11 129 #[.val (.ref a1), .val (.int m1), .val (.int x1), .val (.int (4 : Int32)), .val (.int zj7)] [(.int (own_Fat P m1 x1 ((m1 + (4 : Int32)) - (4 : Int32)))), (.int (own_get P (3 : Int32)))]
          by_cases hc12 : (own_get P (3 : Int32)) = (own_Fat P m1 x1 ((m1 + (4 : Int32)) - (4 : Int32)))
          ·
            refine own_via (fun t k => XS.icmpNo X11.here hx rfl (hb hby own_d12_129) rfl (teq hc12).2 k) ?_
            show own_H T11 132 #[.val (.ref a1), .val (.int m1), .val (.int x1), .val (.int (4 : Int32)), .val (.int zj7)] []
            refine own_via (fun t k => XS.iconst X11.here hx rfl (hb hby own_d12_132) k) ?_
            show own_H T11 133 #[.val (.ref a1), .val (.int m1), .val (.int x1), .val (.int (4 : Int32)), .val (.int zj7)] [(.int (1 : Int32))]
            refine own_via (fun t k => XS.goto X11.here hx rfl (pc0 := 133) (pc' := 137) rfl (hb hby own_d12_133) (by decide) (by decide) k) ?_
            show own_H T11 137 #[.val (.ref a1), .val (.int m1), .val (.int x1), .val (.int (4 : Int32)), .val (.int zj7)] [(.int (1 : Int32))]
            exact J8 _ X11 e11 _ (by simp only [if_neg hc10, if_pos hc12])
          ·
            refine own_via (fun t k => XS.icmpYes X11.here hx rfl (pc0 := 129) (pc' := 136) rfl (hb hby own_d12_129) rfl (feq hc12).2 (by decide) (by decide) k) ?_
            show own_H T11 136 #[.val (.ref a1), .val (.int m1), .val (.int x1), .val (.int (4 : Int32)), .val (.int zj7)] []
            refine own_via (fun t k => XS.iconst X11.here hx rfl (hb hby own_d12_136) k) ?_
            show own_H T11 137 #[.val (.ref a1), .val (.int m1), .val (.int x1), .val (.int (4 : Int32)), .val (.int zj7)] [(.int (0 : Int32))]
            exact J8 _ X11 e11 _ (by simp only [if_neg hc10, if_neg hc12])
      by_cases hc13 : zj5 = (0 : Int32)
      ·
        refine own_via (fun t k => XS.ifYes XJ4.here hx rfl (pc0 := 78) (pc' := 102) rfl (hb hby own_d12_78) rfl ((if0 _ _).trans (teq hc13).1) (by decide) (by decide) k) ?_
        show own_H TJ4 102 #[.val (.ref a1), .val (.int m1), .val (.int x1), .val (.int (4 : Int32)), .val (.int zj5)] []
        refine own_via (fun t k => XS.iconst XJ4.here hx rfl (hb hby own_d12_102) k) ?_
        show own_H TJ4 103 #[.val (.ref a1), .val (.int m1), .val (.int x1), .val (.int (4 : Int32)), .val (.int zj5)] [(.int (0 : Int32))]
        exact J6 _ XJ4 EJ4 _ (by simp only [if_pos hc13])
      ·
        refine own_via (fun t k => XS.ifNo XJ4.here hx rfl (hb hby own_d12_78) rfl ((if0 _ _).trans (feq hc13).1) k) ?_
        show own_H TJ4 81 #[.val (.ref a1), .val (.int m1), .val (.int x1), .val (.int (4 : Int32)), .val (.int zj5)] []
        refine own_via (fun t k => XS.aloadN XJ4.here hx rfl (hb hby own_d12_81) rfl rfl k) ?_
        show own_H TJ4 82 #[.val (.ref a1), .val (.int m1), .val (.int x1), .val (.int (4 : Int32)), .val (.int zj5)] [(.ref a1)]
        refine own_via (fun t k => XS.iconst XJ4.here hx rfl (hb hby own_d12_82) k) ?_
        show own_H TJ4 83 #[.val (.ref a1), .val (.int m1), .val (.int x1), .val (.int (4 : Int32)), .val (.int zj5)] [(.int (2 : Int32)), (.ref a1)]
        refine own_via (own_ldS (L := P) XJ4 hx hZ EJ4 i_A1 (j := (2 : Int32)) hp_i2.1 (pc := 83) (Ls := #[.val (.ref a1), .val (.int m1), .val (.int x1), .val (.int (4 : Int32)), .val (.int zj5)]) (rest := []) (hb hby own_d12_83)) ?_
        show own_H TJ4 84 #[.val (.ref a1), .val (.int m1), .val (.int x1), .val (.int (4 : Int32)), .val (.int zj5)] [(.int (own_get P (2 : Int32)))]
        refine own_via (fun t k => XS.aloadN XJ4.here hx rfl (hb hby own_d12_84) rfl rfl k) ?_
        show own_H TJ4 85 #[.val (.ref a1), .val (.int m1), .val (.int x1), .val (.int (4 : Int32)), .val (.int zj5)] [(.ref a1), (.int (own_get P (2 : Int32)))]
        refine own_via (fun t k => XS.iloadN XJ4.here hx rfl (hb hby own_d12_85) rfl k) ?_
        show own_H TJ4 86 #[.val (.ref a1), .val (.int m1), .val (.int x1), .val (.int (4 : Int32)), .val (.int zj5)] [(.int m1), (.ref a1), (.int (own_get P (2 : Int32)))]
        refine own_via (fun t k => XS.iloadN XJ4.here hx rfl (hb hby own_d12_86) rfl k) ?_
        show own_H TJ4 87 #[.val (.ref a1), .val (.int m1), .val (.int x1), .val (.int (4 : Int32)), .val (.int zj5)] [(.int x1), (.int m1), (.ref a1), (.int (own_get P (2 : Int32)))]
        refine own_via (fun t k => XS.iloadN XJ4.here hx rfl (hb hby own_d12_87) rfl k) ?_
        show own_H TJ4 88 #[.val (.ref a1), .val (.int m1), .val (.int x1), .val (.int (4 : Int32)), .val (.int zj5)] [(.int m1), (.int x1), (.int m1), (.ref a1), (.int (own_get P (2 : Int32)))]
        refine own_via (fun t k => XS.iconst XJ4.here hx rfl (hb hby own_d12_88) k) ?_
        show own_H TJ4 89 #[.val (.ref a1), .val (.int m1), .val (.int x1), .val (.int (4 : Int32)), .val (.int zj5)] [(.int (3 : Int32)), (.int m1), (.int x1), (.int m1), (.ref a1), (.int (own_get P (2 : Int32)))]
        refine own_via (fun t k => XS.iadd XJ4.here hx rfl (hb hby own_d12_89) rfl k) ?_
        show own_H TJ4 90 #[.val (.ref a1), .val (.int m1), .val (.int x1), .val (.int (4 : Int32)), .val (.int zj5)] [(.int (m1 + (3 : Int32))), (.int x1), (.int m1), (.ref a1), (.int (own_get P (2 : Int32)))]
        refine own_via (fun t k => XS.iloadN XJ4.here hx rfl (hb hby own_d12_90) rfl k) ?_
        show own_H TJ4 91 #[.val (.ref a1), .val (.int m1), .val (.int x1), .val (.int (4 : Int32)), .val (.int zj5)] [(.int (4 : Int32)), (.int (m1 + (3 : Int32))), (.int x1), (.int m1), (.ref a1), (.int (own_get P (2 : Int32)))]
        refine own_via (fun t k => XS.isub XJ4.here hx rfl (hb hby own_d12_91) rfl k) ?_
        show own_H TJ4 92 #[.val (.ref a1), .val (.int m1), .val (.int x1), .val (.int (4 : Int32)), .val (.int zj5)] [(.int ((m1 + (3 : Int32)) - (4 : Int32))), (.int x1), (.int m1), (.ref a1), (.int (own_get P (2 : Int32)))]
        obtain ⟨T14, X14, e14, st14⟩ := own_callP (y := (⟨"com/example/skipstitch/skipstitch/KmpPatternStepPinLaw", "at", "([IIII)I"⟩ : MethodName)) (W := 1) XJ4 hx hZ hown (own_u hw 90 rfl) (own_u hw 91 rfl) (own_u hw 88 rfl) (own_u hw 92 rfl) (by decide) (own_at l Z a0 hw [] a1 m1 x1 ((m1 + (3 : Int32)) - (4 : Int32)) k_1 nn P h0 i_A1 hp_a2) (by decide) (by decide) rfl rfl (by decide) (by decide) EJ4 (pc := 92) (Ls := #[.val (.ref a1), .val (.int m1), .val (.int x1), .val (.int (4 : Int32)), .val (.int zj5)]) (st := [(.int ((m1 + (3 : Int32)) - (4 : Int32))), (.int x1), (.int m1), (.ref a1), (.int (own_get P (2 : Int32)))]) (argsL := [(.ref a1), (.int m1), (.int x1), (.int ((m1 + (3 : Int32)) - (4 : Int32)))]) (rest := [(.int (own_get P (2 : Int32)))]) (by rw [hml]; rfl) (lenOf own_pd6 rfl) rfl rfl (Nat.le_of_eq rfl) (hb hby own_d12_92)
        refine own_via st14 ?_
        show own_H T14 95 #[.val (.ref a1), .val (.int m1), .val (.int x1), .val (.int (4 : Int32)), .val (.int zj5)] [(.int (own_Fat P m1 x1 ((m1 + (3 : Int32)) - (4 : Int32)))), (.int (own_get P (2 : Int32)))]
        by_cases hc15 : (own_get P (2 : Int32)) = (own_Fat P m1 x1 ((m1 + (3 : Int32)) - (4 : Int32)))
        ·
          refine own_via (fun t k => XS.icmpNo X14.here hx rfl (hb hby own_d12_95) rfl (teq hc15).2 k) ?_
          show own_H T14 98 #[.val (.ref a1), .val (.int m1), .val (.int x1), .val (.int (4 : Int32)), .val (.int zj5)] []
          refine own_via (fun t k => XS.iconst X14.here hx rfl (hb hby own_d12_98) k) ?_
          show own_H T14 99 #[.val (.ref a1), .val (.int m1), .val (.int x1), .val (.int (4 : Int32)), .val (.int zj5)] [(.int (1 : Int32))]
          refine own_via (fun t k => XS.goto X14.here hx rfl (pc0 := 99) (pc' := 103) rfl (hb hby own_d12_99) (by decide) (by decide) k) ?_
          show own_H T14 103 #[.val (.ref a1), .val (.int m1), .val (.int x1), .val (.int (4 : Int32)), .val (.int zj5)] [(.int (1 : Int32))]
          exact J6 _ X14 e14 _ (by simp only [if_neg hc13, if_pos hc15])
        ·
          refine own_via (fun t k => XS.icmpYes X14.here hx rfl (pc0 := 95) (pc' := 102) rfl (hb hby own_d12_95) rfl (feq hc15).2 (by decide) (by decide) k) ?_
          show own_H T14 102 #[.val (.ref a1), .val (.int m1), .val (.int x1), .val (.int (4 : Int32)), .val (.int zj5)] []
          refine own_via (fun t k => XS.iconst X14.here hx rfl (hb hby own_d12_102) k) ?_
          show own_H T14 103 #[.val (.ref a1), .val (.int m1), .val (.int x1), .val (.int (4 : Int32)), .val (.int zj5)] [(.int (0 : Int32))]
          exact J6 _ X14 e14 _ (by simp only [if_neg hc13, if_neg hc15])
    by_cases hc16 : zj3 = (0 : Int32)
    ·
      refine own_via (fun t k => XS.ifYes XJ2.here hx rfl (pc0 := 44) (pc' := 68) rfl (hb hby own_d12_44) rfl ((if0 _ _).trans (teq hc16).1) (by decide) (by decide) k) ?_
      show own_H TJ2 68 #[.val (.ref a1), .val (.int m1), .val (.int x1), .val (.int (4 : Int32)), .val (.int zj3)] []
      refine own_via (fun t k => XS.iconst XJ2.here hx rfl (hb hby own_d12_68) k) ?_
      show own_H TJ2 69 #[.val (.ref a1), .val (.int m1), .val (.int x1), .val (.int (4 : Int32)), .val (.int zj3)] [(.int (0 : Int32))]
      exact J4 _ XJ2 EJ2 _ (by simp only [if_pos hc16])
    ·
      refine own_via (fun t k => XS.ifNo XJ2.here hx rfl (hb hby own_d12_44) rfl ((if0 _ _).trans (feq hc16).1) k) ?_
      show own_H TJ2 47 #[.val (.ref a1), .val (.int m1), .val (.int x1), .val (.int (4 : Int32)), .val (.int zj3)] []
      refine own_via (fun t k => XS.aloadN XJ2.here hx rfl (hb hby own_d12_47) rfl rfl k) ?_
      show own_H TJ2 48 #[.val (.ref a1), .val (.int m1), .val (.int x1), .val (.int (4 : Int32)), .val (.int zj3)] [(.ref a1)]
      refine own_via (fun t k => XS.iconst XJ2.here hx rfl (hb hby own_d12_48) k) ?_
      show own_H TJ2 49 #[.val (.ref a1), .val (.int m1), .val (.int x1), .val (.int (4 : Int32)), .val (.int zj3)] [(.int (1 : Int32)), (.ref a1)]
      refine own_via (own_ldS (L := P) XJ2 hx hZ EJ2 i_A1 (j := (1 : Int32)) hp_i1.1 (pc := 49) (Ls := #[.val (.ref a1), .val (.int m1), .val (.int x1), .val (.int (4 : Int32)), .val (.int zj3)]) (rest := []) (hb hby own_d12_49)) ?_
      show own_H TJ2 50 #[.val (.ref a1), .val (.int m1), .val (.int x1), .val (.int (4 : Int32)), .val (.int zj3)] [(.int (own_get P (1 : Int32)))]
      refine own_via (fun t k => XS.aloadN XJ2.here hx rfl (hb hby own_d12_50) rfl rfl k) ?_
      show own_H TJ2 51 #[.val (.ref a1), .val (.int m1), .val (.int x1), .val (.int (4 : Int32)), .val (.int zj3)] [(.ref a1), (.int (own_get P (1 : Int32)))]
      refine own_via (fun t k => XS.iloadN XJ2.here hx rfl (hb hby own_d12_51) rfl k) ?_
      show own_H TJ2 52 #[.val (.ref a1), .val (.int m1), .val (.int x1), .val (.int (4 : Int32)), .val (.int zj3)] [(.int m1), (.ref a1), (.int (own_get P (1 : Int32)))]
      refine own_via (fun t k => XS.iloadN XJ2.here hx rfl (hb hby own_d12_52) rfl k) ?_
      show own_H TJ2 53 #[.val (.ref a1), .val (.int m1), .val (.int x1), .val (.int (4 : Int32)), .val (.int zj3)] [(.int x1), (.int m1), (.ref a1), (.int (own_get P (1 : Int32)))]
      refine own_via (fun t k => XS.iloadN XJ2.here hx rfl (hb hby own_d12_53) rfl k) ?_
      show own_H TJ2 54 #[.val (.ref a1), .val (.int m1), .val (.int x1), .val (.int (4 : Int32)), .val (.int zj3)] [(.int m1), (.int x1), (.int m1), (.ref a1), (.int (own_get P (1 : Int32)))]
      refine own_via (fun t k => XS.iconst XJ2.here hx rfl (hb hby own_d12_54) k) ?_
      show own_H TJ2 55 #[.val (.ref a1), .val (.int m1), .val (.int x1), .val (.int (4 : Int32)), .val (.int zj3)] [(.int (2 : Int32)), (.int m1), (.int x1), (.int m1), (.ref a1), (.int (own_get P (1 : Int32)))]
      refine own_via (fun t k => XS.iadd XJ2.here hx rfl (hb hby own_d12_55) rfl k) ?_
      show own_H TJ2 56 #[.val (.ref a1), .val (.int m1), .val (.int x1), .val (.int (4 : Int32)), .val (.int zj3)] [(.int (m1 + (2 : Int32))), (.int x1), (.int m1), (.ref a1), (.int (own_get P (1 : Int32)))]
      refine own_via (fun t k => XS.iloadN XJ2.here hx rfl (hb hby own_d12_56) rfl k) ?_
      show own_H TJ2 57 #[.val (.ref a1), .val (.int m1), .val (.int x1), .val (.int (4 : Int32)), .val (.int zj3)] [(.int (4 : Int32)), (.int (m1 + (2 : Int32))), (.int x1), (.int m1), (.ref a1), (.int (own_get P (1 : Int32)))]
      refine own_via (fun t k => XS.isub XJ2.here hx rfl (hb hby own_d12_57) rfl k) ?_
      show own_H TJ2 58 #[.val (.ref a1), .val (.int m1), .val (.int x1), .val (.int (4 : Int32)), .val (.int zj3)] [(.int ((m1 + (2 : Int32)) - (4 : Int32))), (.int x1), (.int m1), (.ref a1), (.int (own_get P (1 : Int32)))]
      obtain ⟨T17, X17, e17, st17⟩ := own_callP (y := (⟨"com/example/skipstitch/skipstitch/KmpPatternStepPinLaw", "at", "([IIII)I"⟩ : MethodName)) (W := 1) XJ2 hx hZ hown (own_u hw 90 rfl) (own_u hw 91 rfl) (own_u hw 88 rfl) (own_u hw 92 rfl) (by decide) (own_at l Z a0 hw [] a1 m1 x1 ((m1 + (2 : Int32)) - (4 : Int32)) k_1 nn P h0 i_A1 hp_a1) (by decide) (by decide) rfl rfl (by decide) (by decide) EJ2 (pc := 58) (Ls := #[.val (.ref a1), .val (.int m1), .val (.int x1), .val (.int (4 : Int32)), .val (.int zj3)]) (st := [(.int ((m1 + (2 : Int32)) - (4 : Int32))), (.int x1), (.int m1), (.ref a1), (.int (own_get P (1 : Int32)))]) (argsL := [(.ref a1), (.int m1), (.int x1), (.int ((m1 + (2 : Int32)) - (4 : Int32)))]) (rest := [(.int (own_get P (1 : Int32)))]) (by rw [hml]; rfl) (lenOf own_pd6 rfl) rfl rfl (Nat.le_of_eq rfl) (hb hby own_d12_58)
      refine own_via st17 ?_
      show own_H T17 61 #[.val (.ref a1), .val (.int m1), .val (.int x1), .val (.int (4 : Int32)), .val (.int zj3)] [(.int (own_Fat P m1 x1 ((m1 + (2 : Int32)) - (4 : Int32)))), (.int (own_get P (1 : Int32)))]
      by_cases hc18 : (own_get P (1 : Int32)) = (own_Fat P m1 x1 ((m1 + (2 : Int32)) - (4 : Int32)))
      ·
        refine own_via (fun t k => XS.icmpNo X17.here hx rfl (hb hby own_d12_61) rfl (teq hc18).2 k) ?_
        show own_H T17 64 #[.val (.ref a1), .val (.int m1), .val (.int x1), .val (.int (4 : Int32)), .val (.int zj3)] []
        refine own_via (fun t k => XS.iconst X17.here hx rfl (hb hby own_d12_64) k) ?_
        show own_H T17 65 #[.val (.ref a1), .val (.int m1), .val (.int x1), .val (.int (4 : Int32)), .val (.int zj3)] [(.int (1 : Int32))]
        refine own_via (fun t k => XS.goto X17.here hx rfl (pc0 := 65) (pc' := 69) rfl (hb hby own_d12_65) (by decide) (by decide) k) ?_
        show own_H T17 69 #[.val (.ref a1), .val (.int m1), .val (.int x1), .val (.int (4 : Int32)), .val (.int zj3)] [(.int (1 : Int32))]
        exact J4 _ X17 e17 _ (by simp only [if_neg hc16, if_pos hc18])
      ·
        refine own_via (fun t k => XS.icmpYes X17.here hx rfl (pc0 := 61) (pc' := 68) rfl (hb hby own_d12_61) rfl (feq hc18).2 (by decide) (by decide) k) ?_
        show own_H T17 68 #[.val (.ref a1), .val (.int m1), .val (.int x1), .val (.int (4 : Int32)), .val (.int zj3)] []
        refine own_via (fun t k => XS.iconst X17.here hx rfl (hb hby own_d12_68) k) ?_
        show own_H T17 69 #[.val (.ref a1), .val (.int m1), .val (.int x1), .val (.int (4 : Int32)), .val (.int zj3)] [(.int (0 : Int32))]
        exact J4 _ X17 e17 _ (by simp only [if_neg hc16, if_neg hc18])
  by_cases hc19 : (own_get P (0 : Int32)) = (own_Fat P m1 x1 ((m1 + (1 : Int32)) - (4 : Int32)))
  ·
    refine own_via (fun t k => XS.icmpNo X1.here hx rfl (hb hby own_d12_27) rfl (teq hc19).2 k) ?_
    show own_H T1 30 #[.val (.ref a1), .val (.int m1), .val (.int x1), .val (.int (4 : Int32)), .val (.int (1 : Int32))] []
    refine own_via (fun t k => XS.iconst X1.here hx rfl (hb hby own_d12_30) k) ?_
    show own_H T1 31 #[.val (.ref a1), .val (.int m1), .val (.int x1), .val (.int (4 : Int32)), .val (.int (1 : Int32))] [(.int (1 : Int32))]
    refine own_via (fun t k => XS.goto X1.here hx rfl (pc0 := 31) (pc' := 35) rfl (hb hby own_d12_31) (by decide) (by decide) k) ?_
    show own_H T1 35 #[.val (.ref a1), .val (.int m1), .val (.int x1), .val (.int (4 : Int32)), .val (.int (1 : Int32))] [(.int (1 : Int32))]
    exact J2 _ X1 e1 _ (by simp only [if_pos hc19])
  ·
    refine own_via (fun t k => XS.icmpYes X1.here hx rfl (pc0 := 27) (pc' := 34) rfl (hb hby own_d12_27) rfl (feq hc19).2 (by decide) (by decide) k) ?_
    show own_H T1 34 #[.val (.ref a1), .val (.int m1), .val (.int x1), .val (.int (4 : Int32)), .val (.int (1 : Int32))] []
    refine own_via (fun t k => XS.iconst X1.here hx rfl (hb hby own_d12_34) k) ?_
    show own_H T1 35 #[.val (.ref a1), .val (.int m1), .val (.int x1), .val (.int (4 : Int32)), .val (.int (1 : Int32))] [(.int (0 : Int32))]
    exact J2 _ X1 e1 _ (by simp only [if_neg hc19])
def own_ok (P FB : List Int32) (nn z2 : Int32) : Prop := (∃ p0, P = [p0] ∧ FB = own_FB1 p0 ∧ nn = 1 ∧ z2 = 2) ∨ (∃ p0 p1, P = [p0, p1] ∧ FB = own_FB2 p0 p1 ∧ nn = 2 ∧ z2 = 3) ∨ (∃ p0 p1 p2, P = [p0, p1, p2] ∧ FB = own_FB3 p0 p1 p2 ∧ nn = 3 ∧ z2 = 4) ∨ (∃ p0 p1 p2 p3, P = [p0, p1, p2, p3] ∧ FB = own_FB4 p0 p1 p2 p3 ∧ nn = 4 ∧ z2 = 5)
abbrev own_it_R : Room := { frames := 3, cells := 14, slots := 800, locals := 90 }
def own_it_q (Z : State) (a1 : Addr) (a2 : Addr) (a3 : Addr) (k_1 : ClassId) (P : List Int32) (FB : List Int32) (nn : Int32) (z2 : Int32) (h0 : Heap) (v : Option Value) (h : Heap) : Prop := ∃ (x : Addr) (y : Addr) (kx : ClassId) (ky : ClassId), v = none ∧ Keep h0 h [a1] ∧ h0.size ≤ x ∧ h0.size ≤ y ∧ Exa Z h a1 own_cK ∧ Fld Z h a1 own_cK "units" "[I" (.ref x) ∧ Fld Z h a1 own_cK "fallbacks" "[I" (.ref y) ∧ Arv Z h x kx .int nn (P.map Value.int) (.int (0 : Int32)) ∧ Arv Z h y ky .int z2 (FB.map Value.int) (.int (0 : Int32))
set_option maxRecDepth 65536 in
set_option maxHeartbeats 40000000 in
theorem own_it (l : Launch) (Z : State) (a0 : Array Value) (hw : ∀ d ∈ tables_1, d.before a0 Z = true) (ws : List Jvm.Cond) (a1 : Addr) (a2 : Addr) (a3 : Addr) (k_1 : ClassId) (P : List Int32) (FB : List Int32) (nn : Int32) (z2 : Int32) (h0 : Heap) (n0 : Nat) (Z0 : n0 ≤ h0.size) (i_Ea : Exa Z h0 a1 own_cK) (i_F_fallbacks : Fld Z h0 a1 own_cK "fallbacks" "[I" .null) (i_F_grams : Fld Z h0 a1 own_cK "grams" own_dG .null) (i_F_key : Fld Z h0 a1 own_cK "key" "I" (.int (0 : Int32))) (i_F_firstOfEachLowByte : Fld Z h0 a1 own_cK "firstOfEachLowByte" "[I" .null) (i_F_units : Fld Z h0 a1 own_cK "units" "[I" .null) (i_F_matching : Fld Z h0 a1 own_cK "matching" own_dM .null) (i_A1 : Arv Z h0 a2 k_1 .int nn (P.map Value.int) (.int (0 : Int32))) (i_E2 : Exa Z h0 a2 "[I") (i_E3 : Exa Z h0 a3 own_cM) (g_a1 : n0 ≤ a1) (ne_a1_a2 : a1 ≠ a2) (hp_hq : own_ok P FB nn z2) :
    own_CW l Z (⟨"com/example/skipstitch/skipstitch/KmpPattern", "<init>", "([ILcom/example/skipstitch/skipstitch/Matching;)V"⟩ : MethodName) prog_6_method_1_code 3 none ws own_it_R #[(.ref a1), (.ref a2), (.ref a3)] h0 (own_W n0 (own_it_q Z a1 a2 a3 k_1 P FB nn z2 h0)) := by
  rcases hp_hq with ⟨p0, rfl, rfl, rfl, rfl⟩ | ⟨p0, p1, rfl, rfl, rfl, rfl⟩ | ⟨p0, p1, p2, rfl, rfl, rfl, rfl⟩ | ⟨p0, p1, p2, p3, rfl, rfl, rfl, rfl⟩
  · exact own_it1 l Z a0 hw ws a1 a2 a3 k_1 p0 h0 n0 Z0 i_Ea i_F_fallbacks i_F_grams i_F_key i_F_firstOfEachLowByte i_F_units i_F_matching i_A1 i_E2 i_E3 g_a1 ne_a1_a2
  · exact own_it2 l Z a0 hw ws a1 a2 a3 k_1 p0 p1 h0 n0 Z0 i_Ea i_F_fallbacks i_F_grams i_F_key i_F_firstOfEachLowByte i_F_units i_F_matching i_A1 i_E2 i_E3 g_a1 ne_a1_a2
  · exact own_it3 l Z a0 hw ws a1 a2 a3 k_1 p0 p1 p2 h0 n0 Z0 i_Ea i_F_fallbacks i_F_grams i_F_key i_F_firstOfEachLowByte i_F_units i_F_matching i_A1 i_E2 i_E3 g_a1 ne_a1_a2
  · exact own_it4 l Z a0 hw ws a1 a2 a3 k_1 p0 p1 p2 p3 h0 n0 Z0 i_Ea i_F_fallbacks i_F_grams i_F_key i_F_firstOfEachLowByte i_F_units i_F_matching i_A1 i_E2 i_E3 g_a1 ne_a1_a2
def own_exp (P : List Int32) (m x : Int32) : Int32 :=
  let e1 : Int32 := if (m + (1 : Int32)) < (1 : Int32) then (0 : Int32) else if own_Fb1 P m x = (0 : Int32) then (0 : Int32) else (1 : Int32)
  let e2 : Int32 := if (m + (1 : Int32)) < (2 : Int32) then e1 else if own_Fb2 P m x = (0 : Int32) then e1 else (2 : Int32)
  let e3 : Int32 := if (m + (1 : Int32)) < (3 : Int32) then e2 else if own_Fb3 P m x = (0 : Int32) then e2 else (3 : Int32)
  if (m + (1 : Int32)) < (4 : Int32) then e3 else if own_Fb4 P m x = (0 : Int32) then e3 else (4 : Int32)
theorem own_j0 {a z : Int32} {L : List Int32} (h : (0 : Int32) < z) : own_in (a :: L) 0 z := ⟨⟨by decide, h⟩, by show 0 < L.length + 1; omega⟩
theorem own_j1 {a b z : Int32} {L : List Int32} (h : (1 : Int32) < z) : own_in (a :: b :: L) 1 z := ⟨⟨by decide, h⟩, by show 1 < L.length + 1 + 1; omega⟩
theorem own_j2 {a b c z : Int32} {L : List Int32} (h : (2 : Int32) < z) : own_in (a :: b :: c :: L) 2 z := ⟨⟨by decide, h⟩, by show 2 < L.length + 1 + 1 + 1; omega⟩
theorem own_j3 {a b c d z : Int32} {L : List Int32} (h : (3 : Int32) < z) : own_in (a :: b :: c :: d :: L) 3 z := ⟨⟨by decide, h⟩, by show 3 < L.length + 1 + 1 + 1 + 1; omega⟩
theorem own_g0 (a : Int32) (L : List Int32) : own_get (a :: L) 0 = a := rfl
theorem own_g1 (a b : Int32) (L : List Int32) : own_get (a :: b :: L) 1 = b := rfl
theorem own_g2 (a b c : Int32) (L : List Int32) : own_get (a :: b :: c :: L) 2 = c := rfl
theorem own_g3 (a b c d : Int32) (L : List Int32) : own_get (a :: b :: c :: d :: L) 3 = d := rfl
theorem own_g4 (a b c d e : Int32) (L : List Int32) : own_get (a :: b :: c :: d :: e :: L) 4 = e := rfl
theorem own_ifr {c : Prop} [Decidable c] {a b : Int32} {Q : Int32 → Prop} (ha : Q a) (hb : Q b) : Q (if c then a else b) := by split <;> assumption
theorem own_f32 (p0 p1 p2 : Int32) : own_get (own_FB3 p0 p1 p2) 2 = 0 ∨ own_get (own_FB3 p0 p1 p2) 2 = 1 := by
  rw [own_FB3, own_g2]
  exact own_ifr (Q := fun v : Int32 => v = 0 ∨ v = 1) (by rcases own_t1r p0 p1 with q | q <;> rw [q] <;> exact Or.inl rfl) (own_t1r p0 p1)
theorem own_f42 (p0 p1 p2 p3 : Int32) : own_get (own_FB4 p0 p1 p2 p3) 2 = 0 ∨ own_get (own_FB4 p0 p1 p2 p3) 2 = 1 := by
  rw [own_FB4, own_g2]
  exact own_ifr (Q := fun v : Int32 => v = 0 ∨ v = 1) (by rcases own_t1r p0 p1 with q | q <;> rw [q] <;> exact Or.inl rfl) (own_t1r p0 p1)
theorem own_f43 (p0 p1 p2 p3 : Int32) : own_get (own_FB4 p0 p1 p2 p3) 3 = 0 ∨ own_get (own_FB4 p0 p1 p2 p3) 3 = 1 ∨ own_get (own_FB4 p0 p1 p2 p3) 3 = 2 := by
  have r := own_f42 p0 p1 p2 p3
  rw [own_FB4, own_g2] at r
  rw [own_FB4, own_g3]
  refine own_ifr (Q := fun v : Int32 => v = 0 ∨ v = 1 ∨ v = 2) ?_ (own_t2r p0 p1 p2)
  rcases own_t2r p0 p1 p2 with q | q | q <;> rw [q]
  · exact Or.inl rfl
  · exact Or.inl rfl
  · rw [own_g2]; rcases r with r | r
    · exact Or.inl r
    · exact Or.inr (Or.inl r)
theorem own_okL {P FB : List Int32} {nn z2 : Int32} (h : own_ok P FB nn z2) : own_c4 nn ∧ P.length = nn.toNatClampNeg := by
  rcases h with ⟨p0, rfl, rfl, rfl, rfl⟩ | ⟨p0, p1, rfl, rfl, rfl, rfl⟩ | ⟨p0, p1, p2, rfl, rfl, rfl, rfl⟩ | ⟨p0, p1, p2, p3, rfl, rfl, rfl, rfl⟩
  · exact ⟨Or.inl rfl, rfl⟩
  · exact ⟨Or.inr (Or.inl rfl), rfl⟩
  · exact ⟨Or.inr (Or.inr (Or.inl rfl)), rfl⟩
  · exact ⟨Or.inr (Or.inr (Or.inr rfl)), rfl⟩
theorem own_okS {P FB : List Int32} {nn z2 m : Int32} (h : own_ok P FB nn z2) (hm : own_pl nn m) : own_sok P FB nn z2 3 m := by
  rcases h with ⟨p0, rfl, rfl, rfl, rfl⟩ | ⟨p0, p1, rfl, rfl, rfl, rfl⟩ | ⟨p0, p1, p2, rfl, rfl, rfl, rfl⟩ | ⟨p0, p1, p2, p3, rfl, rfl, rfl, rfl⟩
  · obtain rfl := own_m1 hm
    exact own_sok0 _ (own_j0 (by decide))
  · rcases own_m2 hm with rfl | rfl
    · exact own_sok0 _ (own_j0 (by decide))
    · exact own_sok1 2 (own_j0 (by decide)) (own_j1 (by decide)) (own_j1 (by decide)) rfl
  · rcases own_m3 hm with rfl | rfl | rfl
    · exact own_sok0 _ (own_j0 (by decide))
    · exact own_sok1 2 (own_j0 (by decide)) (own_j1 (by decide)) (own_j1 (by decide)) rfl
    · exact own_sok2 1 (own_j0 (by decide)) (own_j1 (by decide)) (own_j2 (by decide)) (own_j1 (by decide)) (own_j2 (by decide)) rfl (own_f32 p0 p1 p2)
  · rcases own_m4 hm with rfl | rfl | rfl | rfl
    · exact own_sok0 _ (own_j0 (by decide))
    · exact own_sok1 2 (own_j0 (by decide)) (own_j1 (by decide)) (own_j1 (by decide)) rfl
    · exact own_sok2 1 (own_j0 (by decide)) (own_j1 (by decide)) (own_j2 (by decide)) (own_j1 (by decide)) (own_j2 (by decide)) rfl (own_f42 p0 p1 p2 p3)
    · exact own_sok3 0 (own_j0 (by decide)) (own_j1 (by decide)) (own_j2 (by decide)) (own_j3 (by decide)) (own_j1 (by decide)) (own_j2 (by decide)) (own_j3 (by decide)) rfl (own_f42 p0 p1 p2 p3) (own_f43 p0 p1 p2 p3)
abbrev own_PR (nn m : Int32) : Prop := (nn = 1 ∧ m = 0) ∨ (nn = 2 ∧ m = 0) ∨ (nn = 2 ∧ m = 1) ∨ (nn = 3 ∧ m = 0) ∨ (nn = 3 ∧ m = 1) ∨ (nn = 3 ∧ m = 2) ∨ (nn = 4 ∧ m = 0) ∨ (nn = 4 ∧ m = 1) ∨ (nn = 4 ∧ m = 2) ∨ (nn = 4 ∧ m = 3)
theorem own_pr {nn m : Int32} (hc : own_c4 nn) (hm : own_pl nn m) : own_PR nn m := by
  rcases hc with rfl | rfl | rfl | rfl
  · obtain rfl := own_m1 hm; decide
  · rcases own_m2 hm with rfl | rfl <;> decide
  · rcases own_m3 hm with rfl | rfl | rfl <;> decide
  · rcases own_m4 hm with rfl | rfl | rfl | rfl <;> decide
theorem own_bi_1_0 {P : List Int32} {nn m : Int32} (hl : P.length = nn.toNatClampNeg) (hp : own_PR nn m) (hk : ¬ (m + (1 : Int32)) < (1 : Int32)) : own_in P (0 : Int32) nn := by
  rcases hp with ⟨rfl, rfl⟩ | ⟨rfl, rfl⟩ | ⟨rfl, rfl⟩ | ⟨rfl, rfl⟩ | ⟨rfl, rfl⟩ | ⟨rfl, rfl⟩ | ⟨rfl, rfl⟩ | ⟨rfl, rfl⟩ | ⟨rfl, rfl⟩ | ⟨rfl, rfl⟩ <;> first | exact ⟨⟨by decide, by decide⟩, by rw [hl]; decide⟩ | exact absurd (by decide) hk
theorem own_ba_1_0 {P : List Int32} {nn m : Int32} (hl : P.length = nn.toNatClampNeg) (hp : own_PR nn m) (hk : ¬ (m + (1 : Int32)) < (1 : Int32)) : ((m + (1 : Int32)) - (1 : Int32)) < m → own_in P ((m + (1 : Int32)) - (1 : Int32)) nn := by
  intro h
  rcases hp with ⟨rfl, rfl⟩ | ⟨rfl, rfl⟩ | ⟨rfl, rfl⟩ | ⟨rfl, rfl⟩ | ⟨rfl, rfl⟩ | ⟨rfl, rfl⟩ | ⟨rfl, rfl⟩ | ⟨rfl, rfl⟩ | ⟨rfl, rfl⟩ | ⟨rfl, rfl⟩ <;> first | exact absurd h (by decide) | exact ⟨⟨by decide, by decide⟩, by rw [hl]; decide⟩ | exact absurd (by decide) hk
theorem own_bi_2_0 {P : List Int32} {nn m : Int32} (hl : P.length = nn.toNatClampNeg) (hp : own_PR nn m) (hk : ¬ (m + (1 : Int32)) < (2 : Int32)) : own_in P (0 : Int32) nn := by
  rcases hp with ⟨rfl, rfl⟩ | ⟨rfl, rfl⟩ | ⟨rfl, rfl⟩ | ⟨rfl, rfl⟩ | ⟨rfl, rfl⟩ | ⟨rfl, rfl⟩ | ⟨rfl, rfl⟩ | ⟨rfl, rfl⟩ | ⟨rfl, rfl⟩ | ⟨rfl, rfl⟩ <;> first | exact ⟨⟨by decide, by decide⟩, by rw [hl]; decide⟩ | exact absurd (by decide) hk
theorem own_ba_2_0 {P : List Int32} {nn m : Int32} (hl : P.length = nn.toNatClampNeg) (hp : own_PR nn m) (hk : ¬ (m + (1 : Int32)) < (2 : Int32)) : ((m + (1 : Int32)) - (2 : Int32)) < m → own_in P ((m + (1 : Int32)) - (2 : Int32)) nn := by
  intro h
  rcases hp with ⟨rfl, rfl⟩ | ⟨rfl, rfl⟩ | ⟨rfl, rfl⟩ | ⟨rfl, rfl⟩ | ⟨rfl, rfl⟩ | ⟨rfl, rfl⟩ | ⟨rfl, rfl⟩ | ⟨rfl, rfl⟩ | ⟨rfl, rfl⟩ | ⟨rfl, rfl⟩ <;> first | exact absurd h (by decide) | exact ⟨⟨by decide, by decide⟩, by rw [hl]; decide⟩ | exact absurd (by decide) hk
theorem own_bi_2_1 {P : List Int32} {nn m : Int32} (hl : P.length = nn.toNatClampNeg) (hp : own_PR nn m) (hk : ¬ (m + (1 : Int32)) < (2 : Int32)) : own_in P (1 : Int32) nn := by
  rcases hp with ⟨rfl, rfl⟩ | ⟨rfl, rfl⟩ | ⟨rfl, rfl⟩ | ⟨rfl, rfl⟩ | ⟨rfl, rfl⟩ | ⟨rfl, rfl⟩ | ⟨rfl, rfl⟩ | ⟨rfl, rfl⟩ | ⟨rfl, rfl⟩ | ⟨rfl, rfl⟩ <;> first | exact ⟨⟨by decide, by decide⟩, by rw [hl]; decide⟩ | exact absurd (by decide) hk
theorem own_ba_2_1 {P : List Int32} {nn m : Int32} (hl : P.length = nn.toNatClampNeg) (hp : own_PR nn m) (hk : ¬ (m + (1 : Int32)) < (2 : Int32)) : ((m + (2 : Int32)) - (2 : Int32)) < m → own_in P ((m + (2 : Int32)) - (2 : Int32)) nn := by
  intro h
  rcases hp with ⟨rfl, rfl⟩ | ⟨rfl, rfl⟩ | ⟨rfl, rfl⟩ | ⟨rfl, rfl⟩ | ⟨rfl, rfl⟩ | ⟨rfl, rfl⟩ | ⟨rfl, rfl⟩ | ⟨rfl, rfl⟩ | ⟨rfl, rfl⟩ | ⟨rfl, rfl⟩ <;> first | exact absurd h (by decide) | exact ⟨⟨by decide, by decide⟩, by rw [hl]; decide⟩ | exact absurd (by decide) hk
theorem own_bi_3_0 {P : List Int32} {nn m : Int32} (hl : P.length = nn.toNatClampNeg) (hp : own_PR nn m) (hk : ¬ (m + (1 : Int32)) < (3 : Int32)) : own_in P (0 : Int32) nn := by
  rcases hp with ⟨rfl, rfl⟩ | ⟨rfl, rfl⟩ | ⟨rfl, rfl⟩ | ⟨rfl, rfl⟩ | ⟨rfl, rfl⟩ | ⟨rfl, rfl⟩ | ⟨rfl, rfl⟩ | ⟨rfl, rfl⟩ | ⟨rfl, rfl⟩ | ⟨rfl, rfl⟩ <;> first | exact ⟨⟨by decide, by decide⟩, by rw [hl]; decide⟩ | exact absurd (by decide) hk
theorem own_ba_3_0 {P : List Int32} {nn m : Int32} (hl : P.length = nn.toNatClampNeg) (hp : own_PR nn m) (hk : ¬ (m + (1 : Int32)) < (3 : Int32)) : ((m + (1 : Int32)) - (3 : Int32)) < m → own_in P ((m + (1 : Int32)) - (3 : Int32)) nn := by
  intro h
  rcases hp with ⟨rfl, rfl⟩ | ⟨rfl, rfl⟩ | ⟨rfl, rfl⟩ | ⟨rfl, rfl⟩ | ⟨rfl, rfl⟩ | ⟨rfl, rfl⟩ | ⟨rfl, rfl⟩ | ⟨rfl, rfl⟩ | ⟨rfl, rfl⟩ | ⟨rfl, rfl⟩ <;> first | exact absurd h (by decide) | exact ⟨⟨by decide, by decide⟩, by rw [hl]; decide⟩ | exact absurd (by decide) hk
theorem own_bi_3_1 {P : List Int32} {nn m : Int32} (hl : P.length = nn.toNatClampNeg) (hp : own_PR nn m) (hk : ¬ (m + (1 : Int32)) < (3 : Int32)) : own_in P (1 : Int32) nn := by
  rcases hp with ⟨rfl, rfl⟩ | ⟨rfl, rfl⟩ | ⟨rfl, rfl⟩ | ⟨rfl, rfl⟩ | ⟨rfl, rfl⟩ | ⟨rfl, rfl⟩ | ⟨rfl, rfl⟩ | ⟨rfl, rfl⟩ | ⟨rfl, rfl⟩ | ⟨rfl, rfl⟩ <;> first | exact ⟨⟨by decide, by decide⟩, by rw [hl]; decide⟩ | exact absurd (by decide) hk
theorem own_ba_3_1 {P : List Int32} {nn m : Int32} (hl : P.length = nn.toNatClampNeg) (hp : own_PR nn m) (hk : ¬ (m + (1 : Int32)) < (3 : Int32)) : ((m + (2 : Int32)) - (3 : Int32)) < m → own_in P ((m + (2 : Int32)) - (3 : Int32)) nn := by
  intro h
  rcases hp with ⟨rfl, rfl⟩ | ⟨rfl, rfl⟩ | ⟨rfl, rfl⟩ | ⟨rfl, rfl⟩ | ⟨rfl, rfl⟩ | ⟨rfl, rfl⟩ | ⟨rfl, rfl⟩ | ⟨rfl, rfl⟩ | ⟨rfl, rfl⟩ | ⟨rfl, rfl⟩ <;> first | exact absurd h (by decide) | exact ⟨⟨by decide, by decide⟩, by rw [hl]; decide⟩ | exact absurd (by decide) hk
theorem own_bi_3_2 {P : List Int32} {nn m : Int32} (hl : P.length = nn.toNatClampNeg) (hp : own_PR nn m) (hk : ¬ (m + (1 : Int32)) < (3 : Int32)) : own_in P (2 : Int32) nn := by
  rcases hp with ⟨rfl, rfl⟩ | ⟨rfl, rfl⟩ | ⟨rfl, rfl⟩ | ⟨rfl, rfl⟩ | ⟨rfl, rfl⟩ | ⟨rfl, rfl⟩ | ⟨rfl, rfl⟩ | ⟨rfl, rfl⟩ | ⟨rfl, rfl⟩ | ⟨rfl, rfl⟩ <;> first | exact ⟨⟨by decide, by decide⟩, by rw [hl]; decide⟩ | exact absurd (by decide) hk
theorem own_ba_3_2 {P : List Int32} {nn m : Int32} (hl : P.length = nn.toNatClampNeg) (hp : own_PR nn m) (hk : ¬ (m + (1 : Int32)) < (3 : Int32)) : ((m + (3 : Int32)) - (3 : Int32)) < m → own_in P ((m + (3 : Int32)) - (3 : Int32)) nn := by
  intro h
  rcases hp with ⟨rfl, rfl⟩ | ⟨rfl, rfl⟩ | ⟨rfl, rfl⟩ | ⟨rfl, rfl⟩ | ⟨rfl, rfl⟩ | ⟨rfl, rfl⟩ | ⟨rfl, rfl⟩ | ⟨rfl, rfl⟩ | ⟨rfl, rfl⟩ | ⟨rfl, rfl⟩ <;> first | exact absurd h (by decide) | exact ⟨⟨by decide, by decide⟩, by rw [hl]; decide⟩ | exact absurd (by decide) hk
theorem own_bi_4_0 {P : List Int32} {nn m : Int32} (hl : P.length = nn.toNatClampNeg) (hp : own_PR nn m) (hk : ¬ (m + (1 : Int32)) < (4 : Int32)) : own_in P (0 : Int32) nn := by
  rcases hp with ⟨rfl, rfl⟩ | ⟨rfl, rfl⟩ | ⟨rfl, rfl⟩ | ⟨rfl, rfl⟩ | ⟨rfl, rfl⟩ | ⟨rfl, rfl⟩ | ⟨rfl, rfl⟩ | ⟨rfl, rfl⟩ | ⟨rfl, rfl⟩ | ⟨rfl, rfl⟩ <;> first | exact ⟨⟨by decide, by decide⟩, by rw [hl]; decide⟩ | exact absurd (by decide) hk
theorem own_ba_4_0 {P : List Int32} {nn m : Int32} (hl : P.length = nn.toNatClampNeg) (hp : own_PR nn m) (hk : ¬ (m + (1 : Int32)) < (4 : Int32)) : ((m + (1 : Int32)) - (4 : Int32)) < m → own_in P ((m + (1 : Int32)) - (4 : Int32)) nn := by
  intro h
  rcases hp with ⟨rfl, rfl⟩ | ⟨rfl, rfl⟩ | ⟨rfl, rfl⟩ | ⟨rfl, rfl⟩ | ⟨rfl, rfl⟩ | ⟨rfl, rfl⟩ | ⟨rfl, rfl⟩ | ⟨rfl, rfl⟩ | ⟨rfl, rfl⟩ | ⟨rfl, rfl⟩ <;> first | exact absurd h (by decide) | exact ⟨⟨by decide, by decide⟩, by rw [hl]; decide⟩ | exact absurd (by decide) hk
theorem own_bi_4_1 {P : List Int32} {nn m : Int32} (hl : P.length = nn.toNatClampNeg) (hp : own_PR nn m) (hk : ¬ (m + (1 : Int32)) < (4 : Int32)) : own_in P (1 : Int32) nn := by
  rcases hp with ⟨rfl, rfl⟩ | ⟨rfl, rfl⟩ | ⟨rfl, rfl⟩ | ⟨rfl, rfl⟩ | ⟨rfl, rfl⟩ | ⟨rfl, rfl⟩ | ⟨rfl, rfl⟩ | ⟨rfl, rfl⟩ | ⟨rfl, rfl⟩ | ⟨rfl, rfl⟩ <;> first | exact ⟨⟨by decide, by decide⟩, by rw [hl]; decide⟩ | exact absurd (by decide) hk
theorem own_ba_4_1 {P : List Int32} {nn m : Int32} (hl : P.length = nn.toNatClampNeg) (hp : own_PR nn m) (hk : ¬ (m + (1 : Int32)) < (4 : Int32)) : ((m + (2 : Int32)) - (4 : Int32)) < m → own_in P ((m + (2 : Int32)) - (4 : Int32)) nn := by
  intro h
  rcases hp with ⟨rfl, rfl⟩ | ⟨rfl, rfl⟩ | ⟨rfl, rfl⟩ | ⟨rfl, rfl⟩ | ⟨rfl, rfl⟩ | ⟨rfl, rfl⟩ | ⟨rfl, rfl⟩ | ⟨rfl, rfl⟩ | ⟨rfl, rfl⟩ | ⟨rfl, rfl⟩ <;> first | exact absurd h (by decide) | exact ⟨⟨by decide, by decide⟩, by rw [hl]; decide⟩ | exact absurd (by decide) hk
theorem own_bi_4_2 {P : List Int32} {nn m : Int32} (hl : P.length = nn.toNatClampNeg) (hp : own_PR nn m) (hk : ¬ (m + (1 : Int32)) < (4 : Int32)) : own_in P (2 : Int32) nn := by
  rcases hp with ⟨rfl, rfl⟩ | ⟨rfl, rfl⟩ | ⟨rfl, rfl⟩ | ⟨rfl, rfl⟩ | ⟨rfl, rfl⟩ | ⟨rfl, rfl⟩ | ⟨rfl, rfl⟩ | ⟨rfl, rfl⟩ | ⟨rfl, rfl⟩ | ⟨rfl, rfl⟩ <;> first | exact ⟨⟨by decide, by decide⟩, by rw [hl]; decide⟩ | exact absurd (by decide) hk
theorem own_ba_4_2 {P : List Int32} {nn m : Int32} (hl : P.length = nn.toNatClampNeg) (hp : own_PR nn m) (hk : ¬ (m + (1 : Int32)) < (4 : Int32)) : ((m + (3 : Int32)) - (4 : Int32)) < m → own_in P ((m + (3 : Int32)) - (4 : Int32)) nn := by
  intro h
  rcases hp with ⟨rfl, rfl⟩ | ⟨rfl, rfl⟩ | ⟨rfl, rfl⟩ | ⟨rfl, rfl⟩ | ⟨rfl, rfl⟩ | ⟨rfl, rfl⟩ | ⟨rfl, rfl⟩ | ⟨rfl, rfl⟩ | ⟨rfl, rfl⟩ | ⟨rfl, rfl⟩ <;> first | exact absurd h (by decide) | exact ⟨⟨by decide, by decide⟩, by rw [hl]; decide⟩ | exact absurd (by decide) hk
theorem own_bi_4_3 {P : List Int32} {nn m : Int32} (hl : P.length = nn.toNatClampNeg) (hp : own_PR nn m) (hk : ¬ (m + (1 : Int32)) < (4 : Int32)) : own_in P (3 : Int32) nn := by
  rcases hp with ⟨rfl, rfl⟩ | ⟨rfl, rfl⟩ | ⟨rfl, rfl⟩ | ⟨rfl, rfl⟩ | ⟨rfl, rfl⟩ | ⟨rfl, rfl⟩ | ⟨rfl, rfl⟩ | ⟨rfl, rfl⟩ | ⟨rfl, rfl⟩ | ⟨rfl, rfl⟩ <;> first | exact ⟨⟨by decide, by decide⟩, by rw [hl]; decide⟩ | exact absurd (by decide) hk
theorem own_ba_4_3 {P : List Int32} {nn m : Int32} (hl : P.length = nn.toNatClampNeg) (hp : own_PR nn m) (hk : ¬ (m + (1 : Int32)) < (4 : Int32)) : ((m + (4 : Int32)) - (4 : Int32)) < m → own_in P ((m + (4 : Int32)) - (4 : Int32)) nn := by
  intro h
  rcases hp with ⟨rfl, rfl⟩ | ⟨rfl, rfl⟩ | ⟨rfl, rfl⟩ | ⟨rfl, rfl⟩ | ⟨rfl, rfl⟩ | ⟨rfl, rfl⟩ | ⟨rfl, rfl⟩ | ⟨rfl, rfl⟩ | ⟨rfl, rfl⟩ | ⟨rfl, rfl⟩ <;> first | exact absurd h (by decide) | exact ⟨⟨by decide, by decide⟩, by rw [hl]; decide⟩ | exact absurd (by decide) hk
theorem own_nb0 : nar .boolean 0 = 0 := rfl
theorem own_nb1 : nar .boolean 1 = 1 := rfl
theorem own_L10 (p0 x : Int32) : own_st [p0] (own_FB1 p0) x 3 0 = own_exp [p0] 0 x := by
  by_cases h_p0_x : p0 = x
  ·
    subst h_p0_x
    simp +decide [own_st, own_exp, own_FB1, own_Fb1, own_Fb2, own_Fb3, own_Fb4, own_Fat, own_t1, own_t2, own_t3, own_g0, own_g1, own_g2, own_g3, own_g4, own_nb0, own_nb1]
  ·
    have g_p0_x : ¬ x = p0 := fun q => h_p0_x q.symm
    simp +decide [own_st, own_exp, own_FB1, own_Fb1, own_Fb2, own_Fb3, own_Fb4, own_Fat, own_t1, own_t2, own_t3, own_g0, own_g1, own_g2, own_g3, own_g4, own_nb0, own_nb1, h_p0_x, g_p0_x]
theorem own_L20 (p0 p1 x : Int32) : own_st [p0, p1] (own_FB2 p0 p1) x 3 0 = own_exp [p0, p1] 0 x := by
  by_cases h_p0_x : p0 = x
  ·
    subst h_p0_x
    simp +decide [own_st, own_exp, own_FB2, own_Fb1, own_Fb2, own_Fb3, own_Fb4, own_Fat, own_t1, own_t2, own_t3, own_g0, own_g1, own_g2, own_g3, own_g4, own_nb0, own_nb1]
  ·
    have g_p0_x : ¬ x = p0 := fun q => h_p0_x q.symm
    simp +decide [own_st, own_exp, own_FB2, own_Fb1, own_Fb2, own_Fb3, own_Fb4, own_Fat, own_t1, own_t2, own_t3, own_g0, own_g1, own_g2, own_g3, own_g4, own_nb0, own_nb1, h_p0_x, g_p0_x]
theorem own_L21 (p0 p1 x : Int32) : own_st [p0, p1] (own_FB2 p0 p1) x 3 1 = own_exp [p0, p1] 1 x := by
  by_cases h_p0_p1 : p0 = p1
  ·
    subst h_p0_p1
    by_cases h_p0_x : p0 = x
    ·
      subst h_p0_x
      simp +decide [own_st, own_exp, own_FB2, own_Fb1, own_Fb2, own_Fb3, own_Fb4, own_Fat, own_t1, own_t2, own_t3, own_g0, own_g1, own_g2, own_g3, own_g4, own_nb0, own_nb1]
    ·
      have g_p0_x : ¬ x = p0 := fun q => h_p0_x q.symm
      simp +decide [own_st, own_exp, own_FB2, own_Fb1, own_Fb2, own_Fb3, own_Fb4, own_Fat, own_t1, own_t2, own_t3, own_g0, own_g1, own_g2, own_g3, own_g4, own_nb0, own_nb1, h_p0_x, g_p0_x]
  ·
    have g_p0_p1 : ¬ p1 = p0 := fun q => h_p0_p1 q.symm
    by_cases h_p0_x : p0 = x
    ·
      subst h_p0_x
      simp +decide [own_st, own_exp, own_FB2, own_Fb1, own_Fb2, own_Fb3, own_Fb4, own_Fat, own_t1, own_t2, own_t3, own_g0, own_g1, own_g2, own_g3, own_g4, own_nb0, own_nb1, h_p0_p1, g_p0_p1]
    ·
      have g_p0_x : ¬ x = p0 := fun q => h_p0_x q.symm
      by_cases h_p1_x : p1 = x
      ·
        subst h_p1_x
        simp +decide [own_st, own_exp, own_FB2, own_Fb1, own_Fb2, own_Fb3, own_Fb4, own_Fat, own_t1, own_t2, own_t3, own_g0, own_g1, own_g2, own_g3, own_g4, own_nb0, own_nb1, h_p0_p1, g_p0_p1, h_p0_x, g_p0_x]
      ·
        have g_p1_x : ¬ x = p1 := fun q => h_p1_x q.symm
        simp +decide [own_st, own_exp, own_FB2, own_Fb1, own_Fb2, own_Fb3, own_Fb4, own_Fat, own_t1, own_t2, own_t3, own_g0, own_g1, own_g2, own_g3, own_g4, own_nb0, own_nb1, h_p0_p1, g_p0_p1, h_p0_x, g_p0_x, h_p1_x, g_p1_x]
theorem own_L30 (p0 p1 p2 x : Int32) : own_st [p0, p1, p2] (own_FB3 p0 p1 p2) x 3 0 = own_exp [p0, p1, p2] 0 x := by
  by_cases h_p0_x : p0 = x
  ·
    subst h_p0_x
    simp +decide [own_st, own_exp, own_FB3, own_Fb1, own_Fb2, own_Fb3, own_Fb4, own_Fat, own_t1, own_t2, own_t3, own_g0, own_g1, own_g2, own_g3, own_g4, own_nb0, own_nb1]
  ·
    have g_p0_x : ¬ x = p0 := fun q => h_p0_x q.symm
    simp +decide [own_st, own_exp, own_FB3, own_Fb1, own_Fb2, own_Fb3, own_Fb4, own_Fat, own_t1, own_t2, own_t3, own_g0, own_g1, own_g2, own_g3, own_g4, own_nb0, own_nb1, h_p0_x, g_p0_x]
theorem own_L31 (p0 p1 p2 x : Int32) : own_st [p0, p1, p2] (own_FB3 p0 p1 p2) x 3 1 = own_exp [p0, p1, p2] 1 x := by
  by_cases h_p0_p1 : p0 = p1
  ·
    subst h_p0_p1
    by_cases h_p0_x : p0 = x
    ·
      subst h_p0_x
      simp +decide [own_st, own_exp, own_FB3, own_Fb1, own_Fb2, own_Fb3, own_Fb4, own_Fat, own_t1, own_t2, own_t3, own_g0, own_g1, own_g2, own_g3, own_g4, own_nb0, own_nb1]
    ·
      have g_p0_x : ¬ x = p0 := fun q => h_p0_x q.symm
      simp +decide [own_st, own_exp, own_FB3, own_Fb1, own_Fb2, own_Fb3, own_Fb4, own_Fat, own_t1, own_t2, own_t3, own_g0, own_g1, own_g2, own_g3, own_g4, own_nb0, own_nb1, h_p0_x, g_p0_x]
  ·
    have g_p0_p1 : ¬ p1 = p0 := fun q => h_p0_p1 q.symm
    by_cases h_p0_x : p0 = x
    ·
      subst h_p0_x
      simp +decide [own_st, own_exp, own_FB3, own_Fb1, own_Fb2, own_Fb3, own_Fb4, own_Fat, own_t1, own_t2, own_t3, own_g0, own_g1, own_g2, own_g3, own_g4, own_nb0, own_nb1, h_p0_p1, g_p0_p1]
    ·
      have g_p0_x : ¬ x = p0 := fun q => h_p0_x q.symm
      by_cases h_p1_x : p1 = x
      ·
        subst h_p1_x
        simp +decide [own_st, own_exp, own_FB3, own_Fb1, own_Fb2, own_Fb3, own_Fb4, own_Fat, own_t1, own_t2, own_t3, own_g0, own_g1, own_g2, own_g3, own_g4, own_nb0, own_nb1, h_p0_p1, g_p0_p1, h_p0_x, g_p0_x]
      ·
        have g_p1_x : ¬ x = p1 := fun q => h_p1_x q.symm
        simp +decide [own_st, own_exp, own_FB3, own_Fb1, own_Fb2, own_Fb3, own_Fb4, own_Fat, own_t1, own_t2, own_t3, own_g0, own_g1, own_g2, own_g3, own_g4, own_nb0, own_nb1, h_p0_p1, g_p0_p1, h_p0_x, g_p0_x, h_p1_x, g_p1_x]
theorem own_L32 (p0 p1 p2 x : Int32) : own_st [p0, p1, p2] (own_FB3 p0 p1 p2) x 3 2 = own_exp [p0, p1, p2] 2 x := by
  by_cases h_p0_p1 : p0 = p1
  ·
    subst h_p0_p1
    by_cases h_p0_p2 : p0 = p2
    ·
      subst h_p0_p2
      by_cases h_p0_x : p0 = x
      ·
        subst h_p0_x
        simp +decide [own_st, own_exp, own_FB3, own_Fb1, own_Fb2, own_Fb3, own_Fb4, own_Fat, own_t1, own_t2, own_t3, own_g0, own_g1, own_g2, own_g3, own_g4, own_nb0, own_nb1]
      ·
        have g_p0_x : ¬ x = p0 := fun q => h_p0_x q.symm
        simp +decide [own_st, own_exp, own_FB3, own_Fb1, own_Fb2, own_Fb3, own_Fb4, own_Fat, own_t1, own_t2, own_t3, own_g0, own_g1, own_g2, own_g3, own_g4, own_nb0, own_nb1, h_p0_x, g_p0_x]
    ·
      have g_p0_p2 : ¬ p2 = p0 := fun q => h_p0_p2 q.symm
      by_cases h_p0_x : p0 = x
      ·
        subst h_p0_x
        simp +decide [own_st, own_exp, own_FB3, own_Fb1, own_Fb2, own_Fb3, own_Fb4, own_Fat, own_t1, own_t2, own_t3, own_g0, own_g1, own_g2, own_g3, own_g4, own_nb0, own_nb1, h_p0_p2, g_p0_p2]
      ·
        have g_p0_x : ¬ x = p0 := fun q => h_p0_x q.symm
        by_cases h_p2_x : p2 = x
        ·
          subst h_p2_x
          simp +decide [own_st, own_exp, own_FB3, own_Fb1, own_Fb2, own_Fb3, own_Fb4, own_Fat, own_t1, own_t2, own_t3, own_g0, own_g1, own_g2, own_g3, own_g4, own_nb0, own_nb1, h_p0_p2, g_p0_p2, h_p0_x, g_p0_x]
        ·
          have g_p2_x : ¬ x = p2 := fun q => h_p2_x q.symm
          simp +decide [own_st, own_exp, own_FB3, own_Fb1, own_Fb2, own_Fb3, own_Fb4, own_Fat, own_t1, own_t2, own_t3, own_g0, own_g1, own_g2, own_g3, own_g4, own_nb0, own_nb1, h_p0_p2, g_p0_p2, h_p0_x, g_p0_x, h_p2_x, g_p2_x]
  ·
    have g_p0_p1 : ¬ p1 = p0 := fun q => h_p0_p1 q.symm
    by_cases h_p0_p2 : p0 = p2
    ·
      subst h_p0_p2
      by_cases h_p0_x : p0 = x
      ·
        subst h_p0_x
        simp +decide [own_st, own_exp, own_FB3, own_Fb1, own_Fb2, own_Fb3, own_Fb4, own_Fat, own_t1, own_t2, own_t3, own_g0, own_g1, own_g2, own_g3, own_g4, own_nb0, own_nb1, h_p0_p1, g_p0_p1]
      ·
        have g_p0_x : ¬ x = p0 := fun q => h_p0_x q.symm
        by_cases h_p1_x : p1 = x
        ·
          subst h_p1_x
          simp +decide [own_st, own_exp, own_FB3, own_Fb1, own_Fb2, own_Fb3, own_Fb4, own_Fat, own_t1, own_t2, own_t3, own_g0, own_g1, own_g2, own_g3, own_g4, own_nb0, own_nb1, h_p0_p1, g_p0_p1, h_p0_x, g_p0_x]
        ·
          have g_p1_x : ¬ x = p1 := fun q => h_p1_x q.symm
          simp +decide [own_st, own_exp, own_FB3, own_Fb1, own_Fb2, own_Fb3, own_Fb4, own_Fat, own_t1, own_t2, own_t3, own_g0, own_g1, own_g2, own_g3, own_g4, own_nb0, own_nb1, h_p0_p1, g_p0_p1, h_p0_x, g_p0_x, h_p1_x, g_p1_x]
    ·
      have g_p0_p2 : ¬ p2 = p0 := fun q => h_p0_p2 q.symm
      by_cases h_p1_p2 : p1 = p2
      ·
        subst h_p1_p2
        by_cases h_p0_x : p0 = x
        ·
          subst h_p0_x
          simp +decide [own_st, own_exp, own_FB3, own_Fb1, own_Fb2, own_Fb3, own_Fb4, own_Fat, own_t1, own_t2, own_t3, own_g0, own_g1, own_g2, own_g3, own_g4, own_nb0, own_nb1, h_p0_p1, g_p0_p1, h_p0_p2, g_p0_p2]
        ·
          have g_p0_x : ¬ x = p0 := fun q => h_p0_x q.symm
          by_cases h_p1_x : p1 = x
          ·
            subst h_p1_x
            simp +decide [own_st, own_exp, own_FB3, own_Fb1, own_Fb2, own_Fb3, own_Fb4, own_Fat, own_t1, own_t2, own_t3, own_g0, own_g1, own_g2, own_g3, own_g4, own_nb0, own_nb1, h_p0_p1, g_p0_p1, h_p0_p2, g_p0_p2, h_p0_x, g_p0_x]
          ·
            have g_p1_x : ¬ x = p1 := fun q => h_p1_x q.symm
            simp +decide [own_st, own_exp, own_FB3, own_Fb1, own_Fb2, own_Fb3, own_Fb4, own_Fat, own_t1, own_t2, own_t3, own_g0, own_g1, own_g2, own_g3, own_g4, own_nb0, own_nb1, h_p0_p1, g_p0_p1, h_p0_p2, g_p0_p2, h_p0_x, g_p0_x, h_p1_x, g_p1_x]
      ·
        have g_p1_p2 : ¬ p2 = p1 := fun q => h_p1_p2 q.symm
        by_cases h_p0_x : p0 = x
        ·
          subst h_p0_x
          simp +decide [own_st, own_exp, own_FB3, own_Fb1, own_Fb2, own_Fb3, own_Fb4, own_Fat, own_t1, own_t2, own_t3, own_g0, own_g1, own_g2, own_g3, own_g4, own_nb0, own_nb1, h_p0_p1, g_p0_p1, h_p0_p2, g_p0_p2, h_p1_p2, g_p1_p2]
        ·
          have g_p0_x : ¬ x = p0 := fun q => h_p0_x q.symm
          by_cases h_p1_x : p1 = x
          ·
            subst h_p1_x
            simp +decide [own_st, own_exp, own_FB3, own_Fb1, own_Fb2, own_Fb3, own_Fb4, own_Fat, own_t1, own_t2, own_t3, own_g0, own_g1, own_g2, own_g3, own_g4, own_nb0, own_nb1, h_p0_p1, g_p0_p1, h_p0_p2, g_p0_p2, h_p1_p2, g_p1_p2, h_p0_x, g_p0_x]
          ·
            have g_p1_x : ¬ x = p1 := fun q => h_p1_x q.symm
            by_cases h_p2_x : p2 = x
            ·
              subst h_p2_x
              simp +decide [own_st, own_exp, own_FB3, own_Fb1, own_Fb2, own_Fb3, own_Fb4, own_Fat, own_t1, own_t2, own_t3, own_g0, own_g1, own_g2, own_g3, own_g4, own_nb0, own_nb1, h_p0_p1, g_p0_p1, h_p0_p2, g_p0_p2, h_p1_p2, g_p1_p2, h_p0_x, g_p0_x, h_p1_x, g_p1_x]
            ·
              have g_p2_x : ¬ x = p2 := fun q => h_p2_x q.symm
              simp +decide [own_st, own_exp, own_FB3, own_Fb1, own_Fb2, own_Fb3, own_Fb4, own_Fat, own_t1, own_t2, own_t3, own_g0, own_g1, own_g2, own_g3, own_g4, own_nb0, own_nb1, h_p0_p1, g_p0_p1, h_p0_p2, g_p0_p2, h_p1_p2, g_p1_p2, h_p0_x, g_p0_x, h_p1_x, g_p1_x, h_p2_x, g_p2_x]
theorem own_L40 (p0 p1 p2 p3 x : Int32) : own_st [p0, p1, p2, p3] (own_FB4 p0 p1 p2 p3) x 3 0 = own_exp [p0, p1, p2, p3] 0 x := by
  by_cases h_p0_x : p0 = x
  ·
    subst h_p0_x
    simp +decide [own_st, own_exp, own_FB4, own_Fb1, own_Fb2, own_Fb3, own_Fb4, own_Fat, own_t1, own_t2, own_t3, own_g0, own_g1, own_g2, own_g3, own_g4, own_nb0, own_nb1]
  ·
    have g_p0_x : ¬ x = p0 := fun q => h_p0_x q.symm
    simp +decide [own_st, own_exp, own_FB4, own_Fb1, own_Fb2, own_Fb3, own_Fb4, own_Fat, own_t1, own_t2, own_t3, own_g0, own_g1, own_g2, own_g3, own_g4, own_nb0, own_nb1, h_p0_x, g_p0_x]
theorem own_L41 (p0 p1 p2 p3 x : Int32) : own_st [p0, p1, p2, p3] (own_FB4 p0 p1 p2 p3) x 3 1 = own_exp [p0, p1, p2, p3] 1 x := by
  by_cases h_p0_p1 : p0 = p1
  ·
    subst h_p0_p1
    by_cases h_p0_x : p0 = x
    ·
      subst h_p0_x
      simp +decide [own_st, own_exp, own_FB4, own_Fb1, own_Fb2, own_Fb3, own_Fb4, own_Fat, own_t1, own_t2, own_t3, own_g0, own_g1, own_g2, own_g3, own_g4, own_nb0, own_nb1]
    ·
      have g_p0_x : ¬ x = p0 := fun q => h_p0_x q.symm
      simp +decide [own_st, own_exp, own_FB4, own_Fb1, own_Fb2, own_Fb3, own_Fb4, own_Fat, own_t1, own_t2, own_t3, own_g0, own_g1, own_g2, own_g3, own_g4, own_nb0, own_nb1, h_p0_x, g_p0_x]
  ·
    have g_p0_p1 : ¬ p1 = p0 := fun q => h_p0_p1 q.symm
    by_cases h_p0_x : p0 = x
    ·
      subst h_p0_x
      simp +decide [own_st, own_exp, own_FB4, own_Fb1, own_Fb2, own_Fb3, own_Fb4, own_Fat, own_t1, own_t2, own_t3, own_g0, own_g1, own_g2, own_g3, own_g4, own_nb0, own_nb1, h_p0_p1, g_p0_p1]
    ·
      have g_p0_x : ¬ x = p0 := fun q => h_p0_x q.symm
      by_cases h_p1_x : p1 = x
      ·
        subst h_p1_x
        simp +decide [own_st, own_exp, own_FB4, own_Fb1, own_Fb2, own_Fb3, own_Fb4, own_Fat, own_t1, own_t2, own_t3, own_g0, own_g1, own_g2, own_g3, own_g4, own_nb0, own_nb1, h_p0_p1, g_p0_p1, h_p0_x, g_p0_x]
      ·
        have g_p1_x : ¬ x = p1 := fun q => h_p1_x q.symm
        simp +decide [own_st, own_exp, own_FB4, own_Fb1, own_Fb2, own_Fb3, own_Fb4, own_Fat, own_t1, own_t2, own_t3, own_g0, own_g1, own_g2, own_g3, own_g4, own_nb0, own_nb1, h_p0_p1, g_p0_p1, h_p0_x, g_p0_x, h_p1_x, g_p1_x]
theorem own_L42 (p0 p1 p2 p3 x : Int32) : own_st [p0, p1, p2, p3] (own_FB4 p0 p1 p2 p3) x 3 2 = own_exp [p0, p1, p2, p3] 2 x := by
  by_cases h_p0_p1 : p0 = p1
  ·
    subst h_p0_p1
    by_cases h_p0_p2 : p0 = p2
    ·
      subst h_p0_p2
      by_cases h_p0_x : p0 = x
      ·
        subst h_p0_x
        simp +decide [own_st, own_exp, own_FB4, own_Fb1, own_Fb2, own_Fb3, own_Fb4, own_Fat, own_t1, own_t2, own_t3, own_g0, own_g1, own_g2, own_g3, own_g4, own_nb0, own_nb1]
      ·
        have g_p0_x : ¬ x = p0 := fun q => h_p0_x q.symm
        simp +decide [own_st, own_exp, own_FB4, own_Fb1, own_Fb2, own_Fb3, own_Fb4, own_Fat, own_t1, own_t2, own_t3, own_g0, own_g1, own_g2, own_g3, own_g4, own_nb0, own_nb1, h_p0_x, g_p0_x]
    ·
      have g_p0_p2 : ¬ p2 = p0 := fun q => h_p0_p2 q.symm
      by_cases h_p0_x : p0 = x
      ·
        subst h_p0_x
        simp +decide [own_st, own_exp, own_FB4, own_Fb1, own_Fb2, own_Fb3, own_Fb4, own_Fat, own_t1, own_t2, own_t3, own_g0, own_g1, own_g2, own_g3, own_g4, own_nb0, own_nb1, h_p0_p2, g_p0_p2]
      ·
        have g_p0_x : ¬ x = p0 := fun q => h_p0_x q.symm
        by_cases h_p2_x : p2 = x
        ·
          subst h_p2_x
          simp +decide [own_st, own_exp, own_FB4, own_Fb1, own_Fb2, own_Fb3, own_Fb4, own_Fat, own_t1, own_t2, own_t3, own_g0, own_g1, own_g2, own_g3, own_g4, own_nb0, own_nb1, h_p0_p2, g_p0_p2, h_p0_x, g_p0_x]
        ·
          have g_p2_x : ¬ x = p2 := fun q => h_p2_x q.symm
          simp +decide [own_st, own_exp, own_FB4, own_Fb1, own_Fb2, own_Fb3, own_Fb4, own_Fat, own_t1, own_t2, own_t3, own_g0, own_g1, own_g2, own_g3, own_g4, own_nb0, own_nb1, h_p0_p2, g_p0_p2, h_p0_x, g_p0_x, h_p2_x, g_p2_x]
  ·
    have g_p0_p1 : ¬ p1 = p0 := fun q => h_p0_p1 q.symm
    by_cases h_p0_p2 : p0 = p2
    ·
      subst h_p0_p2
      by_cases h_p0_x : p0 = x
      ·
        subst h_p0_x
        simp +decide [own_st, own_exp, own_FB4, own_Fb1, own_Fb2, own_Fb3, own_Fb4, own_Fat, own_t1, own_t2, own_t3, own_g0, own_g1, own_g2, own_g3, own_g4, own_nb0, own_nb1, h_p0_p1, g_p0_p1]
      ·
        have g_p0_x : ¬ x = p0 := fun q => h_p0_x q.symm
        by_cases h_p1_x : p1 = x
        ·
          subst h_p1_x
          simp +decide [own_st, own_exp, own_FB4, own_Fb1, own_Fb2, own_Fb3, own_Fb4, own_Fat, own_t1, own_t2, own_t3, own_g0, own_g1, own_g2, own_g3, own_g4, own_nb0, own_nb1, h_p0_p1, g_p0_p1, h_p0_x, g_p0_x]
        ·
          have g_p1_x : ¬ x = p1 := fun q => h_p1_x q.symm
          simp +decide [own_st, own_exp, own_FB4, own_Fb1, own_Fb2, own_Fb3, own_Fb4, own_Fat, own_t1, own_t2, own_t3, own_g0, own_g1, own_g2, own_g3, own_g4, own_nb0, own_nb1, h_p0_p1, g_p0_p1, h_p0_x, g_p0_x, h_p1_x, g_p1_x]
    ·
      have g_p0_p2 : ¬ p2 = p0 := fun q => h_p0_p2 q.symm
      by_cases h_p1_p2 : p1 = p2
      ·
        subst h_p1_p2
        by_cases h_p0_x : p0 = x
        ·
          subst h_p0_x
          simp +decide [own_st, own_exp, own_FB4, own_Fb1, own_Fb2, own_Fb3, own_Fb4, own_Fat, own_t1, own_t2, own_t3, own_g0, own_g1, own_g2, own_g3, own_g4, own_nb0, own_nb1, h_p0_p1, g_p0_p1, h_p0_p2, g_p0_p2]
        ·
          have g_p0_x : ¬ x = p0 := fun q => h_p0_x q.symm
          by_cases h_p1_x : p1 = x
          ·
            subst h_p1_x
            simp +decide [own_st, own_exp, own_FB4, own_Fb1, own_Fb2, own_Fb3, own_Fb4, own_Fat, own_t1, own_t2, own_t3, own_g0, own_g1, own_g2, own_g3, own_g4, own_nb0, own_nb1, h_p0_p1, g_p0_p1, h_p0_p2, g_p0_p2, h_p0_x, g_p0_x]
          ·
            have g_p1_x : ¬ x = p1 := fun q => h_p1_x q.symm
            simp +decide [own_st, own_exp, own_FB4, own_Fb1, own_Fb2, own_Fb3, own_Fb4, own_Fat, own_t1, own_t2, own_t3, own_g0, own_g1, own_g2, own_g3, own_g4, own_nb0, own_nb1, h_p0_p1, g_p0_p1, h_p0_p2, g_p0_p2, h_p0_x, g_p0_x, h_p1_x, g_p1_x]
      ·
        have g_p1_p2 : ¬ p2 = p1 := fun q => h_p1_p2 q.symm
        by_cases h_p0_x : p0 = x
        ·
          subst h_p0_x
          simp +decide [own_st, own_exp, own_FB4, own_Fb1, own_Fb2, own_Fb3, own_Fb4, own_Fat, own_t1, own_t2, own_t3, own_g0, own_g1, own_g2, own_g3, own_g4, own_nb0, own_nb1, h_p0_p1, g_p0_p1, h_p0_p2, g_p0_p2, h_p1_p2, g_p1_p2]
        ·
          have g_p0_x : ¬ x = p0 := fun q => h_p0_x q.symm
          by_cases h_p1_x : p1 = x
          ·
            subst h_p1_x
            simp +decide [own_st, own_exp, own_FB4, own_Fb1, own_Fb2, own_Fb3, own_Fb4, own_Fat, own_t1, own_t2, own_t3, own_g0, own_g1, own_g2, own_g3, own_g4, own_nb0, own_nb1, h_p0_p1, g_p0_p1, h_p0_p2, g_p0_p2, h_p1_p2, g_p1_p2, h_p0_x, g_p0_x]
          ·
            have g_p1_x : ¬ x = p1 := fun q => h_p1_x q.symm
            by_cases h_p2_x : p2 = x
            ·
              subst h_p2_x
              simp +decide [own_st, own_exp, own_FB4, own_Fb1, own_Fb2, own_Fb3, own_Fb4, own_Fat, own_t1, own_t2, own_t3, own_g0, own_g1, own_g2, own_g3, own_g4, own_nb0, own_nb1, h_p0_p1, g_p0_p1, h_p0_p2, g_p0_p2, h_p1_p2, g_p1_p2, h_p0_x, g_p0_x, h_p1_x, g_p1_x]
            ·
              have g_p2_x : ¬ x = p2 := fun q => h_p2_x q.symm
              simp +decide [own_st, own_exp, own_FB4, own_Fb1, own_Fb2, own_Fb3, own_Fb4, own_Fat, own_t1, own_t2, own_t3, own_g0, own_g1, own_g2, own_g3, own_g4, own_nb0, own_nb1, h_p0_p1, g_p0_p1, h_p0_p2, g_p0_p2, h_p1_p2, g_p1_p2, h_p0_x, g_p0_x, h_p1_x, g_p1_x, h_p2_x, g_p2_x]
theorem own_L43 (p0 p1 p2 p3 x : Int32) : own_st [p0, p1, p2, p3] (own_FB4 p0 p1 p2 p3) x 3 3 = own_exp [p0, p1, p2, p3] 3 x := by
  by_cases h_p0_p1 : p0 = p1
  ·
    subst h_p0_p1
    by_cases h_p0_p2 : p0 = p2
    ·
      subst h_p0_p2
      by_cases h_p0_p3 : p0 = p3
      ·
        subst h_p0_p3
        by_cases h_p0_x : p0 = x
        ·
          subst h_p0_x
          simp +decide [own_st, own_exp, own_FB4, own_Fb1, own_Fb2, own_Fb3, own_Fb4, own_Fat, own_t1, own_t2, own_t3, own_g0, own_g1, own_g2, own_g3, own_g4, own_nb0, own_nb1]
        ·
          have g_p0_x : ¬ x = p0 := fun q => h_p0_x q.symm
          simp +decide [own_st, own_exp, own_FB4, own_Fb1, own_Fb2, own_Fb3, own_Fb4, own_Fat, own_t1, own_t2, own_t3, own_g0, own_g1, own_g2, own_g3, own_g4, own_nb0, own_nb1, h_p0_x, g_p0_x]
      ·
        have g_p0_p3 : ¬ p3 = p0 := fun q => h_p0_p3 q.symm
        by_cases h_p0_x : p0 = x
        ·
          subst h_p0_x
          simp +decide [own_st, own_exp, own_FB4, own_Fb1, own_Fb2, own_Fb3, own_Fb4, own_Fat, own_t1, own_t2, own_t3, own_g0, own_g1, own_g2, own_g3, own_g4, own_nb0, own_nb1, h_p0_p3, g_p0_p3]
        ·
          have g_p0_x : ¬ x = p0 := fun q => h_p0_x q.symm
          by_cases h_p3_x : p3 = x
          ·
            subst h_p3_x
            simp +decide [own_st, own_exp, own_FB4, own_Fb1, own_Fb2, own_Fb3, own_Fb4, own_Fat, own_t1, own_t2, own_t3, own_g0, own_g1, own_g2, own_g3, own_g4, own_nb0, own_nb1, h_p0_p3, g_p0_p3, h_p0_x, g_p0_x]
          ·
            have g_p3_x : ¬ x = p3 := fun q => h_p3_x q.symm
            simp +decide [own_st, own_exp, own_FB4, own_Fb1, own_Fb2, own_Fb3, own_Fb4, own_Fat, own_t1, own_t2, own_t3, own_g0, own_g1, own_g2, own_g3, own_g4, own_nb0, own_nb1, h_p0_p3, g_p0_p3, h_p0_x, g_p0_x, h_p3_x, g_p3_x]
    ·
      have g_p0_p2 : ¬ p2 = p0 := fun q => h_p0_p2 q.symm
      by_cases h_p0_p3 : p0 = p3
      ·
        subst h_p0_p3
        by_cases h_p0_x : p0 = x
        ·
          subst h_p0_x
          simp +decide [own_st, own_exp, own_FB4, own_Fb1, own_Fb2, own_Fb3, own_Fb4, own_Fat, own_t1, own_t2, own_t3, own_g0, own_g1, own_g2, own_g3, own_g4, own_nb0, own_nb1, h_p0_p2, g_p0_p2]
        ·
          have g_p0_x : ¬ x = p0 := fun q => h_p0_x q.symm
          by_cases h_p2_x : p2 = x
          ·
            subst h_p2_x
            simp +decide [own_st, own_exp, own_FB4, own_Fb1, own_Fb2, own_Fb3, own_Fb4, own_Fat, own_t1, own_t2, own_t3, own_g0, own_g1, own_g2, own_g3, own_g4, own_nb0, own_nb1, h_p0_p2, g_p0_p2, h_p0_x, g_p0_x]
          ·
            have g_p2_x : ¬ x = p2 := fun q => h_p2_x q.symm
            simp +decide [own_st, own_exp, own_FB4, own_Fb1, own_Fb2, own_Fb3, own_Fb4, own_Fat, own_t1, own_t2, own_t3, own_g0, own_g1, own_g2, own_g3, own_g4, own_nb0, own_nb1, h_p0_p2, g_p0_p2, h_p0_x, g_p0_x, h_p2_x, g_p2_x]
      ·
        have g_p0_p3 : ¬ p3 = p0 := fun q => h_p0_p3 q.symm
        by_cases h_p2_p3 : p2 = p3
        ·
          subst h_p2_p3
          by_cases h_p0_x : p0 = x
          ·
            subst h_p0_x
            simp +decide [own_st, own_exp, own_FB4, own_Fb1, own_Fb2, own_Fb3, own_Fb4, own_Fat, own_t1, own_t2, own_t3, own_g0, own_g1, own_g2, own_g3, own_g4, own_nb0, own_nb1, h_p0_p2, g_p0_p2, h_p0_p3, g_p0_p3]
          ·
            have g_p0_x : ¬ x = p0 := fun q => h_p0_x q.symm
            by_cases h_p2_x : p2 = x
            ·
              subst h_p2_x
              simp +decide [own_st, own_exp, own_FB4, own_Fb1, own_Fb2, own_Fb3, own_Fb4, own_Fat, own_t1, own_t2, own_t3, own_g0, own_g1, own_g2, own_g3, own_g4, own_nb0, own_nb1, h_p0_p2, g_p0_p2, h_p0_p3, g_p0_p3, h_p0_x, g_p0_x]
            ·
              have g_p2_x : ¬ x = p2 := fun q => h_p2_x q.symm
              simp +decide [own_st, own_exp, own_FB4, own_Fb1, own_Fb2, own_Fb3, own_Fb4, own_Fat, own_t1, own_t2, own_t3, own_g0, own_g1, own_g2, own_g3, own_g4, own_nb0, own_nb1, h_p0_p2, g_p0_p2, h_p0_p3, g_p0_p3, h_p0_x, g_p0_x, h_p2_x, g_p2_x]
        ·
          have g_p2_p3 : ¬ p3 = p2 := fun q => h_p2_p3 q.symm
          by_cases h_p0_x : p0 = x
          ·
            subst h_p0_x
            simp +decide [own_st, own_exp, own_FB4, own_Fb1, own_Fb2, own_Fb3, own_Fb4, own_Fat, own_t1, own_t2, own_t3, own_g0, own_g1, own_g2, own_g3, own_g4, own_nb0, own_nb1, h_p0_p2, g_p0_p2, h_p0_p3, g_p0_p3, h_p2_p3, g_p2_p3]
          ·
            have g_p0_x : ¬ x = p0 := fun q => h_p0_x q.symm
            by_cases h_p2_x : p2 = x
            ·
              subst h_p2_x
              simp +decide [own_st, own_exp, own_FB4, own_Fb1, own_Fb2, own_Fb3, own_Fb4, own_Fat, own_t1, own_t2, own_t3, own_g0, own_g1, own_g2, own_g3, own_g4, own_nb0, own_nb1, h_p0_p2, g_p0_p2, h_p0_p3, g_p0_p3, h_p2_p3, g_p2_p3, h_p0_x, g_p0_x]
            ·
              have g_p2_x : ¬ x = p2 := fun q => h_p2_x q.symm
              by_cases h_p3_x : p3 = x
              ·
                subst h_p3_x
                simp +decide [own_st, own_exp, own_FB4, own_Fb1, own_Fb2, own_Fb3, own_Fb4, own_Fat, own_t1, own_t2, own_t3, own_g0, own_g1, own_g2, own_g3, own_g4, own_nb0, own_nb1, h_p0_p2, g_p0_p2, h_p0_p3, g_p0_p3, h_p2_p3, g_p2_p3, h_p0_x, g_p0_x, h_p2_x, g_p2_x]
              ·
                have g_p3_x : ¬ x = p3 := fun q => h_p3_x q.symm
                simp +decide [own_st, own_exp, own_FB4, own_Fb1, own_Fb2, own_Fb3, own_Fb4, own_Fat, own_t1, own_t2, own_t3, own_g0, own_g1, own_g2, own_g3, own_g4, own_nb0, own_nb1, h_p0_p2, g_p0_p2, h_p0_p3, g_p0_p3, h_p2_p3, g_p2_p3, h_p0_x, g_p0_x, h_p2_x, g_p2_x, h_p3_x, g_p3_x]
  ·
    have g_p0_p1 : ¬ p1 = p0 := fun q => h_p0_p1 q.symm
    by_cases h_p0_p2 : p0 = p2
    ·
      subst h_p0_p2
      by_cases h_p0_p3 : p0 = p3
      ·
        subst h_p0_p3
        by_cases h_p0_x : p0 = x
        ·
          subst h_p0_x
          simp +decide [own_st, own_exp, own_FB4, own_Fb1, own_Fb2, own_Fb3, own_Fb4, own_Fat, own_t1, own_t2, own_t3, own_g0, own_g1, own_g2, own_g3, own_g4, own_nb0, own_nb1, h_p0_p1, g_p0_p1]
        ·
          have g_p0_x : ¬ x = p0 := fun q => h_p0_x q.symm
          by_cases h_p1_x : p1 = x
          ·
            subst h_p1_x
            simp +decide [own_st, own_exp, own_FB4, own_Fb1, own_Fb2, own_Fb3, own_Fb4, own_Fat, own_t1, own_t2, own_t3, own_g0, own_g1, own_g2, own_g3, own_g4, own_nb0, own_nb1, h_p0_p1, g_p0_p1, h_p0_x, g_p0_x]
          ·
            have g_p1_x : ¬ x = p1 := fun q => h_p1_x q.symm
            simp +decide [own_st, own_exp, own_FB4, own_Fb1, own_Fb2, own_Fb3, own_Fb4, own_Fat, own_t1, own_t2, own_t3, own_g0, own_g1, own_g2, own_g3, own_g4, own_nb0, own_nb1, h_p0_p1, g_p0_p1, h_p0_x, g_p0_x, h_p1_x, g_p1_x]
      ·
        have g_p0_p3 : ¬ p3 = p0 := fun q => h_p0_p3 q.symm
        by_cases h_p1_p3 : p1 = p3
        ·
          subst h_p1_p3
          by_cases h_p0_x : p0 = x
          ·
            subst h_p0_x
            simp +decide [own_st, own_exp, own_FB4, own_Fb1, own_Fb2, own_Fb3, own_Fb4, own_Fat, own_t1, own_t2, own_t3, own_g0, own_g1, own_g2, own_g3, own_g4, own_nb0, own_nb1, h_p0_p1, g_p0_p1, h_p0_p3, g_p0_p3]
          ·
            have g_p0_x : ¬ x = p0 := fun q => h_p0_x q.symm
            by_cases h_p1_x : p1 = x
            ·
              subst h_p1_x
              simp +decide [own_st, own_exp, own_FB4, own_Fb1, own_Fb2, own_Fb3, own_Fb4, own_Fat, own_t1, own_t2, own_t3, own_g0, own_g1, own_g2, own_g3, own_g4, own_nb0, own_nb1, h_p0_p1, g_p0_p1, h_p0_p3, g_p0_p3, h_p0_x, g_p0_x]
            ·
              have g_p1_x : ¬ x = p1 := fun q => h_p1_x q.symm
              simp +decide [own_st, own_exp, own_FB4, own_Fb1, own_Fb2, own_Fb3, own_Fb4, own_Fat, own_t1, own_t2, own_t3, own_g0, own_g1, own_g2, own_g3, own_g4, own_nb0, own_nb1, h_p0_p1, g_p0_p1, h_p0_p3, g_p0_p3, h_p0_x, g_p0_x, h_p1_x, g_p1_x]
        ·
          have g_p1_p3 : ¬ p3 = p1 := fun q => h_p1_p3 q.symm
          by_cases h_p0_x : p0 = x
          ·
            subst h_p0_x
            simp +decide [own_st, own_exp, own_FB4, own_Fb1, own_Fb2, own_Fb3, own_Fb4, own_Fat, own_t1, own_t2, own_t3, own_g0, own_g1, own_g2, own_g3, own_g4, own_nb0, own_nb1, h_p0_p1, g_p0_p1, h_p0_p3, g_p0_p3, h_p1_p3, g_p1_p3]
          ·
            have g_p0_x : ¬ x = p0 := fun q => h_p0_x q.symm
            by_cases h_p1_x : p1 = x
            ·
              subst h_p1_x
              simp +decide [own_st, own_exp, own_FB4, own_Fb1, own_Fb2, own_Fb3, own_Fb4, own_Fat, own_t1, own_t2, own_t3, own_g0, own_g1, own_g2, own_g3, own_g4, own_nb0, own_nb1, h_p0_p1, g_p0_p1, h_p0_p3, g_p0_p3, h_p1_p3, g_p1_p3, h_p0_x, g_p0_x]
            ·
              have g_p1_x : ¬ x = p1 := fun q => h_p1_x q.symm
              by_cases h_p3_x : p3 = x
              ·
                subst h_p3_x
                simp +decide [own_st, own_exp, own_FB4, own_Fb1, own_Fb2, own_Fb3, own_Fb4, own_Fat, own_t1, own_t2, own_t3, own_g0, own_g1, own_g2, own_g3, own_g4, own_nb0, own_nb1, h_p0_p1, g_p0_p1, h_p0_p3, g_p0_p3, h_p1_p3, g_p1_p3, h_p0_x, g_p0_x, h_p1_x, g_p1_x]
              ·
                have g_p3_x : ¬ x = p3 := fun q => h_p3_x q.symm
                simp +decide [own_st, own_exp, own_FB4, own_Fb1, own_Fb2, own_Fb3, own_Fb4, own_Fat, own_t1, own_t2, own_t3, own_g0, own_g1, own_g2, own_g3, own_g4, own_nb0, own_nb1, h_p0_p1, g_p0_p1, h_p0_p3, g_p0_p3, h_p1_p3, g_p1_p3, h_p0_x, g_p0_x, h_p1_x, g_p1_x, h_p3_x, g_p3_x]
    ·
      have g_p0_p2 : ¬ p2 = p0 := fun q => h_p0_p2 q.symm
      by_cases h_p1_p2 : p1 = p2
      ·
        subst h_p1_p2
        by_cases h_p0_p3 : p0 = p3
        ·
          subst h_p0_p3
          by_cases h_p0_x : p0 = x
          ·
            subst h_p0_x
            simp +decide [own_st, own_exp, own_FB4, own_Fb1, own_Fb2, own_Fb3, own_Fb4, own_Fat, own_t1, own_t2, own_t3, own_g0, own_g1, own_g2, own_g3, own_g4, own_nb0, own_nb1, h_p0_p1, g_p0_p1, h_p0_p2, g_p0_p2]
          ·
            have g_p0_x : ¬ x = p0 := fun q => h_p0_x q.symm
            by_cases h_p1_x : p1 = x
            ·
              subst h_p1_x
              simp +decide [own_st, own_exp, own_FB4, own_Fb1, own_Fb2, own_Fb3, own_Fb4, own_Fat, own_t1, own_t2, own_t3, own_g0, own_g1, own_g2, own_g3, own_g4, own_nb0, own_nb1, h_p0_p1, g_p0_p1, h_p0_p2, g_p0_p2, h_p0_x, g_p0_x]
            ·
              have g_p1_x : ¬ x = p1 := fun q => h_p1_x q.symm
              simp +decide [own_st, own_exp, own_FB4, own_Fb1, own_Fb2, own_Fb3, own_Fb4, own_Fat, own_t1, own_t2, own_t3, own_g0, own_g1, own_g2, own_g3, own_g4, own_nb0, own_nb1, h_p0_p1, g_p0_p1, h_p0_p2, g_p0_p2, h_p0_x, g_p0_x, h_p1_x, g_p1_x]
        ·
          have g_p0_p3 : ¬ p3 = p0 := fun q => h_p0_p3 q.symm
          by_cases h_p1_p3 : p1 = p3
          ·
            subst h_p1_p3
            by_cases h_p0_x : p0 = x
            ·
              subst h_p0_x
              simp +decide [own_st, own_exp, own_FB4, own_Fb1, own_Fb2, own_Fb3, own_Fb4, own_Fat, own_t1, own_t2, own_t3, own_g0, own_g1, own_g2, own_g3, own_g4, own_nb0, own_nb1, h_p0_p1, g_p0_p1, h_p0_p2, g_p0_p2, h_p0_p3, g_p0_p3]
            ·
              have g_p0_x : ¬ x = p0 := fun q => h_p0_x q.symm
              by_cases h_p1_x : p1 = x
              ·
                subst h_p1_x
                simp +decide [own_st, own_exp, own_FB4, own_Fb1, own_Fb2, own_Fb3, own_Fb4, own_Fat, own_t1, own_t2, own_t3, own_g0, own_g1, own_g2, own_g3, own_g4, own_nb0, own_nb1, h_p0_p1, g_p0_p1, h_p0_p2, g_p0_p2, h_p0_p3, g_p0_p3, h_p0_x, g_p0_x]
              ·
                have g_p1_x : ¬ x = p1 := fun q => h_p1_x q.symm
                simp +decide [own_st, own_exp, own_FB4, own_Fb1, own_Fb2, own_Fb3, own_Fb4, own_Fat, own_t1, own_t2, own_t3, own_g0, own_g1, own_g2, own_g3, own_g4, own_nb0, own_nb1, h_p0_p1, g_p0_p1, h_p0_p2, g_p0_p2, h_p0_p3, g_p0_p3, h_p0_x, g_p0_x, h_p1_x, g_p1_x]
          ·
            have g_p1_p3 : ¬ p3 = p1 := fun q => h_p1_p3 q.symm
            by_cases h_p0_x : p0 = x
            ·
              subst h_p0_x
              simp +decide [own_st, own_exp, own_FB4, own_Fb1, own_Fb2, own_Fb3, own_Fb4, own_Fat, own_t1, own_t2, own_t3, own_g0, own_g1, own_g2, own_g3, own_g4, own_nb0, own_nb1, h_p0_p1, g_p0_p1, h_p0_p2, g_p0_p2, h_p0_p3, g_p0_p3, h_p1_p3, g_p1_p3]
            ·
              have g_p0_x : ¬ x = p0 := fun q => h_p0_x q.symm
              by_cases h_p1_x : p1 = x
              ·
                subst h_p1_x
                simp +decide [own_st, own_exp, own_FB4, own_Fb1, own_Fb2, own_Fb3, own_Fb4, own_Fat, own_t1, own_t2, own_t3, own_g0, own_g1, own_g2, own_g3, own_g4, own_nb0, own_nb1, h_p0_p1, g_p0_p1, h_p0_p2, g_p0_p2, h_p0_p3, g_p0_p3, h_p1_p3, g_p1_p3, h_p0_x, g_p0_x]
              ·
                have g_p1_x : ¬ x = p1 := fun q => h_p1_x q.symm
                by_cases h_p3_x : p3 = x
                ·
                  subst h_p3_x
                  simp +decide [own_st, own_exp, own_FB4, own_Fb1, own_Fb2, own_Fb3, own_Fb4, own_Fat, own_t1, own_t2, own_t3, own_g0, own_g1, own_g2, own_g3, own_g4, own_nb0, own_nb1, h_p0_p1, g_p0_p1, h_p0_p2, g_p0_p2, h_p0_p3, g_p0_p3, h_p1_p3, g_p1_p3, h_p0_x, g_p0_x, h_p1_x, g_p1_x]
                ·
                  have g_p3_x : ¬ x = p3 := fun q => h_p3_x q.symm
                  simp +decide [own_st, own_exp, own_FB4, own_Fb1, own_Fb2, own_Fb3, own_Fb4, own_Fat, own_t1, own_t2, own_t3, own_g0, own_g1, own_g2, own_g3, own_g4, own_nb0, own_nb1, h_p0_p1, g_p0_p1, h_p0_p2, g_p0_p2, h_p0_p3, g_p0_p3, h_p1_p3, g_p1_p3, h_p0_x, g_p0_x, h_p1_x, g_p1_x, h_p3_x, g_p3_x]
      ·
        have g_p1_p2 : ¬ p2 = p1 := fun q => h_p1_p2 q.symm
        by_cases h_p0_p3 : p0 = p3
        ·
          subst h_p0_p3
          by_cases h_p0_x : p0 = x
          ·
            subst h_p0_x
            simp +decide [own_st, own_exp, own_FB4, own_Fb1, own_Fb2, own_Fb3, own_Fb4, own_Fat, own_t1, own_t2, own_t3, own_g0, own_g1, own_g2, own_g3, own_g4, own_nb0, own_nb1, h_p0_p1, g_p0_p1, h_p0_p2, g_p0_p2, h_p1_p2, g_p1_p2]
          ·
            have g_p0_x : ¬ x = p0 := fun q => h_p0_x q.symm
            by_cases h_p1_x : p1 = x
            ·
              subst h_p1_x
              simp +decide [own_st, own_exp, own_FB4, own_Fb1, own_Fb2, own_Fb3, own_Fb4, own_Fat, own_t1, own_t2, own_t3, own_g0, own_g1, own_g2, own_g3, own_g4, own_nb0, own_nb1, h_p0_p1, g_p0_p1, h_p0_p2, g_p0_p2, h_p1_p2, g_p1_p2, h_p0_x, g_p0_x]
            ·
              have g_p1_x : ¬ x = p1 := fun q => h_p1_x q.symm
              by_cases h_p2_x : p2 = x
              ·
                subst h_p2_x
                simp +decide [own_st, own_exp, own_FB4, own_Fb1, own_Fb2, own_Fb3, own_Fb4, own_Fat, own_t1, own_t2, own_t3, own_g0, own_g1, own_g2, own_g3, own_g4, own_nb0, own_nb1, h_p0_p1, g_p0_p1, h_p0_p2, g_p0_p2, h_p1_p2, g_p1_p2, h_p0_x, g_p0_x, h_p1_x, g_p1_x]
              ·
                have g_p2_x : ¬ x = p2 := fun q => h_p2_x q.symm
                simp +decide [own_st, own_exp, own_FB4, own_Fb1, own_Fb2, own_Fb3, own_Fb4, own_Fat, own_t1, own_t2, own_t3, own_g0, own_g1, own_g2, own_g3, own_g4, own_nb0, own_nb1, h_p0_p1, g_p0_p1, h_p0_p2, g_p0_p2, h_p1_p2, g_p1_p2, h_p0_x, g_p0_x, h_p1_x, g_p1_x, h_p2_x, g_p2_x]
        ·
          have g_p0_p3 : ¬ p3 = p0 := fun q => h_p0_p3 q.symm
          by_cases h_p1_p3 : p1 = p3
          ·
            subst h_p1_p3
            by_cases h_p0_x : p0 = x
            ·
              subst h_p0_x
              simp +decide [own_st, own_exp, own_FB4, own_Fb1, own_Fb2, own_Fb3, own_Fb4, own_Fat, own_t1, own_t2, own_t3, own_g0, own_g1, own_g2, own_g3, own_g4, own_nb0, own_nb1, h_p0_p1, g_p0_p1, h_p0_p2, g_p0_p2, h_p1_p2, g_p1_p2, h_p0_p3, g_p0_p3]
            ·
              have g_p0_x : ¬ x = p0 := fun q => h_p0_x q.symm
              by_cases h_p1_x : p1 = x
              ·
                subst h_p1_x
                simp +decide [own_st, own_exp, own_FB4, own_Fb1, own_Fb2, own_Fb3, own_Fb4, own_Fat, own_t1, own_t2, own_t3, own_g0, own_g1, own_g2, own_g3, own_g4, own_nb0, own_nb1, h_p0_p1, g_p0_p1, h_p0_p2, g_p0_p2, h_p1_p2, g_p1_p2, h_p0_p3, g_p0_p3, h_p0_x, g_p0_x]
              ·
                have g_p1_x : ¬ x = p1 := fun q => h_p1_x q.symm
                by_cases h_p2_x : p2 = x
                ·
                  subst h_p2_x
                  simp +decide [own_st, own_exp, own_FB4, own_Fb1, own_Fb2, own_Fb3, own_Fb4, own_Fat, own_t1, own_t2, own_t3, own_g0, own_g1, own_g2, own_g3, own_g4, own_nb0, own_nb1, h_p0_p1, g_p0_p1, h_p0_p2, g_p0_p2, h_p1_p2, g_p1_p2, h_p0_p3, g_p0_p3, h_p0_x, g_p0_x, h_p1_x, g_p1_x]
                ·
                  have g_p2_x : ¬ x = p2 := fun q => h_p2_x q.symm
                  simp +decide [own_st, own_exp, own_FB4, own_Fb1, own_Fb2, own_Fb3, own_Fb4, own_Fat, own_t1, own_t2, own_t3, own_g0, own_g1, own_g2, own_g3, own_g4, own_nb0, own_nb1, h_p0_p1, g_p0_p1, h_p0_p2, g_p0_p2, h_p1_p2, g_p1_p2, h_p0_p3, g_p0_p3, h_p0_x, g_p0_x, h_p1_x, g_p1_x, h_p2_x, g_p2_x]
          ·
            have g_p1_p3 : ¬ p3 = p1 := fun q => h_p1_p3 q.symm
            by_cases h_p2_p3 : p2 = p3
            ·
              subst h_p2_p3
              by_cases h_p0_x : p0 = x
              ·
                subst h_p0_x
                simp +decide [own_st, own_exp, own_FB4, own_Fb1, own_Fb2, own_Fb3, own_Fb4, own_Fat, own_t1, own_t2, own_t3, own_g0, own_g1, own_g2, own_g3, own_g4, own_nb0, own_nb1, h_p0_p1, g_p0_p1, h_p0_p2, g_p0_p2, h_p1_p2, g_p1_p2, h_p0_p3, g_p0_p3, h_p1_p3, g_p1_p3]
              ·
                have g_p0_x : ¬ x = p0 := fun q => h_p0_x q.symm
                by_cases h_p1_x : p1 = x
                ·
                  subst h_p1_x
                  simp +decide [own_st, own_exp, own_FB4, own_Fb1, own_Fb2, own_Fb3, own_Fb4, own_Fat, own_t1, own_t2, own_t3, own_g0, own_g1, own_g2, own_g3, own_g4, own_nb0, own_nb1, h_p0_p1, g_p0_p1, h_p0_p2, g_p0_p2, h_p1_p2, g_p1_p2, h_p0_p3, g_p0_p3, h_p1_p3, g_p1_p3, h_p0_x, g_p0_x]
                ·
                  have g_p1_x : ¬ x = p1 := fun q => h_p1_x q.symm
                  by_cases h_p2_x : p2 = x
                  ·
                    subst h_p2_x
                    simp +decide [own_st, own_exp, own_FB4, own_Fb1, own_Fb2, own_Fb3, own_Fb4, own_Fat, own_t1, own_t2, own_t3, own_g0, own_g1, own_g2, own_g3, own_g4, own_nb0, own_nb1, h_p0_p1, g_p0_p1, h_p0_p2, g_p0_p2, h_p1_p2, g_p1_p2, h_p0_p3, g_p0_p3, h_p1_p3, g_p1_p3, h_p0_x, g_p0_x, h_p1_x, g_p1_x]
                  ·
                    have g_p2_x : ¬ x = p2 := fun q => h_p2_x q.symm
                    simp +decide [own_st, own_exp, own_FB4, own_Fb1, own_Fb2, own_Fb3, own_Fb4, own_Fat, own_t1, own_t2, own_t3, own_g0, own_g1, own_g2, own_g3, own_g4, own_nb0, own_nb1, h_p0_p1, g_p0_p1, h_p0_p2, g_p0_p2, h_p1_p2, g_p1_p2, h_p0_p3, g_p0_p3, h_p1_p3, g_p1_p3, h_p0_x, g_p0_x, h_p1_x, g_p1_x, h_p2_x, g_p2_x]
            ·
              have g_p2_p3 : ¬ p3 = p2 := fun q => h_p2_p3 q.symm
              by_cases h_p0_x : p0 = x
              ·
                subst h_p0_x
                simp +decide [own_st, own_exp, own_FB4, own_Fb1, own_Fb2, own_Fb3, own_Fb4, own_Fat, own_t1, own_t2, own_t3, own_g0, own_g1, own_g2, own_g3, own_g4, own_nb0, own_nb1, h_p0_p1, g_p0_p1, h_p0_p2, g_p0_p2, h_p1_p2, g_p1_p2, h_p0_p3, g_p0_p3, h_p1_p3, g_p1_p3, h_p2_p3, g_p2_p3]
              ·
                have g_p0_x : ¬ x = p0 := fun q => h_p0_x q.symm
                by_cases h_p1_x : p1 = x
                ·
                  subst h_p1_x
                  simp +decide [own_st, own_exp, own_FB4, own_Fb1, own_Fb2, own_Fb3, own_Fb4, own_Fat, own_t1, own_t2, own_t3, own_g0, own_g1, own_g2, own_g3, own_g4, own_nb0, own_nb1, h_p0_p1, g_p0_p1, h_p0_p2, g_p0_p2, h_p1_p2, g_p1_p2, h_p0_p3, g_p0_p3, h_p1_p3, g_p1_p3, h_p2_p3, g_p2_p3, h_p0_x, g_p0_x]
                ·
                  have g_p1_x : ¬ x = p1 := fun q => h_p1_x q.symm
                  by_cases h_p2_x : p2 = x
                  ·
                    subst h_p2_x
                    simp +decide [own_st, own_exp, own_FB4, own_Fb1, own_Fb2, own_Fb3, own_Fb4, own_Fat, own_t1, own_t2, own_t3, own_g0, own_g1, own_g2, own_g3, own_g4, own_nb0, own_nb1, h_p0_p1, g_p0_p1, h_p0_p2, g_p0_p2, h_p1_p2, g_p1_p2, h_p0_p3, g_p0_p3, h_p1_p3, g_p1_p3, h_p2_p3, g_p2_p3, h_p0_x, g_p0_x, h_p1_x, g_p1_x]
                  ·
                    have g_p2_x : ¬ x = p2 := fun q => h_p2_x q.symm
                    by_cases h_p3_x : p3 = x
                    ·
                      subst h_p3_x
                      simp +decide [own_st, own_exp, own_FB4, own_Fb1, own_Fb2, own_Fb3, own_Fb4, own_Fat, own_t1, own_t2, own_t3, own_g0, own_g1, own_g2, own_g3, own_g4, own_nb0, own_nb1, h_p0_p1, g_p0_p1, h_p0_p2, g_p0_p2, h_p1_p2, g_p1_p2, h_p0_p3, g_p0_p3, h_p1_p3, g_p1_p3, h_p2_p3, g_p2_p3, h_p0_x, g_p0_x, h_p1_x, g_p1_x, h_p2_x, g_p2_x]
                    ·
                      have g_p3_x : ¬ x = p3 := fun q => h_p3_x q.symm
                      simp +decide [own_st, own_exp, own_FB4, own_Fb1, own_Fb2, own_Fb3, own_Fb4, own_Fat, own_t1, own_t2, own_t3, own_g0, own_g1, own_g2, own_g3, own_g4, own_nb0, own_nb1, h_p0_p1, g_p0_p1, h_p0_p2, g_p0_p2, h_p1_p2, g_p1_p2, h_p0_p3, g_p0_p3, h_p1_p3, g_p1_p3, h_p2_p3, g_p2_p3, h_p0_x, g_p0_x, h_p1_x, g_p1_x, h_p2_x, g_p2_x, h_p3_x, g_p3_x]
theorem own_law {P FB : List Int32} {nn z2 m : Int32} (h : own_ok P FB nn z2) (hm : own_pl nn m) (x : Int32) : own_st P FB x 3 m = own_exp P m x := by
  rcases h with ⟨p0, rfl, rfl, rfl, rfl⟩ | ⟨p0, p1, rfl, rfl, rfl, rfl⟩ | ⟨p0, p1, p2, rfl, rfl, rfl, rfl⟩ | ⟨p0, p1, p2, p3, rfl, rfl, rfl, rfl⟩
  · rcases own_m1 hm with rfl
    · exact own_L10 p0 x
  · rcases own_m2 hm with rfl | rfl
    · exact own_L20 p0 p1 x
    · exact own_L21 p0 p1 x
  · rcases own_m3 hm with rfl | rfl | rfl
    · exact own_L30 p0 p1 p2 x
    · exact own_L31 p0 p1 p2 x
    · exact own_L32 p0 p1 p2 x
  · rcases own_m4 hm with rfl | rfl | rfl | rfl
    · exact own_L40 p0 p1 p2 p3 x
    · exact own_L41 p0 p1 p2 p3 x
    · exact own_L42 p0 p1 p2 p3 x
    · exact own_L43 p0 p1 p2 p3 x
theorem own_pn0 : plainFor x = true := plainFor_of_name (by first | (simp [plainName, overriddenIn]; done) | decide +kernel)
theorem own_rm0_ef (m : MethodId) (p0 : Int32) (p1 : Int32) (p2 : Int32) (p3 : Int32) : entryFrame m #[(.int p0), (.int p1), (.int p2), (.int p3)] maxLocals = mkF m 0 #[.val (.int p0), .val (.int p1), .val (.int p2), .val (.int p3), .unset, .unset, .unset, .unset, .unset, .unset, .unset, .unset, .unset, .unset, .unset, .unset, .unset] [] := by first | (simp [entryFrame, mkF, argsToLocals, Value.category, maxLocals]; done) | rfl
set_option maxRecDepth 65536 in
set_option maxHeartbeats 40000000 in
theorem own_rm0 (l : Launch) (Z : State) (a0 : Array Value) (hw : ∀ d ∈ tables_1, d.before a0 Z = true) (ws : List Jvm.Cond) (p0 : Int32) (p1 : Int32) (p2 : Int32) (p3 : Int32) (w1 : Addr) (w2 : Addr) (h0 : Heap) (n0 : Nat) (Z0 : n0 ≤ h0.size) (i_S1 : Sta Z h0 own_cM "OVERLAPPING" "Lcom/example/skipstitch/skipstitch/Matching;" (.ref w1)) (i_S2 : Sta Z h0 own_cM "NON_OVERLAPPING" "Lcom/example/skipstitch/skipstitch/Matching;" (.ref w2)) (i_E1 : Exa Z h0 w1 own_cM) (i_E2 : Exa Z h0 w2 own_cM) :
    own_CW l Z x code maxLocals ret ws room_1 #[(.int p0), (.int p1), (.int p2), (.int p3)] h0 (own_W n0 (fun v _ => v = some (.int 1))) := by
  refine MetFree.of_bodySF own_pn0 hisR ?_
  intro p e s m args below meth c s₁ Bd hml0 hP hK
  obtain ⟨rfl, hZ, hh⟩ := hP
  have hx := Bd.exec
  have hby := Bd.bytes
  have hml : c.maxLocals = 17 := hml0
  have hown : s.vm.findClass "com/example/skipstitch/skipstitch/KmpPatternStepPinLaw" = some m.cls := findClass_of_methodNamed Bd.named
  have hnm := (name_of_methodNamed Bd.named Bd.method).1
  have X0 : Stand p l e room_1 s m #[(.int p0), (.int p1), (.int p2), (.int p3)] below meth c s₁ [] 0 0 := Stand.of_body Bd
  have e0 : s₁.heap = h0 := by rw [← hh, Bd.state]; rfl
  have N0 := Fr.nil n0
  have S0 := own_S0 s
  have W0 : 0 ≤ h0.size := Nat.zero_le _
  obtain ⟨Pw, hPw⟩ : ∃ P, P = (own_PW s (own_W n0 (fun v _ => v = some (.int 1))) room_1.cells room_1.slots) := ⟨_, rfl⟩
  show own_G p e below (own_PW s (own_W n0 (fun v _ => v = some (.int 1))) room_1.cells room_1.slots) (s₁.setTop (entryFrame m #[(.int p0), (.int p1), (.int p2), (.int p3)] maxLocals))
  rw [← hPw]
  rw [own_rm0_ef m p0 p1 p2 p3]
  show own_H s₁ 0 #[.val (.int p0), .val (.int p1), .val (.int p2), .val (.int p3), .unset, .unset, .unset, .unset, .unset, .unset, .unset, .unset, .unset, .unset, .unset, .unset, .unset] []
  refine own_via (fun t k => XS.iloadN X0.here hx rfl (hb hby at_0) rfl k) ?_
  refine own_via (fun t k => XS.iconst X0.here hx rfl (hb hby at_1) k) ?_
  show own_H s₁ 2 #[.val (.int p0), .val (.int p1), .val (.int p2), .val (.int p3), .unset, .unset, .unset, .unset, .unset, .unset, .unset, .unset, .unset, .unset, .unset, .unset, .unset] [(.int (1 : Int32)), (.int p3)]
  refine own_via (fun t k => XS.iand X0.here hx rfl (hb hby at_2) rfl k) ?_
  show own_H s₁ 3 #[.val (.int p0), .val (.int p1), .val (.int p2), .val (.int p3), .unset, .unset, .unset, .unset, .unset, .unset, .unset, .unset, .unset, .unset, .unset, .unset, .unset] [(.int (p3 &&& (1 : Int32)))]
  have J1 : ∀ (TJ1 : State) (XJ1 : Stand p l e room_1 s m #[(.int p0), (.int p1), (.int p2), (.int p3)] below meth c TJ1 [] 0 0) (EJ1 : TJ1.heap = h0) (zj2 : Int32), zj2 = (if (p3 &&& (1 : Int32)) = (0 : Int32) then p0 else p1) → own_G p e below Pw (TJ1.setTop (mkF m 11 #[.val (.int p0), .val (.int p1), .val (.int p2), .val (.int p3), .unset, .unset, .unset, .unset, .unset, .unset, .unset, .unset, .unset, .unset, .unset, .unset, .unset] [(.int zj2)])) := by
    intro TJ1 XJ1 EJ1 zj2 hzj2
    refine own_via (fun t k => XS.istore XJ1.here hx rfl (hb hby at_11) rfl (l' := #[.val (.int p0), .val (.int p1), .val (.int p2), .val (.int p3), .val (.int zj2), .unset, .unset, .unset, .unset, .unset, .unset, .unset, .unset, .unset, .unset, .unset, .unset]) rfl k) ?_
    refine own_via (fun t k => XS.iloadN XJ1.here hx rfl (hb hby at_13) rfl k) ?_
    refine own_via (fun t k => XS.iconst XJ1.here hx rfl (hb hby at_14) k) ?_
    show own_H TJ1 15 #[.val (.int p0), .val (.int p1), .val (.int p2), .val (.int p3), .val (.int zj2), .unset, .unset, .unset, .unset, .unset, .unset, .unset, .unset, .unset, .unset, .unset, .unset] [(.int (2 : Int32)), (.int p3)]
    refine own_via (fun t k => XS.iand XJ1.here hx rfl (hb hby at_15) rfl k) ?_
    show own_H TJ1 16 #[.val (.int p0), .val (.int p1), .val (.int p2), .val (.int p3), .val (.int zj2), .unset, .unset, .unset, .unset, .unset, .unset, .unset, .unset, .unset, .unset, .unset, .unset] [(.int (p3 &&& (2 : Int32)))]
    have J3 : ∀ (TJ3 : State) (XJ3 : Stand p l e room_1 s m #[(.int p0), (.int p1), (.int p2), (.int p3)] below meth c TJ3 [] 0 0) (EJ3 : TJ3.heap = h0) (zj4 : Int32), zj4 = (if (p3 &&& (2 : Int32)) = (0 : Int32) then p0 else p1) → own_G p e below Pw (TJ3.setTop (mkF m 24 #[.val (.int p0), .val (.int p1), .val (.int p2), .val (.int p3), .val (.int zj2), .unset, .unset, .unset, .unset, .unset, .unset, .unset, .unset, .unset, .unset, .unset, .unset] [(.int zj4)])) := by
      intro TJ3 XJ3 EJ3 zj4 hzj4
      refine own_via (fun t k => XS.istore XJ3.here hx rfl (hb hby at_24) rfl (l' := #[.val (.int p0), .val (.int p1), .val (.int p2), .val (.int p3), .val (.int zj2), .val (.int zj4), .unset, .unset, .unset, .unset, .unset, .unset, .unset, .unset, .unset, .unset, .unset]) rfl k) ?_
      refine own_via (fun t k => XS.iloadN XJ3.here hx rfl (hb hby at_26) rfl k) ?_
      refine own_via (fun t k => XS.iconst XJ3.here hx rfl (hb hby at_27) k) ?_
      show own_H TJ3 28 #[.val (.int p0), .val (.int p1), .val (.int p2), .val (.int p3), .val (.int zj2), .val (.int zj4), .unset, .unset, .unset, .unset, .unset, .unset, .unset, .unset, .unset, .unset, .unset] [(.int (4 : Int32)), (.int p3)]
      refine own_via (fun t k => XS.iand XJ3.here hx rfl (hb hby at_28) rfl k) ?_
      show own_H TJ3 29 #[.val (.int p0), .val (.int p1), .val (.int p2), .val (.int p3), .val (.int zj2), .val (.int zj4), .unset, .unset, .unset, .unset, .unset, .unset, .unset, .unset, .unset, .unset, .unset] [(.int (p3 &&& (4 : Int32)))]
      have J5 : ∀ (TJ5 : State) (XJ5 : Stand p l e room_1 s m #[(.int p0), (.int p1), (.int p2), (.int p3)] below meth c TJ5 [] 0 0) (EJ5 : TJ5.heap = h0) (zj6 : Int32), zj6 = (if (p3 &&& (4 : Int32)) = (0 : Int32) then p0 else p1) → own_G p e below Pw (TJ5.setTop (mkF m 37 #[.val (.int p0), .val (.int p1), .val (.int p2), .val (.int p3), .val (.int zj2), .val (.int zj4), .unset, .unset, .unset, .unset, .unset, .unset, .unset, .unset, .unset, .unset, .unset] [(.int zj6)])) := by
        intro TJ5 XJ5 EJ5 zj6 hzj6
        refine own_via (fun t k => XS.istore XJ5.here hx rfl (hb hby at_37) rfl (l' := #[.val (.int p0), .val (.int p1), .val (.int p2), .val (.int p3), .val (.int zj2), .val (.int zj4), .val (.int zj6), .unset, .unset, .unset, .unset, .unset, .unset, .unset, .unset, .unset, .unset]) rfl k) ?_
        refine own_via (fun t k => XS.iloadN XJ5.here hx rfl (hb hby at_39) rfl k) ?_
        refine own_via (fun t k => XS.bipush XJ5.here hx rfl (hb hby at_40) k) ?_
        show own_H TJ5 42 #[.val (.int p0), .val (.int p1), .val (.int p2), .val (.int p3), .val (.int zj2), .val (.int zj4), .val (.int zj6), .unset, .unset, .unset, .unset, .unset, .unset, .unset, .unset, .unset, .unset] [(.int (8 : Int32)), (.int p3)]
        refine own_via (fun t k => XS.iand XJ5.here hx rfl (hb hby at_42) rfl k) ?_
        show own_H TJ5 43 #[.val (.int p0), .val (.int p1), .val (.int p2), .val (.int p3), .val (.int zj2), .val (.int zj4), .val (.int zj6), .unset, .unset, .unset, .unset, .unset, .unset, .unset, .unset, .unset, .unset] [(.int (p3 &&& (8 : Int32)))]
        have J7 : ∀ (TJ7 : State) (XJ7 : Stand p l e room_1 s m #[(.int p0), (.int p1), (.int p2), (.int p3)] below meth c TJ7 [] 0 0) (EJ7 : TJ7.heap = h0) (zj8 : Int32), zj8 = (if (p3 &&& (8 : Int32)) = (0 : Int32) then p0 else p1) → own_G p e below Pw (TJ7.setTop (mkF m 51 #[.val (.int p0), .val (.int p1), .val (.int p2), .val (.int p3), .val (.int zj2), .val (.int zj4), .val (.int zj6), .unset, .unset, .unset, .unset, .unset, .unset, .unset, .unset, .unset, .unset] [(.int zj8)])) := by
          intro TJ7 XJ7 EJ7 zj8 hzj8
          refine own_via (fun t k => XS.istore XJ7.here hx rfl (hb hby at_51) rfl (l' := #[.val (.int p0), .val (.int p1), .val (.int p2), .val (.int p3), .val (.int zj2), .val (.int zj4), .val (.int zj6), .val (.int zj8), .unset, .unset, .unset, .unset, .unset, .unset, .unset, .unset, .unset]) rfl k) ?_
          refine own_via (fun t k => XS.iconst XJ7.here hx rfl (hb hby at_53) k) ?_
          refine own_via (fun t k => XS.iloadN XJ7.here hx rfl (hb hby at_54) rfl k) ?_
          refine own_via (fun t k => XS.iconst XJ7.here hx rfl (hb hby at_55) k) ?_
          show own_H TJ7 56 #[.val (.int p0), .val (.int p1), .val (.int p2), .val (.int p3), .val (.int zj2), .val (.int zj4), .val (.int zj6), .val (.int zj8), .unset, .unset, .unset, .unset, .unset, .unset, .unset, .unset, .unset] [(.int (4 : Int32)), (.int p3), (.int (1 : Int32))]
          refine own_via (fun t k => XS.iushr XJ7.here hx rfl (hb hby at_56) rfl k) ?_
          refine own_via (fun t k => XS.iconst XJ7.here hx rfl (hb hby at_57) k) ?_
          show own_H TJ7 58 #[.val (.int p0), .val (.int p1), .val (.int p2), .val (.int p3), .val (.int zj2), .val (.int zj4), .val (.int zj6), .val (.int zj8), .unset, .unset, .unset, .unset, .unset, .unset, .unset, .unset, .unset] [(.int (3 : Int32)), (.int ((p3.toUInt32 >>> ((4 : Int32) &&& 31).toUInt32).toInt32)), (.int (1 : Int32))]
          refine own_via (fun t k => XS.iand XJ7.here hx rfl (hb hby at_58) rfl k) ?_
          show own_H TJ7 59 #[.val (.int p0), .val (.int p1), .val (.int p2), .val (.int p3), .val (.int zj2), .val (.int zj4), .val (.int zj6), .val (.int zj8), .unset, .unset, .unset, .unset, .unset, .unset, .unset, .unset, .unset] [(.int (((p3.toUInt32 >>> ((4 : Int32) &&& 31).toUInt32).toInt32) &&& (3 : Int32))), (.int (1 : Int32))]
          refine own_via (fun t k => XS.iadd XJ7.here hx rfl (hb hby at_59) rfl k) ?_
          show own_H TJ7 60 #[.val (.int p0), .val (.int p1), .val (.int p2), .val (.int p3), .val (.int zj2), .val (.int zj4), .val (.int zj6), .val (.int zj8), .unset, .unset, .unset, .unset, .unset, .unset, .unset, .unset, .unset] [(.int ((1 : Int32) + (((p3.toUInt32 >>> ((4 : Int32) &&& 31).toUInt32).toInt32) &&& (3 : Int32))))]
          generalize hvg9 : ((1 : Int32) + (((p3.toUInt32 >>> ((4 : Int32) &&& 31).toUInt32).toInt32) &&& (3 : Int32))) = vg9
          show own_H TJ7 60 #[.val (.int p0), .val (.int p1), .val (.int p2), .val (.int p3), .val (.int zj2), .val (.int zj4), .val (.int zj6), .val (.int zj8), .unset, .unset, .unset, .unset, .unset, .unset, .unset, .unset, .unset] [(.int vg9)]
          refine own_via (fun t k => XS.istore XJ7.here hx rfl (hb hby at_60) rfl (l' := #[.val (.int p0), .val (.int p1), .val (.int p2), .val (.int p3), .val (.int zj2), .val (.int zj4), .val (.int zj6), .val (.int zj8), .val (.int vg9), .unset, .unset, .unset, .unset, .unset, .unset, .unset, .unset]) rfl k) ?_
          have J10 : ∀ (P : List Int32) (FB : List Int32) (nn : Int32) (z2 : Int32) (ad : Addr) (kd : ClassId) (TJ10 : State) (hJ10 : Heap) (LJ10 : List Loc) (XJ10 : Stand p l e room_1 s m #[(.int p0), (.int p1), (.int p2), (.int p3)] below meth c TJ10 LJ10 1 4) (NJ10 : Fr n0 LJ10) (eJ10 : TJ10.heap = hJ10) (ZJ10 : n0 ≤ hJ10.size) (WkJ10 : 0 ≤ hJ10.size) (fJ10_0 : Sta Z hJ10 own_cM "OVERLAPPING" "Lcom/example/skipstitch/skipstitch/Matching;" (.ref w1)) (fJ10_1 : Sta Z hJ10 own_cM "NON_OVERLAPPING" "Lcom/example/skipstitch/skipstitch/Matching;" (.ref w2)) (fJ10_2 : Exa Z hJ10 w1 own_cM) (fJ10_3 : Exa Z hJ10 w2 own_cM) (fad : Arv Z hJ10 ad kd .int nn (P.map Value.int) (.int (0 : Int32))) (fed : Exa Z hJ10 ad "[I") (hQ : own_ok P FB nn z2 ∧ vg9 = nn), own_G p e below Pw (TJ10.setTop (mkF m 159 #[.val (.int p0), .val (.int p1), .val (.int p2), .val (.int p3), .val (.int zj2), .val (.int zj4), .val (.int zj6), .val (.int zj8), .val (.int vg9), .val (.ref ad), .unset, .unset, .unset, .unset, .unset, .unset, .unset] [])) := by
            intro P FB nn z2 ad kd TJ10 hJ10 LJ10 XJ10 NJ10 eJ10 ZJ10 WkJ10 fJ10_0 fJ10_1 fJ10_2 fJ10_3 fad fed hQ
            show own_H TJ10 159 #[.val (.int p0), .val (.int p1), .val (.int p2), .val (.int p3), .val (.int zj2), .val (.int zj4), .val (.int zj6), .val (.int zj8), .val (.int vg9), .val (.ref ad), .unset, .unset, .unset, .unset, .unset, .unset, .unset] []
            refine own_via (fun t k => XS.iloadN XJ10.here hx rfl (hb hby at_159) rfl k) ?_
            refine own_via (fun t k => XS.bipush XJ10.here hx rfl (hb hby at_160) k) ?_
            show own_H TJ10 162 #[.val (.int p0), .val (.int p1), .val (.int p2), .val (.int p3), .val (.int zj2), .val (.int zj4), .val (.int zj6), .val (.int zj8), .val (.int vg9), .val (.ref ad), .unset, .unset, .unset, .unset, .unset, .unset, .unset] [(.int (6 : Int32)), (.int p3)]
            refine own_via (fun t k => XS.iushr XJ10.here hx rfl (hb hby at_162) rfl k) ?_
            refine own_via (fun t k => XS.iconst XJ10.here hx rfl (hb hby at_163) k) ?_
            show own_H TJ10 164 #[.val (.int p0), .val (.int p1), .val (.int p2), .val (.int p3), .val (.int zj2), .val (.int zj4), .val (.int zj6), .val (.int zj8), .val (.int vg9), .val (.ref ad), .unset, .unset, .unset, .unset, .unset, .unset, .unset] [(.int (3 : Int32)), (.int ((p3.toUInt32 >>> ((6 : Int32) &&& 31).toUInt32).toInt32))]
            refine own_via (fun t k => XS.iand XJ10.here hx rfl (hb hby at_164) rfl k) ?_
            refine own_via (fun t k => XS.iload XJ10.here hx rfl (hb hby at_165) rfl k) ?_
            show own_H TJ10 167 #[.val (.int p0), .val (.int p1), .val (.int p2), .val (.int p3), .val (.int zj2), .val (.int zj4), .val (.int zj6), .val (.int zj8), .val (.int vg9), .val (.ref ad), .unset, .unset, .unset, .unset, .unset, .unset, .unset] [(.int vg9), (.int (((p3.toUInt32 >>> ((6 : Int32) &&& 31).toUInt32).toInt32) &&& (3 : Int32)))]
            refine own_via (fun t k => XS.irem XJ10.here hx rfl (hb hby at_167) rfl (own_nz (own_n hvg9)) k) ?_
            show own_H TJ10 168 #[.val (.int p0), .val (.int p1), .val (.int p2), .val (.int p3), .val (.int zj2), .val (.int zj4), .val (.int zj6), .val (.int zj8), .val (.int vg9), .val (.ref ad), .unset, .unset, .unset, .unset, .unset, .unset, .unset] [(.int ((((p3.toUInt32 >>> ((6 : Int32) &&& 31).toUInt32).toInt32) &&& (3 : Int32)) - ((((p3.toUInt32 >>> ((6 : Int32) &&& 31).toUInt32).toInt32) &&& (3 : Int32)) / vg9) * vg9))]
            generalize hvg11 : ((((p3.toUInt32 >>> ((6 : Int32) &&& 31).toUInt32).toInt32) &&& (3 : Int32)) - ((((p3.toUInt32 >>> ((6 : Int32) &&& 31).toUInt32).toInt32) &&& (3 : Int32)) / vg9) * vg9) = vg11
            show own_H TJ10 168 #[.val (.int p0), .val (.int p1), .val (.int p2), .val (.int p3), .val (.int zj2), .val (.int zj4), .val (.int zj6), .val (.int zj8), .val (.int vg9), .val (.ref ad), .unset, .unset, .unset, .unset, .unset, .unset, .unset] [(.int vg11)]
            refine own_via (fun t k => XS.istore XJ10.here hx rfl (hb hby at_168) rfl (l' := #[.val (.int p0), .val (.int p1), .val (.int p2), .val (.int p3), .val (.int zj2), .val (.int zj4), .val (.int zj6), .val (.int zj8), .val (.int vg9), .val (.ref ad), .val (.int vg11), .unset, .unset, .unset, .unset, .unset, .unset]) rfl k) ?_
            have hm : own_pl nn vg11 := own_mr (own_n hvg9) hQ.2 hvg11
            refine own_via (fun t k => XS.iloadN XJ10.here hx rfl (hb hby at_170) rfl k) ?_
            refine own_via (fun t k => XS.bipush XJ10.here hx rfl (hb hby at_171) k) ?_
            show own_H TJ10 173 #[.val (.int p0), .val (.int p1), .val (.int p2), .val (.int p3), .val (.int zj2), .val (.int zj4), .val (.int zj6), .val (.int zj8), .val (.int vg9), .val (.ref ad), .val (.int vg11), .unset, .unset, .unset, .unset, .unset, .unset] [(.int (8 : Int32)), (.int p3)]
            refine own_via (fun t k => XS.iushr XJ10.here hx rfl (hb hby at_173) rfl k) ?_
            refine own_via (fun t k => XS.iconst XJ10.here hx rfl (hb hby at_174) k) ?_
            show own_H TJ10 175 #[.val (.int p0), .val (.int p1), .val (.int p2), .val (.int p3), .val (.int zj2), .val (.int zj4), .val (.int zj6), .val (.int zj8), .val (.int vg9), .val (.ref ad), .val (.int vg11), .unset, .unset, .unset, .unset, .unset, .unset] [(.int (3 : Int32)), (.int ((p3.toUInt32 >>> ((8 : Int32) &&& 31).toUInt32).toInt32))]
            refine own_via (fun t k => XS.iand XJ10.here hx rfl (hb hby at_175) rfl k) ?_
            show own_H TJ10 176 #[.val (.int p0), .val (.int p1), .val (.int p2), .val (.int p3), .val (.int zj2), .val (.int zj4), .val (.int zj6), .val (.int zj8), .val (.int vg9), .val (.ref ad), .val (.int vg11), .unset, .unset, .unset, .unset, .unset, .unset] [(.int (((p3.toUInt32 >>> ((8 : Int32) &&& 31).toUInt32).toInt32) &&& (3 : Int32)))]
            generalize hvg12 : (((p3.toUInt32 >>> ((8 : Int32) &&& 31).toUInt32).toInt32) &&& (3 : Int32)) = vg12
            show own_H TJ10 176 #[.val (.int p0), .val (.int p1), .val (.int p2), .val (.int p3), .val (.int zj2), .val (.int zj4), .val (.int zj6), .val (.int zj8), .val (.int vg9), .val (.ref ad), .val (.int vg11), .unset, .unset, .unset, .unset, .unset, .unset] [(.int vg12)]
            refine own_via (fun t k => XS.istore XJ10.here hx rfl (hb hby at_176) rfl (l' := #[.val (.int p0), .val (.int p1), .val (.int p2), .val (.int p3), .val (.int zj2), .val (.int zj4), .val (.int zj6), .val (.int zj8), .val (.int vg9), .val (.ref ad), .val (.int vg11), .val (.int vg12), .unset, .unset, .unset, .unset, .unset]) rfl k) ?_
            refine own_via (fun t k => XS.iload XJ10.here hx rfl (hb hby at_178) rfl k) ?_
            show own_H TJ10 180 #[.val (.int p0), .val (.int p1), .val (.int p2), .val (.int p3), .val (.int zj2), .val (.int zj4), .val (.int zj6), .val (.int zj8), .val (.int vg9), .val (.ref ad), .val (.int vg11), .val (.int vg12), .unset, .unset, .unset, .unset, .unset] [(.int vg12)]
            have J13 : ∀ (TJ13 : State) (XJ13 : Stand p l e room_1 s m #[(.int p0), (.int p1), (.int p2), (.int p3)] below meth c TJ13 LJ10 1 4) (EJ13 : TJ13.heap = hJ10) (zj14 : Int32), zj14 = (if vg12 = (0 : Int32) then p0 else (if vg12 = (1 : Int32) then p1 else p2)) → own_G p e below Pw (TJ13.setTop (mkF m 198 #[.val (.int p0), .val (.int p1), .val (.int p2), .val (.int p3), .val (.int zj2), .val (.int zj4), .val (.int zj6), .val (.int zj8), .val (.int vg9), .val (.ref ad), .val (.int vg11), .val (.int vg12), .unset, .unset, .unset, .unset, .unset] [(.int zj14)])) := by
              intro TJ13 XJ13 EJ13 zj14 hzj14
              refine own_via (fun t k => XS.istore XJ13.here hx rfl (hb hby at_198) rfl (l' := #[.val (.int p0), .val (.int p1), .val (.int p2), .val (.int p3), .val (.int zj2), .val (.int zj4), .val (.int zj6), .val (.int zj8), .val (.int vg9), .val (.ref ad), .val (.int vg11), .val (.int vg12), .val (.int zj14), .unset, .unset, .unset, .unset]) rfl k) ?_
              refine own_via (fun t k => XS.iloadN XJ13.here hx rfl (hb hby at_200) rfl k) ?_
              refine own_via (fun t k => XS.bipush XJ13.here hx rfl (hb hby at_201) k) ?_
              show own_H TJ13 203 #[.val (.int p0), .val (.int p1), .val (.int p2), .val (.int p3), .val (.int zj2), .val (.int zj4), .val (.int zj6), .val (.int zj8), .val (.int vg9), .val (.ref ad), .val (.int vg11), .val (.int vg12), .val (.int zj14), .unset, .unset, .unset, .unset] [(.int (10 : Int32)), (.int p3)]
              refine own_via (fun t k => XS.iushr XJ13.here hx rfl (hb hby at_203) rfl k) ?_
              refine own_via (fun t k => XS.iconst XJ13.here hx rfl (hb hby at_204) k) ?_
              show own_H TJ13 205 #[.val (.int p0), .val (.int p1), .val (.int p2), .val (.int p3), .val (.int zj2), .val (.int zj4), .val (.int zj6), .val (.int zj8), .val (.int vg9), .val (.ref ad), .val (.int vg11), .val (.int vg12), .val (.int zj14), .unset, .unset, .unset, .unset] [(.int (1 : Int32)), (.int ((p3.toUInt32 >>> ((10 : Int32) &&& 31).toUInt32).toInt32))]
              refine own_via (fun t k => XS.iand XJ13.here hx rfl (hb hby at_205) rfl k) ?_
              show own_H TJ13 206 #[.val (.int p0), .val (.int p1), .val (.int p2), .val (.int p3), .val (.int zj2), .val (.int zj4), .val (.int zj6), .val (.int zj8), .val (.int vg9), .val (.ref ad), .val (.int vg11), .val (.int vg12), .val (.int zj14), .unset, .unset, .unset, .unset] [(.int (((p3.toUInt32 >>> ((10 : Int32) &&& 31).toUInt32).toInt32) &&& (1 : Int32)))]
              have J15 : ∀ (TJ15 : State) (XJ15 : Stand p l e room_1 s m #[(.int p0), (.int p1), (.int p2), (.int p3)] below meth c TJ15 LJ10 1 4) (EJ15 : TJ15.heap = hJ10) (zj16 : Addr), zj16 = (if (((p3.toUInt32 >>> ((10 : Int32) &&& 31).toUInt32).toInt32) &&& (1 : Int32)) = (0 : Int32) then w1 else w2) → own_G p e below Pw (TJ15.setTop (mkF m 218 #[.val (.int p0), .val (.int p1), .val (.int p2), .val (.int p3), .val (.int zj2), .val (.int zj4), .val (.int zj6), .val (.int zj8), .val (.int vg9), .val (.ref ad), .val (.int vg11), .val (.int vg12), .val (.int zj14), .unset, .unset, .unset, .unset] [(.ref zj16)])) := by
                intro TJ15 XJ15 EJ15 zj16 hzj16
                have f17 : Exa Z hJ10 zj16 own_cM := by rw [hzj16]; split; exact fJ10_2; exact fJ10_3
                refine own_via (fun t k => XS.astore XJ15.here hx rfl (hb hby at_218) rfl rfl (l' := #[.val (.int p0), .val (.int p1), .val (.int p2), .val (.int p3), .val (.int zj2), .val (.int zj4), .val (.int zj6), .val (.int zj8), .val (.int vg9), .val (.ref ad), .val (.int vg11), .val (.int vg12), .val (.int zj14), .val (.ref zj16), .unset, .unset, .unset]) rfl k) ?_
                show own_H TJ15 220 #[.val (.int p0), .val (.int p1), .val (.int p2), .val (.int p3), .val (.int zj2), .val (.int zj4), .val (.int zj6), .val (.int zj8), .val (.int vg9), .val (.ref ad), .val (.int vg11), .val (.int vg12), .val (.int zj14), .val (.ref zj16), .unset, .unset, .unset] []
                obtain ⟨T18, h18, b18, X18, e18, E18, ga18, A18, D18, st18⟩ := own_newO XJ15 hx hZ hown (own_u hw 4 rfl) (own_u hw 5 rfl) (own_u hw 6 rfl) EJ15 (pc := 220) (Ls := #[.val (.int p0), .val (.int p1), .val (.int p2), .val (.int p3), .val (.int zj2), .val (.int zj4), .val (.int zj6), .val (.int zj8), .val (.int vg9), .val (.ref ad), .val (.int vg11), .val (.int vg12), .val (.int zj14), .val (.ref zj16), .unset, .unset, .unset]) (rest := []) (hb hby at_220) (by decide) (by decide)
                refine own_via st18 ?_
                have ne21 : ad ≠ b18 := Nat.ne_of_lt (Nat.lt_of_lt_of_le fad.lt (Nat.le_of_eq ga18.symm))
                have f27 := fad.ext E18
                have f28 := fed.ext E18
                have f29 := f17.ext E18
                have f30 : Fld Z h18 b18 own_cK "fallbacks" "[I" .null := D18 (Or.inr (own_u hw 33 rfl)) (ty := (.array .int)) (by decide)
                have f31 : Fld Z h18 b18 own_cK "grams" own_dG .null := D18 (Or.inr (own_u hw 43 rfl)) (ty := (.object "com/example/skipstitch/skipstitch/GramTable")) (by decide)
                have f32 : Fld Z h18 b18 own_cK "key" "I" (.int (0 : Int32)) := D18 (Or.inr (own_u hw 48 rfl)) (ty := .int) (by decide)
                have f33 : Fld Z h18 b18 own_cK "firstOfEachLowByte" "[I" .null := D18 (Or.inr (own_u hw 63 rfl)) (ty := (.array .int)) (by decide)
                have f34 : Fld Z h18 b18 own_cK "units" "[I" .null := D18 (Or.inr (own_u hw 74 rfl)) (ty := (.array .int)) (by decide)
                have f35 : Fld Z h18 b18 own_cK "matching" own_dM .null := D18 (Or.inr (own_u hw 80 rfl)) (ty := (.object "com/example/skipstitch/skipstitch/Matching")) (by decide)
                have g_b18 : n0 ≤ b18 := Nat.le_trans ZJ10 (Nat.le_of_eq ga18.symm)
                have Wk36 : 0 ≤ h18.size := Nat.le_trans WkJ10 E18.1
                have Zs37 : n0 ≤ h18.size := Nat.le_trans ZJ10 E18.1
                show own_H T18 223 #[.val (.int p0), .val (.int p1), .val (.int p2), .val (.int p3), .val (.int zj2), .val (.int zj4), .val (.int zj6), .val (.int zj8), .val (.int vg9), .val (.ref ad), .val (.int vg11), .val (.int vg12), .val (.int zj14), .val (.ref zj16), .unset, .unset, .unset] [(.ref b18)]
                clear fJ10_0 fJ10_1 fJ10_2 fJ10_3 fad fed f17 ZJ10 WkJ10
                refine own_via (fun t k => XS.dup X18.here hx rfl (hb hby at_223) rfl rfl k) ?_
                refine own_via (fun t k => XS.aload X18.here hx rfl (hb hby at_224) rfl rfl k) ?_
                refine own_via (fun t k => XS.aload X18.here hx rfl (hb hby at_226) rfl rfl k) ?_
                show own_H T18 228 #[.val (.int p0), .val (.int p1), .val (.int p2), .val (.int p3), .val (.int zj2), .val (.int zj4), .val (.int zj6), .val (.int zj8), .val (.int vg9), .val (.ref ad), .val (.int vg11), .val (.int vg12), .val (.int zj14), .val (.ref zj16), .unset, .unset, .unset] [(.ref zj16), (.ref ad), (.ref b18), (.ref b18)]
                obtain ⟨v38, T38, h38, L38, s, kw38, X38, N38, e38, hq38, S38, Wk38, hZ, hown, st38⟩ := own_callIX (y := (⟨"com/example/skipstitch/skipstitch/KmpPattern", "<init>", "([ILcom/example/skipstitch/skipstitch/Matching;)V"⟩ : MethodName)) (W := 1) (a := b18) S0 Wk36 X18 NJ10 hx hZ rfl hown (own_u hw 7 rfl) (own_u hw 8 rfl) (own_u hw 6 rfl) (own_u hw 9 rfl) (by decide) (own_it l Z a0 hw [] b18 ad zj16 kd P FB nn z2 h18 n0 Zs37 A18 f30 f31 f32 f33 f34 f35 f27 f28 f29 g_b18 (Ne.symm ne21) hQ.1) (by decide) (by decide) (by decide) (by decide) e18 (pc := 228) (Ls := #[.val (.int p0), .val (.int p1), .val (.int p2), .val (.int p3), .val (.int zj2), .val (.int zj4), .val (.int zj6), .val (.int zj8), .val (.int vg9), .val (.ref ad), .val (.int vg11), .val (.int vg12), .val (.int zj14), .val (.ref zj16), .unset, .unset, .unset]) (st := [(.ref zj16), (.ref ad), (.ref b18), (.ref b18)]) (argsL := [(.ref ad), (.ref zj16)]) (rest := [(.ref b18)]) (by rw [hml]; rfl) (lenOf own_pd7 rfl) rfl rfl (Nat.le_of_eq rfl) (hb hby at_228)
                obtain ⟨x38, y38, kx38, ky38, rfl, K38, zf_x38, zf_y38, o38_0, o38_1, o38_2, o38_3, o38_4⟩ := hq38
                refine own_via st38 ?_
                have f53 := f27.keep K38 (by simp only [List.mem_cons, List.not_mem_nil, or_false, not_or]; exact ne21)
                show own_H T38 231 #[.val (.int p0), .val (.int p1), .val (.int p2), .val (.int p3), .val (.int zj2), .val (.int zj4), .val (.int zj6), .val (.int zj8), .val (.int vg9), .val (.ref ad), .val (.int vg11), .val (.int vg12), .val (.int zj14), .val (.ref zj16), .unset, .unset, .unset] [(.ref b18)]
                clear f27 f28 f29 A18 f30 f31 f32 f33 f34 f35
                refine own_via (fun t k => XS.astore X38.here hx rfl (hb hby at_231) rfl rfl (l' := #[.val (.int p0), .val (.int p1), .val (.int p2), .val (.int p3), .val (.int zj2), .val (.int zj4), .val (.int zj6), .val (.int zj8), .val (.int vg9), .val (.ref ad), .val (.int vg11), .val (.int vg12), .val (.int zj14), .val (.ref zj16), .val (.ref b18), .unset, .unset]) rfl k) ?_
                refine own_via (fun t k => XS.aload X38.here hx rfl (hb hby at_233) rfl rfl k) ?_
                refine own_via (fun t k => XS.iload X38.here hx rfl (hb hby at_235) rfl k) ?_
                refine own_via (fun t k => XS.iload X38.here hx rfl (hb hby at_237) rfl k) ?_
                show own_H T38 239 #[.val (.int p0), .val (.int p1), .val (.int p2), .val (.int p3), .val (.int zj2), .val (.int zj4), .val (.int zj6), .val (.int zj8), .val (.int vg9), .val (.ref ad), .val (.int vg11), .val (.int vg12), .val (.int zj14), .val (.ref zj16), .val (.ref b18), .unset, .unset] [(.int zj14), (.int vg11), (.ref b18)]
                obtain ⟨T58, X58, e58, st58⟩ := own_callVP (y := (⟨"com/example/skipstitch/skipstitch/KmpPattern", "step", "(II)I"⟩ : MethodName)) (z := (⟨"com/example/skipstitch/skipstitch/KmpPattern", "step", "(II)I"⟩ : MethodName)) (W := 0) (a := b18) X38 hx hZ hown (own_u hw 81 rfl) (own_u hw 82 rfl) (notFace_of_selects (args := #[]) (mvT hZ (own_u hw 84 rfl))) (own_u hw 84 rfl) (own_u hw 83 rfl) (own_u hw 6 rfl) (own_u hw 85 rfl) (by decide) (own_sp l Z a0 hw [] b18 vg11 zj14 x38 y38 kx38 ky38 nn z2 P FB h38 o38_1 o38_2 o38_3 o38_4 (own_okS hQ.1 hm)) (by decide) (by decide) rfl rfl (by decide) (by decide) e38 o38_0 (pc := 239) (Ls := #[.val (.int p0), .val (.int p1), .val (.int p2), .val (.int p3), .val (.int zj2), .val (.int zj4), .val (.int zj6), .val (.int zj8), .val (.int vg9), .val (.ref ad), .val (.int vg11), .val (.int vg12), .val (.int zj14), .val (.ref zj16), .val (.ref b18), .unset, .unset]) (st := [(.int zj14), (.int vg11), (.ref b18)]) (argsL := [(.int vg11), (.int zj14)]) (rest := []) (by rw [hml]; rfl) (lenOf own_pd2 rfl) rfl rfl (Nat.le_of_eq rfl) (hb hby at_239)
                refine own_via st58 ?_
                show own_H T58 242 #[.val (.int p0), .val (.int p1), .val (.int p2), .val (.int p3), .val (.int zj2), .val (.int zj4), .val (.int zj6), .val (.int zj8), .val (.int vg9), .val (.ref ad), .val (.int vg11), .val (.int vg12), .val (.int zj14), .val (.ref zj16), .val (.ref b18), .unset, .unset] [(.int (own_st P FB zj14 3 vg11))]
                generalize hvg59 : (own_st P FB zj14 3 vg11) = vg59
                show own_H T58 242 #[.val (.int p0), .val (.int p1), .val (.int p2), .val (.int p3), .val (.int zj2), .val (.int zj4), .val (.int zj6), .val (.int zj8), .val (.int vg9), .val (.ref ad), .val (.int vg11), .val (.int vg12), .val (.int zj14), .val (.ref zj16), .val (.ref b18), .unset, .unset] [(.int vg59)]
                refine own_via (fun t k => XS.istore X58.here hx rfl (hb hby at_242) rfl (l' := #[.val (.int p0), .val (.int p1), .val (.int p2), .val (.int p3), .val (.int zj2), .val (.int zj4), .val (.int zj6), .val (.int zj8), .val (.int vg9), .val (.ref ad), .val (.int vg11), .val (.int vg12), .val (.int zj14), .val (.ref zj16), .val (.ref b18), .val (.int vg59), .unset]) rfl k) ?_
                refine own_via (fun t k => XS.iconst X58.here hx rfl (hb hby at_244) k) ?_
                show own_H T58 245 #[.val (.int p0), .val (.int p1), .val (.int p2), .val (.int p3), .val (.int zj2), .val (.int zj4), .val (.int zj6), .val (.int zj8), .val (.int vg9), .val (.ref ad), .val (.int vg11), .val (.int vg12), .val (.int zj14), .val (.ref zj16), .val (.ref b18), .val (.int vg59), .unset] [(.int (0 : Int32))]
                refine own_via (fun t k => XS.istore X58.here hx rfl (hb hby at_245) rfl (l' := #[.val (.int p0), .val (.int p1), .val (.int p2), .val (.int p3), .val (.int zj2), .val (.int zj4), .val (.int zj6), .val (.int zj8), .val (.int vg9), .val (.ref ad), .val (.int vg11), .val (.int vg12), .val (.int zj14), .val (.ref zj16), .val (.ref b18), .val (.int vg59), .val (.int (0 : Int32))]) rfl k) ?_
                refine own_via (fun t k => XS.iload X58.here hx rfl (hb hby at_247) rfl k) ?_
                refine own_via (fun t k => XS.iconst X58.here hx rfl (hb hby at_249) k) ?_
                show own_H T58 250 #[.val (.int p0), .val (.int p1), .val (.int p2), .val (.int p3), .val (.int zj2), .val (.int zj4), .val (.int zj6), .val (.int zj8), .val (.int vg9), .val (.ref ad), .val (.int vg11), .val (.int vg12), .val (.int zj14), .val (.ref zj16), .val (.ref b18), .val (.int vg59), .val (.int (0 : Int32))] [(.int (1 : Int32)), (.int vg11)]
                refine own_via (fun t k => XS.iadd X58.here hx rfl (hb hby at_250) rfl k) ?_
                refine own_via (fun t k => XS.iconst X58.here hx rfl (hb hby at_251) k) ?_
                show own_H T58 252 #[.val (.int p0), .val (.int p1), .val (.int p2), .val (.int p3), .val (.int zj2), .val (.int zj4), .val (.int zj6), .val (.int zj8), .val (.int vg9), .val (.ref ad), .val (.int vg11), .val (.int vg12), .val (.int zj14), .val (.ref zj16), .val (.ref b18), .val (.int vg59), .val (.int (0 : Int32))] [(.int (1 : Int32)), (.int (vg11 + (1 : Int32)))]
                have J60 : ∀ (TJ60 : State) (XJ60 : Stand p l e room_1 s m #[(.int p0), (.int p1), (.int p2), (.int p3)] below meth c TJ60 L38 16 810) (EJ60 : TJ60.heap = h38) (zj61 : Int32), zj61 = (if (vg11 + (1 : Int32)) < (1 : Int32) then (0 : Int32) else (if (own_Fb1 P vg11 zj14) = (0 : Int32) then (0 : Int32) else (1 : Int32))) → own_G p e below Pw (TJ60.setTop (mkF m 271 #[.val (.int p0), .val (.int p1), .val (.int p2), .val (.int p3), .val (.int zj2), .val (.int zj4), .val (.int zj6), .val (.int zj8), .val (.int vg9), .val (.ref ad), .val (.int vg11), .val (.int vg12), .val (.int zj14), .val (.ref zj16), .val (.ref b18), .val (.int vg59), .val (.int zj61)] [])) := by
                  intro TJ60 XJ60 EJ60 zj61 hzj61
                  refine own_via (fun t k => XS.iload XJ60.here hx rfl (hb hby at_271) rfl k) ?_
                  refine own_via (fun t k => XS.iconst XJ60.here hx rfl (hb hby at_273) k) ?_
                  show own_H TJ60 274 #[.val (.int p0), .val (.int p1), .val (.int p2), .val (.int p3), .val (.int zj2), .val (.int zj4), .val (.int zj6), .val (.int zj8), .val (.int vg9), .val (.ref ad), .val (.int vg11), .val (.int vg12), .val (.int zj14), .val (.ref zj16), .val (.ref b18), .val (.int vg59), .val (.int zj61)] [(.int (1 : Int32)), (.int vg11)]
                  refine own_via (fun t k => XS.iadd XJ60.here hx rfl (hb hby at_274) rfl k) ?_
                  refine own_via (fun t k => XS.iconst XJ60.here hx rfl (hb hby at_275) k) ?_
                  show own_H TJ60 276 #[.val (.int p0), .val (.int p1), .val (.int p2), .val (.int p3), .val (.int zj2), .val (.int zj4), .val (.int zj6), .val (.int zj8), .val (.int vg9), .val (.ref ad), .val (.int vg11), .val (.int vg12), .val (.int zj14), .val (.ref zj16), .val (.ref b18), .val (.int vg59), .val (.int zj61)] [(.int (2 : Int32)), (.int (vg11 + (1 : Int32)))]
                  have J62 : ∀ (TJ62 : State) (XJ62 : Stand p l e room_1 s m #[(.int p0), (.int p1), (.int p2), (.int p3)] below meth c TJ62 L38 16 810) (EJ62 : TJ62.heap = h38) (zj63 : Int32), zj63 = (if (vg11 + (1 : Int32)) < (2 : Int32) then zj61 else (if (own_Fb2 P vg11 zj14) = (0 : Int32) then zj61 else (2 : Int32))) → own_G p e below Pw (TJ62.setTop (mkF m 295 #[.val (.int p0), .val (.int p1), .val (.int p2), .val (.int p3), .val (.int zj2), .val (.int zj4), .val (.int zj6), .val (.int zj8), .val (.int vg9), .val (.ref ad), .val (.int vg11), .val (.int vg12), .val (.int zj14), .val (.ref zj16), .val (.ref b18), .val (.int vg59), .val (.int zj63)] [])) := by
                    intro TJ62 XJ62 EJ62 zj63 hzj63
                    refine own_via (fun t k => XS.iload XJ62.here hx rfl (hb hby at_295) rfl k) ?_
                    refine own_via (fun t k => XS.iconst XJ62.here hx rfl (hb hby at_297) k) ?_
                    show own_H TJ62 298 #[.val (.int p0), .val (.int p1), .val (.int p2), .val (.int p3), .val (.int zj2), .val (.int zj4), .val (.int zj6), .val (.int zj8), .val (.int vg9), .val (.ref ad), .val (.int vg11), .val (.int vg12), .val (.int zj14), .val (.ref zj16), .val (.ref b18), .val (.int vg59), .val (.int zj63)] [(.int (1 : Int32)), (.int vg11)]
                    refine own_via (fun t k => XS.iadd XJ62.here hx rfl (hb hby at_298) rfl k) ?_
                    refine own_via (fun t k => XS.iconst XJ62.here hx rfl (hb hby at_299) k) ?_
                    show own_H TJ62 300 #[.val (.int p0), .val (.int p1), .val (.int p2), .val (.int p3), .val (.int zj2), .val (.int zj4), .val (.int zj6), .val (.int zj8), .val (.int vg9), .val (.ref ad), .val (.int vg11), .val (.int vg12), .val (.int zj14), .val (.ref zj16), .val (.ref b18), .val (.int vg59), .val (.int zj63)] [(.int (3 : Int32)), (.int (vg11 + (1 : Int32)))]
                    have J64 : ∀ (TJ64 : State) (XJ64 : Stand p l e room_1 s m #[(.int p0), (.int p1), (.int p2), (.int p3)] below meth c TJ64 L38 16 810) (EJ64 : TJ64.heap = h38) (zj65 : Int32), zj65 = (if (vg11 + (1 : Int32)) < (3 : Int32) then zj63 else (if (own_Fb3 P vg11 zj14) = (0 : Int32) then zj63 else (3 : Int32))) → own_G p e below Pw (TJ64.setTop (mkF m 319 #[.val (.int p0), .val (.int p1), .val (.int p2), .val (.int p3), .val (.int zj2), .val (.int zj4), .val (.int zj6), .val (.int zj8), .val (.int vg9), .val (.ref ad), .val (.int vg11), .val (.int vg12), .val (.int zj14), .val (.ref zj16), .val (.ref b18), .val (.int vg59), .val (.int zj65)] [])) := by
                      intro TJ64 XJ64 EJ64 zj65 hzj65
                      refine own_via (fun t k => XS.iload XJ64.here hx rfl (hb hby at_319) rfl k) ?_
                      refine own_via (fun t k => XS.iconst XJ64.here hx rfl (hb hby at_321) k) ?_
                      show own_H TJ64 322 #[.val (.int p0), .val (.int p1), .val (.int p2), .val (.int p3), .val (.int zj2), .val (.int zj4), .val (.int zj6), .val (.int zj8), .val (.int vg9), .val (.ref ad), .val (.int vg11), .val (.int vg12), .val (.int zj14), .val (.ref zj16), .val (.ref b18), .val (.int vg59), .val (.int zj65)] [(.int (1 : Int32)), (.int vg11)]
                      refine own_via (fun t k => XS.iadd XJ64.here hx rfl (hb hby at_322) rfl k) ?_
                      refine own_via (fun t k => XS.iconst XJ64.here hx rfl (hb hby at_323) k) ?_
                      show own_H TJ64 324 #[.val (.int p0), .val (.int p1), .val (.int p2), .val (.int p3), .val (.int zj2), .val (.int zj4), .val (.int zj6), .val (.int zj8), .val (.int vg9), .val (.ref ad), .val (.int vg11), .val (.int vg12), .val (.int zj14), .val (.ref zj16), .val (.ref b18), .val (.int vg59), .val (.int zj65)] [(.int (4 : Int32)), (.int (vg11 + (1 : Int32)))]
                      have J66 : ∀ (TJ66 : State) (XJ66 : Stand p l e room_1 s m #[(.int p0), (.int p1), (.int p2), (.int p3)] below meth c TJ66 L38 16 810) (EJ66 : TJ66.heap = h38) (zj67 : Int32), zj67 = (if (vg11 + (1 : Int32)) < (4 : Int32) then zj65 else (if (own_Fb4 P vg11 zj14) = (0 : Int32) then zj65 else (4 : Int32))) → own_G p e below Pw (TJ66.setTop (mkF m 343 #[.val (.int p0), .val (.int p1), .val (.int p2), .val (.int p3), .val (.int zj2), .val (.int zj4), .val (.int zj6), .val (.int zj8), .val (.int vg9), .val (.ref ad), .val (.int vg11), .val (.int vg12), .val (.int zj14), .val (.ref zj16), .val (.ref b18), .val (.int vg59), .val (.int zj67)] [])) := by
                        intro TJ66 XJ66 EJ66 zj67 hzj67
                        refine own_via (fun t k => XS.iload XJ66.here hx rfl (hb hby at_343) rfl k) ?_
                        refine own_via (fun t k => XS.iload XJ66.here hx rfl (hb hby at_345) rfl k) ?_
                        show own_H TJ66 347 #[.val (.int p0), .val (.int p1), .val (.int p2), .val (.int p3), .val (.int zj2), .val (.int zj4), .val (.int zj6), .val (.int zj8), .val (.int vg9), .val (.ref ad), .val (.int vg11), .val (.int vg12), .val (.int zj14), .val (.ref zj16), .val (.ref b18), .val (.int vg59), .val (.int zj67)] [(.int zj67), (.int vg59)]
                        by_cases hc68 : vg59 = zj67
                        ·
                          refine own_via (fun t k => XS.icmpNo XJ66.here hx rfl (hb hby at_347) rfl (teq hc68).2 k) ?_
                          show own_H TJ66 350 #[.val (.int p0), .val (.int p1), .val (.int p2), .val (.int p3), .val (.int zj2), .val (.int zj4), .val (.int zj6), .val (.int zj8), .val (.int vg9), .val (.ref ad), .val (.int vg11), .val (.int vg12), .val (.int zj14), .val (.ref zj16), .val (.ref b18), .val (.int vg59), .val (.int zj67)] []
                          refine own_via (fun t k => XS.iconst XJ66.here hx rfl (hb hby at_350) k) ?_
                          show own_H TJ66 351 #[.val (.int p0), .val (.int p1), .val (.int p2), .val (.int p3), .val (.int zj2), .val (.int zj4), .val (.int zj6), .val (.int zj8), .val (.int vg9), .val (.ref ad), .val (.int vg11), .val (.int vg12), .val (.int zj14), .val (.ref zj16), .val (.ref b18), .val (.int vg59), .val (.int zj67)] [(.int (1 : Int32))]
                          refine own_via (fun t k => XS.goto XJ66.here hx rfl (pc0 := 351) (pc' := 355) rfl (hb hby at_351) (by decide) (by decide) k) ?_
                          show own_H TJ66 355 #[.val (.int p0), .val (.int p1), .val (.int p2), .val (.int p3), .val (.int zj2), .val (.int zj4), .val (.int zj6), .val (.int zj8), .val (.int vg9), .val (.ref ad), .val (.int vg11), .val (.int vg12), .val (.int zj14), .val (.ref zj16), .val (.ref b18), .val (.int vg59), .val (.int zj67)] [(.int (1 : Int32))]
                          rw [hPw]
                          refine own_wide S38 ?_
                          exact own_retN (t := .boolean) XJ66 hx Bd.returns (by simp) Bd.notSynchronized (hb hby at_355) (by rw [EJ66]; exact ⟨⟨N38, rfl⟩, Wk38⟩) (by decide) (by decide)
                        ·
                          refine own_via (fun t k => XS.icmpYes XJ66.here hx rfl (pc0 := 347) (pc' := 354) rfl (hb hby at_347) rfl (feq hc68).2 (by decide) (by decide) k) ?_
                          show own_H TJ66 354 #[.val (.int p0), .val (.int p1), .val (.int p2), .val (.int p3), .val (.int zj2), .val (.int zj4), .val (.int zj6), .val (.int zj8), .val (.int vg9), .val (.ref ad), .val (.int vg11), .val (.int vg12), .val (.int zj14), .val (.ref zj16), .val (.ref b18), .val (.int vg59), .val (.int zj67)] []
                          refine own_via (fun t k => XS.iconst XJ66.here hx rfl (hb hby at_354) k) ?_
                          show own_H TJ66 355 #[.val (.int p0), .val (.int p1), .val (.int p2), .val (.int p3), .val (.int zj2), .val (.int zj4), .val (.int zj6), .val (.int zj8), .val (.int vg9), .val (.ref ad), .val (.int vg11), .val (.int vg12), .val (.int zj14), .val (.ref zj16), .val (.ref b18), .val (.int vg59), .val (.int zj67)] [(.int (0 : Int32))]
                          rw [hPw]
                          refine own_wide S38 ?_
                          exact own_retN (t := .boolean) XJ66 hx Bd.returns (by simp) Bd.notSynchronized (hb hby at_355) (by rw [EJ66]; exact ⟨⟨N38, (by exfalso; subst hzj67; subst hzj65; subst hzj63; subst hzj61; subst hvg59; subst hzj16; subst hzj14; subst hvg12; subst hvg11; subst hvg9; subst hzj8; subst hzj6; subst hzj4; subst hzj2; exact hc68 (own_law hQ.1 hm _))⟩, Wk38⟩) (by decide) (by decide)
                      by_cases hc69 : (vg11 + (1 : Int32)) < (4 : Int32)
                      ·
                        refine own_via (fun t k => XS.icmpYes XJ64.here hx rfl (pc0 := 324) (pc' := 343) rfl (hb hby at_324) rfl (tlt hc69).1 (by decide) (by decide) k) ?_
                        show own_H TJ64 343 #[.val (.int p0), .val (.int p1), .val (.int p2), .val (.int p3), .val (.int zj2), .val (.int zj4), .val (.int zj6), .val (.int zj8), .val (.int vg9), .val (.ref ad), .val (.int vg11), .val (.int vg12), .val (.int zj14), .val (.ref zj16), .val (.ref b18), .val (.int vg59), .val (.int zj65)] []
                        exact J66 _ XJ64 EJ64 _ (by simp only [if_pos hc69])
                      ·
                        refine own_via (fun t k => XS.icmpNo XJ64.here hx rfl (hb hby at_324) rfl (flt hc69).1 k) ?_
                        show own_H TJ64 327 #[.val (.int p0), .val (.int p1), .val (.int p2), .val (.int p3), .val (.int zj2), .val (.int zj4), .val (.int zj6), .val (.int zj8), .val (.int vg9), .val (.ref ad), .val (.int vg11), .val (.int vg12), .val (.int zj14), .val (.ref zj16), .val (.ref b18), .val (.int vg59), .val (.int zj65)] []
                        refine own_via (fun t k => XS.aload XJ64.here hx rfl (hb hby at_327) rfl rfl k) ?_
                        show own_H TJ64 329 #[.val (.int p0), .val (.int p1), .val (.int p2), .val (.int p3), .val (.int zj2), .val (.int zj4), .val (.int zj6), .val (.int zj8), .val (.int vg9), .val (.ref ad), .val (.int vg11), .val (.int vg12), .val (.int zj14), .val (.ref zj16), .val (.ref b18), .val (.int vg59), .val (.int zj65)] [(.ref ad)]
                        refine own_via (fun t k => XS.iload XJ64.here hx rfl (hb hby at_329) rfl k) ?_
                        show own_H TJ64 331 #[.val (.int p0), .val (.int p1), .val (.int p2), .val (.int p3), .val (.int zj2), .val (.int zj4), .val (.int zj6), .val (.int zj8), .val (.int vg9), .val (.ref ad), .val (.int vg11), .val (.int vg12), .val (.int zj14), .val (.ref zj16), .val (.ref b18), .val (.int vg59), .val (.int zj65)] [(.int vg11), (.ref ad)]
                        refine own_via (fun t k => XS.iload XJ64.here hx rfl (hb hby at_331) rfl k) ?_
                        show own_H TJ64 333 #[.val (.int p0), .val (.int p1), .val (.int p2), .val (.int p3), .val (.int zj2), .val (.int zj4), .val (.int zj6), .val (.int zj8), .val (.int vg9), .val (.ref ad), .val (.int vg11), .val (.int vg12), .val (.int zj14), .val (.ref zj16), .val (.ref b18), .val (.int vg59), .val (.int zj65)] [(.int zj14), (.int vg11), (.ref ad)]
                        refine own_via (fun t k => XS.iconst XJ64.here hx rfl (hb hby at_333) k) ?_
                        show own_H TJ64 334 #[.val (.int p0), .val (.int p1), .val (.int p2), .val (.int p3), .val (.int zj2), .val (.int zj4), .val (.int zj6), .val (.int zj8), .val (.int vg9), .val (.ref ad), .val (.int vg11), .val (.int vg12), .val (.int zj14), .val (.ref zj16), .val (.ref b18), .val (.int vg59), .val (.int zj65)] [(.int (4 : Int32)), (.int zj14), (.int vg11), (.ref ad)]
                        obtain ⟨T70, X70, e70, st70⟩ := own_callP (y := (⟨"com/example/skipstitch/skipstitch/KmpPatternStepPinLaw", "isBorder", "([IIII)Z"⟩ : MethodName)) (W := 0) XJ64 hx hZ hown (own_u hw 86 rfl) (own_u hw 87 rfl) (own_u hw 88 rfl) (own_u hw 89 rfl) (by decide) (own_ib4 l Z a0 hw [] ad vg11 zj14 kd nn P h38 f53 (own_bi_4_0 (own_okL hQ.1).2 (own_pr (own_okL hQ.1).1 hm) hc69) (own_bi_4_1 (own_okL hQ.1).2 (own_pr (own_okL hQ.1).1 hm) hc69) (own_bi_4_2 (own_okL hQ.1).2 (own_pr (own_okL hQ.1).1 hm) hc69) (own_bi_4_3 (own_okL hQ.1).2 (own_pr (own_okL hQ.1).1 hm) hc69) (own_ba_4_0 (own_okL hQ.1).2 (own_pr (own_okL hQ.1).1 hm) hc69) (own_ba_4_1 (own_okL hQ.1).2 (own_pr (own_okL hQ.1).1 hm) hc69) (own_ba_4_2 (own_okL hQ.1).2 (own_pr (own_okL hQ.1).1 hm) hc69) (own_ba_4_3 (own_okL hQ.1).2 (own_pr (own_okL hQ.1).1 hm) hc69)) (by decide) (by decide) rfl rfl (by decide) (by decide) EJ64 (pc := 334) (Ls := #[.val (.int p0), .val (.int p1), .val (.int p2), .val (.int p3), .val (.int zj2), .val (.int zj4), .val (.int zj6), .val (.int zj8), .val (.int vg9), .val (.ref ad), .val (.int vg11), .val (.int vg12), .val (.int zj14), .val (.ref zj16), .val (.ref b18), .val (.int vg59), .val (.int zj65)]) (st := [(.int (4 : Int32)), (.int zj14), (.int vg11), (.ref ad)]) (argsL := [(.ref ad), (.int vg11), (.int zj14), (.int (4 : Int32))]) (rest := []) (by rw [hml]; rfl) (lenOf own_pd8 rfl) rfl rfl (Nat.le_of_eq rfl) (hb hby at_334)
                        refine own_via st70 ?_
                        show own_H T70 337 #[.val (.int p0), .val (.int p1), .val (.int p2), .val (.int p3), .val (.int zj2), .val (.int zj4), .val (.int zj6), .val (.int zj8), .val (.int vg9), .val (.ref ad), .val (.int vg11), .val (.int vg12), .val (.int zj14), .val (.ref zj16), .val (.ref b18), .val (.int vg59), .val (.int zj65)] [(.int (own_Fb4 P vg11 zj14))]
                        by_cases hc71 : (own_Fb4 P vg11 zj14) = (0 : Int32)
                        ·
                          refine own_via (fun t k => XS.ifYes X70.here hx rfl (pc0 := 337) (pc' := 343) rfl (hb hby at_337) rfl ((if0 _ _).trans (teq hc71).1) (by decide) (by decide) k) ?_
                          show own_H T70 343 #[.val (.int p0), .val (.int p1), .val (.int p2), .val (.int p3), .val (.int zj2), .val (.int zj4), .val (.int zj6), .val (.int zj8), .val (.int vg9), .val (.ref ad), .val (.int vg11), .val (.int vg12), .val (.int zj14), .val (.ref zj16), .val (.ref b18), .val (.int vg59), .val (.int zj65)] []
                          exact J66 _ X70 e70 _ (by simp only [if_neg hc69, if_pos hc71])
                        ·
                          refine own_via (fun t k => XS.ifNo X70.here hx rfl (hb hby at_337) rfl ((if0 _ _).trans (feq hc71).1) k) ?_
                          show own_H T70 340 #[.val (.int p0), .val (.int p1), .val (.int p2), .val (.int p3), .val (.int zj2), .val (.int zj4), .val (.int zj6), .val (.int zj8), .val (.int vg9), .val (.ref ad), .val (.int vg11), .val (.int vg12), .val (.int zj14), .val (.ref zj16), .val (.ref b18), .val (.int vg59), .val (.int zj65)] []
                          refine own_via (fun t k => XS.iconst X70.here hx rfl (hb hby at_340) k) ?_
                          show own_H T70 341 #[.val (.int p0), .val (.int p1), .val (.int p2), .val (.int p3), .val (.int zj2), .val (.int zj4), .val (.int zj6), .val (.int zj8), .val (.int vg9), .val (.ref ad), .val (.int vg11), .val (.int vg12), .val (.int zj14), .val (.ref zj16), .val (.ref b18), .val (.int vg59), .val (.int zj65)] [(.int (4 : Int32))]
                          refine own_via (fun t k => XS.istore X70.here hx rfl (hb hby at_341) rfl (l' := #[.val (.int p0), .val (.int p1), .val (.int p2), .val (.int p3), .val (.int zj2), .val (.int zj4), .val (.int zj6), .val (.int zj8), .val (.int vg9), .val (.ref ad), .val (.int vg11), .val (.int vg12), .val (.int zj14), .val (.ref zj16), .val (.ref b18), .val (.int vg59), .val (.int (4 : Int32))]) rfl k) ?_
                          show own_H T70 343 #[.val (.int p0), .val (.int p1), .val (.int p2), .val (.int p3), .val (.int zj2), .val (.int zj4), .val (.int zj6), .val (.int zj8), .val (.int vg9), .val (.ref ad), .val (.int vg11), .val (.int vg12), .val (.int zj14), .val (.ref zj16), .val (.ref b18), .val (.int vg59), .val (.int (4 : Int32))] []
                          exact J66 _ X70 e70 _ (by simp only [if_neg hc69, if_neg hc71])
                    by_cases hc72 : (vg11 + (1 : Int32)) < (3 : Int32)
                    ·
                      refine own_via (fun t k => XS.icmpYes XJ62.here hx rfl (pc0 := 300) (pc' := 319) rfl (hb hby at_300) rfl (tlt hc72).1 (by decide) (by decide) k) ?_
                      show own_H TJ62 319 #[.val (.int p0), .val (.int p1), .val (.int p2), .val (.int p3), .val (.int zj2), .val (.int zj4), .val (.int zj6), .val (.int zj8), .val (.int vg9), .val (.ref ad), .val (.int vg11), .val (.int vg12), .val (.int zj14), .val (.ref zj16), .val (.ref b18), .val (.int vg59), .val (.int zj63)] []
                      exact J64 _ XJ62 EJ62 _ (by simp only [if_pos hc72])
                    ·
                      refine own_via (fun t k => XS.icmpNo XJ62.here hx rfl (hb hby at_300) rfl (flt hc72).1 k) ?_
                      show own_H TJ62 303 #[.val (.int p0), .val (.int p1), .val (.int p2), .val (.int p3), .val (.int zj2), .val (.int zj4), .val (.int zj6), .val (.int zj8), .val (.int vg9), .val (.ref ad), .val (.int vg11), .val (.int vg12), .val (.int zj14), .val (.ref zj16), .val (.ref b18), .val (.int vg59), .val (.int zj63)] []
                      refine own_via (fun t k => XS.aload XJ62.here hx rfl (hb hby at_303) rfl rfl k) ?_
                      show own_H TJ62 305 #[.val (.int p0), .val (.int p1), .val (.int p2), .val (.int p3), .val (.int zj2), .val (.int zj4), .val (.int zj6), .val (.int zj8), .val (.int vg9), .val (.ref ad), .val (.int vg11), .val (.int vg12), .val (.int zj14), .val (.ref zj16), .val (.ref b18), .val (.int vg59), .val (.int zj63)] [(.ref ad)]
                      refine own_via (fun t k => XS.iload XJ62.here hx rfl (hb hby at_305) rfl k) ?_
                      show own_H TJ62 307 #[.val (.int p0), .val (.int p1), .val (.int p2), .val (.int p3), .val (.int zj2), .val (.int zj4), .val (.int zj6), .val (.int zj8), .val (.int vg9), .val (.ref ad), .val (.int vg11), .val (.int vg12), .val (.int zj14), .val (.ref zj16), .val (.ref b18), .val (.int vg59), .val (.int zj63)] [(.int vg11), (.ref ad)]
                      refine own_via (fun t k => XS.iload XJ62.here hx rfl (hb hby at_307) rfl k) ?_
                      show own_H TJ62 309 #[.val (.int p0), .val (.int p1), .val (.int p2), .val (.int p3), .val (.int zj2), .val (.int zj4), .val (.int zj6), .val (.int zj8), .val (.int vg9), .val (.ref ad), .val (.int vg11), .val (.int vg12), .val (.int zj14), .val (.ref zj16), .val (.ref b18), .val (.int vg59), .val (.int zj63)] [(.int zj14), (.int vg11), (.ref ad)]
                      refine own_via (fun t k => XS.iconst XJ62.here hx rfl (hb hby at_309) k) ?_
                      show own_H TJ62 310 #[.val (.int p0), .val (.int p1), .val (.int p2), .val (.int p3), .val (.int zj2), .val (.int zj4), .val (.int zj6), .val (.int zj8), .val (.int vg9), .val (.ref ad), .val (.int vg11), .val (.int vg12), .val (.int zj14), .val (.ref zj16), .val (.ref b18), .val (.int vg59), .val (.int zj63)] [(.int (3 : Int32)), (.int zj14), (.int vg11), (.ref ad)]
                      obtain ⟨T73, X73, e73, st73⟩ := own_callP (y := (⟨"com/example/skipstitch/skipstitch/KmpPatternStepPinLaw", "isBorder", "([IIII)Z"⟩ : MethodName)) (W := 0) XJ62 hx hZ hown (own_u hw 86 rfl) (own_u hw 87 rfl) (own_u hw 88 rfl) (own_u hw 89 rfl) (by decide) (own_ib3 l Z a0 hw [] ad vg11 zj14 kd nn P h38 f53 (own_bi_3_0 (own_okL hQ.1).2 (own_pr (own_okL hQ.1).1 hm) hc72) (own_bi_3_1 (own_okL hQ.1).2 (own_pr (own_okL hQ.1).1 hm) hc72) (own_bi_3_2 (own_okL hQ.1).2 (own_pr (own_okL hQ.1).1 hm) hc72) (own_ba_3_0 (own_okL hQ.1).2 (own_pr (own_okL hQ.1).1 hm) hc72) (own_ba_3_1 (own_okL hQ.1).2 (own_pr (own_okL hQ.1).1 hm) hc72) (own_ba_3_2 (own_okL hQ.1).2 (own_pr (own_okL hQ.1).1 hm) hc72)) (by decide) (by decide) rfl rfl (by decide) (by decide) EJ62 (pc := 310) (Ls := #[.val (.int p0), .val (.int p1), .val (.int p2), .val (.int p3), .val (.int zj2), .val (.int zj4), .val (.int zj6), .val (.int zj8), .val (.int vg9), .val (.ref ad), .val (.int vg11), .val (.int vg12), .val (.int zj14), .val (.ref zj16), .val (.ref b18), .val (.int vg59), .val (.int zj63)]) (st := [(.int (3 : Int32)), (.int zj14), (.int vg11), (.ref ad)]) (argsL := [(.ref ad), (.int vg11), (.int zj14), (.int (3 : Int32))]) (rest := []) (by rw [hml]; rfl) (lenOf own_pd8 rfl) rfl rfl (Nat.le_of_eq rfl) (hb hby at_310)
                      refine own_via st73 ?_
                      show own_H T73 313 #[.val (.int p0), .val (.int p1), .val (.int p2), .val (.int p3), .val (.int zj2), .val (.int zj4), .val (.int zj6), .val (.int zj8), .val (.int vg9), .val (.ref ad), .val (.int vg11), .val (.int vg12), .val (.int zj14), .val (.ref zj16), .val (.ref b18), .val (.int vg59), .val (.int zj63)] [(.int (own_Fb3 P vg11 zj14))]
                      by_cases hc74 : (own_Fb3 P vg11 zj14) = (0 : Int32)
                      ·
                        refine own_via (fun t k => XS.ifYes X73.here hx rfl (pc0 := 313) (pc' := 319) rfl (hb hby at_313) rfl ((if0 _ _).trans (teq hc74).1) (by decide) (by decide) k) ?_
                        show own_H T73 319 #[.val (.int p0), .val (.int p1), .val (.int p2), .val (.int p3), .val (.int zj2), .val (.int zj4), .val (.int zj6), .val (.int zj8), .val (.int vg9), .val (.ref ad), .val (.int vg11), .val (.int vg12), .val (.int zj14), .val (.ref zj16), .val (.ref b18), .val (.int vg59), .val (.int zj63)] []
                        exact J64 _ X73 e73 _ (by simp only [if_neg hc72, if_pos hc74])
                      ·
                        refine own_via (fun t k => XS.ifNo X73.here hx rfl (hb hby at_313) rfl ((if0 _ _).trans (feq hc74).1) k) ?_
                        show own_H T73 316 #[.val (.int p0), .val (.int p1), .val (.int p2), .val (.int p3), .val (.int zj2), .val (.int zj4), .val (.int zj6), .val (.int zj8), .val (.int vg9), .val (.ref ad), .val (.int vg11), .val (.int vg12), .val (.int zj14), .val (.ref zj16), .val (.ref b18), .val (.int vg59), .val (.int zj63)] []
                        refine own_via (fun t k => XS.iconst X73.here hx rfl (hb hby at_316) k) ?_
                        show own_H T73 317 #[.val (.int p0), .val (.int p1), .val (.int p2), .val (.int p3), .val (.int zj2), .val (.int zj4), .val (.int zj6), .val (.int zj8), .val (.int vg9), .val (.ref ad), .val (.int vg11), .val (.int vg12), .val (.int zj14), .val (.ref zj16), .val (.ref b18), .val (.int vg59), .val (.int zj63)] [(.int (3 : Int32))]
                        refine own_via (fun t k => XS.istore X73.here hx rfl (hb hby at_317) rfl (l' := #[.val (.int p0), .val (.int p1), .val (.int p2), .val (.int p3), .val (.int zj2), .val (.int zj4), .val (.int zj6), .val (.int zj8), .val (.int vg9), .val (.ref ad), .val (.int vg11), .val (.int vg12), .val (.int zj14), .val (.ref zj16), .val (.ref b18), .val (.int vg59), .val (.int (3 : Int32))]) rfl k) ?_
                        show own_H T73 319 #[.val (.int p0), .val (.int p1), .val (.int p2), .val (.int p3), .val (.int zj2), .val (.int zj4), .val (.int zj6), .val (.int zj8), .val (.int vg9), .val (.ref ad), .val (.int vg11), .val (.int vg12), .val (.int zj14), .val (.ref zj16), .val (.ref b18), .val (.int vg59), .val (.int (3 : Int32))] []
                        exact J64 _ X73 e73 _ (by simp only [if_neg hc72, if_neg hc74])
                  by_cases hc75 : (vg11 + (1 : Int32)) < (2 : Int32)
                  ·
                    refine own_via (fun t k => XS.icmpYes XJ60.here hx rfl (pc0 := 276) (pc' := 295) rfl (hb hby at_276) rfl (tlt hc75).1 (by decide) (by decide) k) ?_
                    show own_H TJ60 295 #[.val (.int p0), .val (.int p1), .val (.int p2), .val (.int p3), .val (.int zj2), .val (.int zj4), .val (.int zj6), .val (.int zj8), .val (.int vg9), .val (.ref ad), .val (.int vg11), .val (.int vg12), .val (.int zj14), .val (.ref zj16), .val (.ref b18), .val (.int vg59), .val (.int zj61)] []
                    exact J62 _ XJ60 EJ60 _ (by simp only [if_pos hc75])
                  ·
                    refine own_via (fun t k => XS.icmpNo XJ60.here hx rfl (hb hby at_276) rfl (flt hc75).1 k) ?_
                    show own_H TJ60 279 #[.val (.int p0), .val (.int p1), .val (.int p2), .val (.int p3), .val (.int zj2), .val (.int zj4), .val (.int zj6), .val (.int zj8), .val (.int vg9), .val (.ref ad), .val (.int vg11), .val (.int vg12), .val (.int zj14), .val (.ref zj16), .val (.ref b18), .val (.int vg59), .val (.int zj61)] []
                    refine own_via (fun t k => XS.aload XJ60.here hx rfl (hb hby at_279) rfl rfl k) ?_
                    show own_H TJ60 281 #[.val (.int p0), .val (.int p1), .val (.int p2), .val (.int p3), .val (.int zj2), .val (.int zj4), .val (.int zj6), .val (.int zj8), .val (.int vg9), .val (.ref ad), .val (.int vg11), .val (.int vg12), .val (.int zj14), .val (.ref zj16), .val (.ref b18), .val (.int vg59), .val (.int zj61)] [(.ref ad)]
                    refine own_via (fun t k => XS.iload XJ60.here hx rfl (hb hby at_281) rfl k) ?_
                    show own_H TJ60 283 #[.val (.int p0), .val (.int p1), .val (.int p2), .val (.int p3), .val (.int zj2), .val (.int zj4), .val (.int zj6), .val (.int zj8), .val (.int vg9), .val (.ref ad), .val (.int vg11), .val (.int vg12), .val (.int zj14), .val (.ref zj16), .val (.ref b18), .val (.int vg59), .val (.int zj61)] [(.int vg11), (.ref ad)]
                    refine own_via (fun t k => XS.iload XJ60.here hx rfl (hb hby at_283) rfl k) ?_
                    show own_H TJ60 285 #[.val (.int p0), .val (.int p1), .val (.int p2), .val (.int p3), .val (.int zj2), .val (.int zj4), .val (.int zj6), .val (.int zj8), .val (.int vg9), .val (.ref ad), .val (.int vg11), .val (.int vg12), .val (.int zj14), .val (.ref zj16), .val (.ref b18), .val (.int vg59), .val (.int zj61)] [(.int zj14), (.int vg11), (.ref ad)]
                    refine own_via (fun t k => XS.iconst XJ60.here hx rfl (hb hby at_285) k) ?_
                    show own_H TJ60 286 #[.val (.int p0), .val (.int p1), .val (.int p2), .val (.int p3), .val (.int zj2), .val (.int zj4), .val (.int zj6), .val (.int zj8), .val (.int vg9), .val (.ref ad), .val (.int vg11), .val (.int vg12), .val (.int zj14), .val (.ref zj16), .val (.ref b18), .val (.int vg59), .val (.int zj61)] [(.int (2 : Int32)), (.int zj14), (.int vg11), (.ref ad)]
                    obtain ⟨T76, X76, e76, st76⟩ := own_callP (y := (⟨"com/example/skipstitch/skipstitch/KmpPatternStepPinLaw", "isBorder", "([IIII)Z"⟩ : MethodName)) (W := 0) XJ60 hx hZ hown (own_u hw 86 rfl) (own_u hw 87 rfl) (own_u hw 88 rfl) (own_u hw 89 rfl) (by decide) (own_ib2 l Z a0 hw [] ad vg11 zj14 kd nn P h38 f53 (own_bi_2_0 (own_okL hQ.1).2 (own_pr (own_okL hQ.1).1 hm) hc75) (own_bi_2_1 (own_okL hQ.1).2 (own_pr (own_okL hQ.1).1 hm) hc75) (own_ba_2_0 (own_okL hQ.1).2 (own_pr (own_okL hQ.1).1 hm) hc75) (own_ba_2_1 (own_okL hQ.1).2 (own_pr (own_okL hQ.1).1 hm) hc75)) (by decide) (by decide) rfl rfl (by decide) (by decide) EJ60 (pc := 286) (Ls := #[.val (.int p0), .val (.int p1), .val (.int p2), .val (.int p3), .val (.int zj2), .val (.int zj4), .val (.int zj6), .val (.int zj8), .val (.int vg9), .val (.ref ad), .val (.int vg11), .val (.int vg12), .val (.int zj14), .val (.ref zj16), .val (.ref b18), .val (.int vg59), .val (.int zj61)]) (st := [(.int (2 : Int32)), (.int zj14), (.int vg11), (.ref ad)]) (argsL := [(.ref ad), (.int vg11), (.int zj14), (.int (2 : Int32))]) (rest := []) (by rw [hml]; rfl) (lenOf own_pd8 rfl) rfl rfl (Nat.le_of_eq rfl) (hb hby at_286)
                    refine own_via st76 ?_
                    show own_H T76 289 #[.val (.int p0), .val (.int p1), .val (.int p2), .val (.int p3), .val (.int zj2), .val (.int zj4), .val (.int zj6), .val (.int zj8), .val (.int vg9), .val (.ref ad), .val (.int vg11), .val (.int vg12), .val (.int zj14), .val (.ref zj16), .val (.ref b18), .val (.int vg59), .val (.int zj61)] [(.int (own_Fb2 P vg11 zj14))]
                    by_cases hc77 : (own_Fb2 P vg11 zj14) = (0 : Int32)
                    ·
                      refine own_via (fun t k => XS.ifYes X76.here hx rfl (pc0 := 289) (pc' := 295) rfl (hb hby at_289) rfl ((if0 _ _).trans (teq hc77).1) (by decide) (by decide) k) ?_
                      show own_H T76 295 #[.val (.int p0), .val (.int p1), .val (.int p2), .val (.int p3), .val (.int zj2), .val (.int zj4), .val (.int zj6), .val (.int zj8), .val (.int vg9), .val (.ref ad), .val (.int vg11), .val (.int vg12), .val (.int zj14), .val (.ref zj16), .val (.ref b18), .val (.int vg59), .val (.int zj61)] []
                      exact J62 _ X76 e76 _ (by simp only [if_neg hc75, if_pos hc77])
                    ·
                      refine own_via (fun t k => XS.ifNo X76.here hx rfl (hb hby at_289) rfl ((if0 _ _).trans (feq hc77).1) k) ?_
                      show own_H T76 292 #[.val (.int p0), .val (.int p1), .val (.int p2), .val (.int p3), .val (.int zj2), .val (.int zj4), .val (.int zj6), .val (.int zj8), .val (.int vg9), .val (.ref ad), .val (.int vg11), .val (.int vg12), .val (.int zj14), .val (.ref zj16), .val (.ref b18), .val (.int vg59), .val (.int zj61)] []
                      refine own_via (fun t k => XS.iconst X76.here hx rfl (hb hby at_292) k) ?_
                      show own_H T76 293 #[.val (.int p0), .val (.int p1), .val (.int p2), .val (.int p3), .val (.int zj2), .val (.int zj4), .val (.int zj6), .val (.int zj8), .val (.int vg9), .val (.ref ad), .val (.int vg11), .val (.int vg12), .val (.int zj14), .val (.ref zj16), .val (.ref b18), .val (.int vg59), .val (.int zj61)] [(.int (2 : Int32))]
                      refine own_via (fun t k => XS.istore X76.here hx rfl (hb hby at_293) rfl (l' := #[.val (.int p0), .val (.int p1), .val (.int p2), .val (.int p3), .val (.int zj2), .val (.int zj4), .val (.int zj6), .val (.int zj8), .val (.int vg9), .val (.ref ad), .val (.int vg11), .val (.int vg12), .val (.int zj14), .val (.ref zj16), .val (.ref b18), .val (.int vg59), .val (.int (2 : Int32))]) rfl k) ?_
                      show own_H T76 295 #[.val (.int p0), .val (.int p1), .val (.int p2), .val (.int p3), .val (.int zj2), .val (.int zj4), .val (.int zj6), .val (.int zj8), .val (.int vg9), .val (.ref ad), .val (.int vg11), .val (.int vg12), .val (.int zj14), .val (.ref zj16), .val (.ref b18), .val (.int vg59), .val (.int (2 : Int32))] []
                      exact J62 _ X76 e76 _ (by simp only [if_neg hc75, if_neg hc77])
                by_cases hc78 : (vg11 + (1 : Int32)) < (1 : Int32)
                ·
                  refine own_via (fun t k => XS.icmpYes X58.here hx rfl (pc0 := 252) (pc' := 271) rfl (hb hby at_252) rfl (tlt hc78).1 (by decide) (by decide) k) ?_
                  show own_H T58 271 #[.val (.int p0), .val (.int p1), .val (.int p2), .val (.int p3), .val (.int zj2), .val (.int zj4), .val (.int zj6), .val (.int zj8), .val (.int vg9), .val (.ref ad), .val (.int vg11), .val (.int vg12), .val (.int zj14), .val (.ref zj16), .val (.ref b18), .val (.int vg59), .val (.int (0 : Int32))] []
                  exact J60 _ X58 e58 _ (by simp only [if_pos hc78])
                ·
                  refine own_via (fun t k => XS.icmpNo X58.here hx rfl (hb hby at_252) rfl (flt hc78).1 k) ?_
                  show own_H T58 255 #[.val (.int p0), .val (.int p1), .val (.int p2), .val (.int p3), .val (.int zj2), .val (.int zj4), .val (.int zj6), .val (.int zj8), .val (.int vg9), .val (.ref ad), .val (.int vg11), .val (.int vg12), .val (.int zj14), .val (.ref zj16), .val (.ref b18), .val (.int vg59), .val (.int (0 : Int32))] []
                  refine own_via (fun t k => XS.aload X58.here hx rfl (hb hby at_255) rfl rfl k) ?_
                  show own_H T58 257 #[.val (.int p0), .val (.int p1), .val (.int p2), .val (.int p3), .val (.int zj2), .val (.int zj4), .val (.int zj6), .val (.int zj8), .val (.int vg9), .val (.ref ad), .val (.int vg11), .val (.int vg12), .val (.int zj14), .val (.ref zj16), .val (.ref b18), .val (.int vg59), .val (.int (0 : Int32))] [(.ref ad)]
                  refine own_via (fun t k => XS.iload X58.here hx rfl (hb hby at_257) rfl k) ?_
                  show own_H T58 259 #[.val (.int p0), .val (.int p1), .val (.int p2), .val (.int p3), .val (.int zj2), .val (.int zj4), .val (.int zj6), .val (.int zj8), .val (.int vg9), .val (.ref ad), .val (.int vg11), .val (.int vg12), .val (.int zj14), .val (.ref zj16), .val (.ref b18), .val (.int vg59), .val (.int (0 : Int32))] [(.int vg11), (.ref ad)]
                  refine own_via (fun t k => XS.iload X58.here hx rfl (hb hby at_259) rfl k) ?_
                  show own_H T58 261 #[.val (.int p0), .val (.int p1), .val (.int p2), .val (.int p3), .val (.int zj2), .val (.int zj4), .val (.int zj6), .val (.int zj8), .val (.int vg9), .val (.ref ad), .val (.int vg11), .val (.int vg12), .val (.int zj14), .val (.ref zj16), .val (.ref b18), .val (.int vg59), .val (.int (0 : Int32))] [(.int zj14), (.int vg11), (.ref ad)]
                  refine own_via (fun t k => XS.iconst X58.here hx rfl (hb hby at_261) k) ?_
                  show own_H T58 262 #[.val (.int p0), .val (.int p1), .val (.int p2), .val (.int p3), .val (.int zj2), .val (.int zj4), .val (.int zj6), .val (.int zj8), .val (.int vg9), .val (.ref ad), .val (.int vg11), .val (.int vg12), .val (.int zj14), .val (.ref zj16), .val (.ref b18), .val (.int vg59), .val (.int (0 : Int32))] [(.int (1 : Int32)), (.int zj14), (.int vg11), (.ref ad)]
                  obtain ⟨T79, X79, e79, st79⟩ := own_callP (y := (⟨"com/example/skipstitch/skipstitch/KmpPatternStepPinLaw", "isBorder", "([IIII)Z"⟩ : MethodName)) (W := 0) X58 hx hZ hown (own_u hw 86 rfl) (own_u hw 87 rfl) (own_u hw 88 rfl) (own_u hw 89 rfl) (by decide) (own_ib1 l Z a0 hw [] ad vg11 zj14 kd nn P h38 f53 (own_bi_1_0 (own_okL hQ.1).2 (own_pr (own_okL hQ.1).1 hm) hc78) (own_ba_1_0 (own_okL hQ.1).2 (own_pr (own_okL hQ.1).1 hm) hc78)) (by decide) (by decide) rfl rfl (by decide) (by decide) e58 (pc := 262) (Ls := #[.val (.int p0), .val (.int p1), .val (.int p2), .val (.int p3), .val (.int zj2), .val (.int zj4), .val (.int zj6), .val (.int zj8), .val (.int vg9), .val (.ref ad), .val (.int vg11), .val (.int vg12), .val (.int zj14), .val (.ref zj16), .val (.ref b18), .val (.int vg59), .val (.int (0 : Int32))]) (st := [(.int (1 : Int32)), (.int zj14), (.int vg11), (.ref ad)]) (argsL := [(.ref ad), (.int vg11), (.int zj14), (.int (1 : Int32))]) (rest := []) (by rw [hml]; rfl) (lenOf own_pd8 rfl) rfl rfl (Nat.le_of_eq rfl) (hb hby at_262)
                  refine own_via st79 ?_
                  show own_H T79 265 #[.val (.int p0), .val (.int p1), .val (.int p2), .val (.int p3), .val (.int zj2), .val (.int zj4), .val (.int zj6), .val (.int zj8), .val (.int vg9), .val (.ref ad), .val (.int vg11), .val (.int vg12), .val (.int zj14), .val (.ref zj16), .val (.ref b18), .val (.int vg59), .val (.int (0 : Int32))] [(.int (own_Fb1 P vg11 zj14))]
                  by_cases hc80 : (own_Fb1 P vg11 zj14) = (0 : Int32)
                  ·
                    refine own_via (fun t k => XS.ifYes X79.here hx rfl (pc0 := 265) (pc' := 271) rfl (hb hby at_265) rfl ((if0 _ _).trans (teq hc80).1) (by decide) (by decide) k) ?_
                    show own_H T79 271 #[.val (.int p0), .val (.int p1), .val (.int p2), .val (.int p3), .val (.int zj2), .val (.int zj4), .val (.int zj6), .val (.int zj8), .val (.int vg9), .val (.ref ad), .val (.int vg11), .val (.int vg12), .val (.int zj14), .val (.ref zj16), .val (.ref b18), .val (.int vg59), .val (.int (0 : Int32))] []
                    exact J60 _ X79 e79 _ (by simp only [if_neg hc78, if_pos hc80])
                  ·
                    refine own_via (fun t k => XS.ifNo X79.here hx rfl (hb hby at_265) rfl ((if0 _ _).trans (feq hc80).1) k) ?_
                    show own_H T79 268 #[.val (.int p0), .val (.int p1), .val (.int p2), .val (.int p3), .val (.int zj2), .val (.int zj4), .val (.int zj6), .val (.int zj8), .val (.int vg9), .val (.ref ad), .val (.int vg11), .val (.int vg12), .val (.int zj14), .val (.ref zj16), .val (.ref b18), .val (.int vg59), .val (.int (0 : Int32))] []
                    refine own_via (fun t k => XS.iconst X79.here hx rfl (hb hby at_268) k) ?_
                    show own_H T79 269 #[.val (.int p0), .val (.int p1), .val (.int p2), .val (.int p3), .val (.int zj2), .val (.int zj4), .val (.int zj6), .val (.int zj8), .val (.int vg9), .val (.ref ad), .val (.int vg11), .val (.int vg12), .val (.int zj14), .val (.ref zj16), .val (.ref b18), .val (.int vg59), .val (.int (0 : Int32))] [(.int (1 : Int32))]
                    refine own_via (fun t k => XS.istore X79.here hx rfl (hb hby at_269) rfl (l' := #[.val (.int p0), .val (.int p1), .val (.int p2), .val (.int p3), .val (.int zj2), .val (.int zj4), .val (.int zj6), .val (.int zj8), .val (.int vg9), .val (.ref ad), .val (.int vg11), .val (.int vg12), .val (.int zj14), .val (.ref zj16), .val (.ref b18), .val (.int vg59), .val (.int (1 : Int32))]) rfl k) ?_
                    show own_H T79 271 #[.val (.int p0), .val (.int p1), .val (.int p2), .val (.int p3), .val (.int zj2), .val (.int zj4), .val (.int zj6), .val (.int zj8), .val (.int vg9), .val (.ref ad), .val (.int vg11), .val (.int vg12), .val (.int zj14), .val (.ref zj16), .val (.ref b18), .val (.int vg59), .val (.int (1 : Int32))] []
                    exact J60 _ X79 e79 _ (by simp only [if_neg hc78, if_neg hc80])
              by_cases hc81 : (((p3.toUInt32 >>> ((10 : Int32) &&& 31).toUInt32).toInt32) &&& (1 : Int32)) = (0 : Int32)
              ·
                refine own_via (fun t k => XS.ifNo XJ13.here hx rfl (hb hby at_206) rfl ((if0 _ _).trans (teq hc81).2) k) ?_
                show own_H TJ13 209 #[.val (.int p0), .val (.int p1), .val (.int p2), .val (.int p3), .val (.int zj2), .val (.int zj4), .val (.int zj6), .val (.int zj8), .val (.int vg9), .val (.ref ad), .val (.int vg11), .val (.int vg12), .val (.int zj14), .unset, .unset, .unset, .unset] []
                obtain ⟨T82, X82, e82, st82⟩ := getS2 XJ13 hx hZ hown (host := "") (Or.inl (own_u hw 1 rfl)) Via.refl EJ13 fJ10_0 (g := (mkF m 209 #[.val (.int p0), .val (.int p1), .val (.int p2), .val (.int p3), .val (.int zj2), .val (.int zj4), .val (.int zj6), .val (.int zj8), .val (.int vg9), .val (.ref ad), .val (.int vg11), .val (.int vg12), .val (.int zj14), .unset, .unset, .unset, .unset] [])) rfl (hb hby at_209)
                refine own_via st82 ?_
                show own_H T82 212 #[.val (.int p0), .val (.int p1), .val (.int p2), .val (.int p3), .val (.int zj2), .val (.int zj4), .val (.int zj6), .val (.int zj8), .val (.int vg9), .val (.ref ad), .val (.int vg11), .val (.int vg12), .val (.int zj14), .unset, .unset, .unset, .unset] [(.ref w1)]
                refine own_via (fun t k => XS.goto X82.here hx rfl (pc0 := 212) (pc' := 218) rfl (hb hby at_212) (by decide) (by decide) k) ?_
                show own_H T82 218 #[.val (.int p0), .val (.int p1), .val (.int p2), .val (.int p3), .val (.int zj2), .val (.int zj4), .val (.int zj6), .val (.int zj8), .val (.int vg9), .val (.ref ad), .val (.int vg11), .val (.int vg12), .val (.int zj14), .unset, .unset, .unset, .unset] [(.ref w1)]
                exact J15 _ X82 e82 _ (by simp only [if_pos hc81])
              ·
                refine own_via (fun t k => XS.ifYes XJ13.here hx rfl (pc0 := 206) (pc' := 215) rfl (hb hby at_206) rfl ((if0 _ _).trans (feq hc81).2) (by decide) (by decide) k) ?_
                show own_H TJ13 215 #[.val (.int p0), .val (.int p1), .val (.int p2), .val (.int p3), .val (.int zj2), .val (.int zj4), .val (.int zj6), .val (.int zj8), .val (.int vg9), .val (.ref ad), .val (.int vg11), .val (.int vg12), .val (.int zj14), .unset, .unset, .unset, .unset] []
                obtain ⟨T83, X83, e83, st83⟩ := getS2 XJ13 hx hZ hown (host := "") (Or.inl (own_u hw 93 rfl)) Via.refl EJ13 fJ10_1 (g := (mkF m 215 #[.val (.int p0), .val (.int p1), .val (.int p2), .val (.int p3), .val (.int zj2), .val (.int zj4), .val (.int zj6), .val (.int zj8), .val (.int vg9), .val (.ref ad), .val (.int vg11), .val (.int vg12), .val (.int zj14), .unset, .unset, .unset, .unset] [])) rfl (hb hby at_215)
                refine own_via st83 ?_
                show own_H T83 218 #[.val (.int p0), .val (.int p1), .val (.int p2), .val (.int p3), .val (.int zj2), .val (.int zj4), .val (.int zj6), .val (.int zj8), .val (.int vg9), .val (.ref ad), .val (.int vg11), .val (.int vg12), .val (.int zj14), .unset, .unset, .unset, .unset] [(.ref w2)]
                exact J15 _ X83 e83 _ (by simp only [if_neg hc81])
            by_cases hc84 : vg12 = (0 : Int32)
            ·
              refine own_via (fun t k => XS.ifNo XJ10.here hx rfl (hb hby at_180) rfl ((if0 _ _).trans (teq hc84).2) k) ?_
              show own_H TJ10 183 #[.val (.int p0), .val (.int p1), .val (.int p2), .val (.int p3), .val (.int zj2), .val (.int zj4), .val (.int zj6), .val (.int zj8), .val (.int vg9), .val (.ref ad), .val (.int vg11), .val (.int vg12), .unset, .unset, .unset, .unset, .unset] []
              refine own_via (fun t k => XS.iloadN XJ10.here hx rfl (hb hby at_183) rfl k) ?_
              show own_H TJ10 184 #[.val (.int p0), .val (.int p1), .val (.int p2), .val (.int p3), .val (.int zj2), .val (.int zj4), .val (.int zj6), .val (.int zj8), .val (.int vg9), .val (.ref ad), .val (.int vg11), .val (.int vg12), .unset, .unset, .unset, .unset, .unset] [(.int p0)]
              refine own_via (fun t k => XS.goto XJ10.here hx rfl (pc0 := 184) (pc' := 198) rfl (hb hby at_184) (by decide) (by decide) k) ?_
              show own_H TJ10 198 #[.val (.int p0), .val (.int p1), .val (.int p2), .val (.int p3), .val (.int zj2), .val (.int zj4), .val (.int zj6), .val (.int zj8), .val (.int vg9), .val (.ref ad), .val (.int vg11), .val (.int vg12), .unset, .unset, .unset, .unset, .unset] [(.int p0)]
              exact J13 _ XJ10 eJ10 _ (by simp only [if_pos hc84])
            ·
              refine own_via (fun t k => XS.ifYes XJ10.here hx rfl (pc0 := 180) (pc' := 187) rfl (hb hby at_180) rfl ((if0 _ _).trans (feq hc84).2) (by decide) (by decide) k) ?_
              show own_H TJ10 187 #[.val (.int p0), .val (.int p1), .val (.int p2), .val (.int p3), .val (.int zj2), .val (.int zj4), .val (.int zj6), .val (.int zj8), .val (.int vg9), .val (.ref ad), .val (.int vg11), .val (.int vg12), .unset, .unset, .unset, .unset, .unset] []
              refine own_via (fun t k => XS.iload XJ10.here hx rfl (hb hby at_187) rfl k) ?_
              show own_H TJ10 189 #[.val (.int p0), .val (.int p1), .val (.int p2), .val (.int p3), .val (.int zj2), .val (.int zj4), .val (.int zj6), .val (.int zj8), .val (.int vg9), .val (.ref ad), .val (.int vg11), .val (.int vg12), .unset, .unset, .unset, .unset, .unset] [(.int vg12)]
              refine own_via (fun t k => XS.iconst XJ10.here hx rfl (hb hby at_189) k) ?_
              show own_H TJ10 190 #[.val (.int p0), .val (.int p1), .val (.int p2), .val (.int p3), .val (.int zj2), .val (.int zj4), .val (.int zj6), .val (.int zj8), .val (.int vg9), .val (.ref ad), .val (.int vg11), .val (.int vg12), .unset, .unset, .unset, .unset, .unset] [(.int (1 : Int32)), (.int vg12)]
              by_cases hc85 : vg12 = (1 : Int32)
              ·
                refine own_via (fun t k => XS.icmpNo XJ10.here hx rfl (hb hby at_190) rfl (teq hc85).2 k) ?_
                show own_H TJ10 193 #[.val (.int p0), .val (.int p1), .val (.int p2), .val (.int p3), .val (.int zj2), .val (.int zj4), .val (.int zj6), .val (.int zj8), .val (.int vg9), .val (.ref ad), .val (.int vg11), .val (.int vg12), .unset, .unset, .unset, .unset, .unset] []
                refine own_via (fun t k => XS.iloadN XJ10.here hx rfl (hb hby at_193) rfl k) ?_
                show own_H TJ10 194 #[.val (.int p0), .val (.int p1), .val (.int p2), .val (.int p3), .val (.int zj2), .val (.int zj4), .val (.int zj6), .val (.int zj8), .val (.int vg9), .val (.ref ad), .val (.int vg11), .val (.int vg12), .unset, .unset, .unset, .unset, .unset] [(.int p1)]
                refine own_via (fun t k => XS.goto XJ10.here hx rfl (pc0 := 194) (pc' := 198) rfl (hb hby at_194) (by decide) (by decide) k) ?_
                show own_H TJ10 198 #[.val (.int p0), .val (.int p1), .val (.int p2), .val (.int p3), .val (.int zj2), .val (.int zj4), .val (.int zj6), .val (.int zj8), .val (.int vg9), .val (.ref ad), .val (.int vg11), .val (.int vg12), .unset, .unset, .unset, .unset, .unset] [(.int p1)]
                exact J13 _ XJ10 eJ10 _ (by simp only [if_neg hc84, if_pos hc85])
              ·
                refine own_via (fun t k => XS.icmpYes XJ10.here hx rfl (pc0 := 190) (pc' := 197) rfl (hb hby at_190) rfl (feq hc85).2 (by decide) (by decide) k) ?_
                show own_H TJ10 197 #[.val (.int p0), .val (.int p1), .val (.int p2), .val (.int p3), .val (.int zj2), .val (.int zj4), .val (.int zj6), .val (.int zj8), .val (.int vg9), .val (.ref ad), .val (.int vg11), .val (.int vg12), .unset, .unset, .unset, .unset, .unset] []
                refine own_via (fun t k => XS.iloadN XJ10.here hx rfl (hb hby at_197) rfl k) ?_
                show own_H TJ10 198 #[.val (.int p0), .val (.int p1), .val (.int p2), .val (.int p3), .val (.int zj2), .val (.int zj4), .val (.int zj6), .val (.int zj8), .val (.int vg9), .val (.ref ad), .val (.int vg11), .val (.int vg12), .unset, .unset, .unset, .unset, .unset] [(.int p2)]
                exact J13 _ XJ10 eJ10 _ (by simp only [if_neg hc84, if_neg hc85])
          refine own_via (fun t k => XS.iload XJ7.here hx rfl (hb hby at_62) rfl k) ?_
          refine own_via (fun t k => XS.iconst XJ7.here hx rfl (hb hby at_64) k) ?_
          show own_H TJ7 65 #[.val (.int p0), .val (.int p1), .val (.int p2), .val (.int p3), .val (.int zj2), .val (.int zj4), .val (.int zj6), .val (.int zj8), .val (.int vg9), .unset, .unset, .unset, .unset, .unset, .unset, .unset, .unset] [(.int (1 : Int32)), (.int vg9)]
          by_cases hc86 : vg9 = (1 : Int32)
          ·
            refine own_via (fun t k => XS.icmpNo XJ7.here hx rfl (hb hby at_65) rfl (teq hc86).2 k) ?_
            show own_H TJ7 68 #[.val (.int p0), .val (.int p1), .val (.int p2), .val (.int p3), .val (.int zj2), .val (.int zj4), .val (.int zj6), .val (.int zj8), .val (.int vg9), .unset, .unset, .unset, .unset, .unset, .unset, .unset, .unset] []
            refine own_via (fun t k => XS.iconst XJ7.here hx rfl (hb hby at_68) k) ?_
            show own_H TJ7 69 #[.val (.int p0), .val (.int p1), .val (.int p2), .val (.int p3), .val (.int zj2), .val (.int zj4), .val (.int zj6), .val (.int zj8), .val (.int vg9), .unset, .unset, .unset, .unset, .unset, .unset, .unset, .unset] [(.int (1 : Int32))]
            obtain ⟨T87, h87, k87, b87, X87, e87, E87, ga87, V87, Ex87, st87⟩ := own_newA XJ7 hx hZ (own_u hw 0 rfl) EJ7 (pc := 69) (Ls := #[.val (.int p0), .val (.int p1), .val (.int p2), .val (.int p3), .val (.int zj2), .val (.int zj4), .val (.int zj6), .val (.int zj8), .val (.int vg9), .unset, .unset, .unset, .unset, .unset, .unset, .unset, .unset]) (rest := []) (hb hby at_69) (n := (1 : Int32)) (by decide) (cap := 1) (by decide) (by decide) (by decide) (by decide) 1 rfl
            refine own_via st87 ?_
            have f90 := i_S1.ext E87
            have f91 := i_S2.ext E87
            have f92 := i_E1.ext E87
            have f93 := i_E2.ext E87
            have f94 : Arv Z h87 b87 k87 .int (1 : Int32) [(.int (0 : Int32))] (.int (0 : Int32)) := V87
            have f95 : Exa Z h87 b87 "[I" := Ex87
            have g_b87 : n0 ≤ b87 := Nat.le_trans Z0 (Nat.le_of_eq ga87.symm)
            have Wk96 : 0 ≤ h87.size := Nat.le_trans W0 E87.1
            have Zs97 : n0 ≤ h87.size := Nat.le_trans Z0 E87.1
            show own_H T87 71 #[.val (.int p0), .val (.int p1), .val (.int p2), .val (.int p3), .val (.int zj2), .val (.int zj4), .val (.int zj6), .val (.int zj8), .val (.int vg9), .unset, .unset, .unset, .unset, .unset, .unset, .unset, .unset] [(.ref b87)]
            clear i_S1 i_S2 i_E1 i_E2 W0
            refine own_via (fun t k => XS.dup X87.here hx rfl (hb hby at_71) rfl rfl k) ?_
            refine own_via (fun t k => XS.iconst X87.here hx rfl (hb hby at_72) k) ?_
            refine own_via (fun t k => XS.iload X87.here hx rfl (hb hby at_73) rfl k) ?_
            show own_H T87 75 #[.val (.int p0), .val (.int p1), .val (.int p2), .val (.int p3), .val (.int zj2), .val (.int zj4), .val (.int zj6), .val (.int zj8), .val (.int vg9), .unset, .unset, .unset, .unset, .unset, .unset, .unset, .unset] [(.int zj2), (.int (0 : Int32)), (.ref b87), (.ref b87)]
            obtain ⟨T98, h98, L98, X98, N98, e98, W98, V98, st98⟩ := own_stI X87 N0 hx hZ e87 f94 g_b87 (j := (0 : Int32)) (x := zj2) (i := 0) ⟨by decide, by decide⟩ rfl (Nat.le_of_ble_eq_true rfl) (pc := 75) (Ls := #[.val (.int p0), .val (.int p1), .val (.int p2), .val (.int p3), .val (.int zj2), .val (.int zj4), .val (.int zj6), .val (.int zj8), .val (.int vg9), .unset, .unset, .unset, .unset, .unset, .unset, .unset, .unset]) (rest := [(.ref b87)]) (hb hby at_75)
            refine own_via st98 ?_
            have f99 := f90.wr W98
            have f100 := f91.wr W98
            have f101 := f92.wr W98
            have f102 := f93.wr W98
            have f103 := f95.wr W98
            have f104 : Arv Z h98 b87 k87 .int (1 : Int32) [(.int zj2)] (.int (0 : Int32)) := V98
            have Wk105 : 0 ≤ h98.size := by rw [W98.size]; exact Wk96
            have Zs106 : n0 ≤ h98.size := by rw [W98.size]; exact Zs97
            show own_H T98 76 #[.val (.int p0), .val (.int p1), .val (.int p2), .val (.int p3), .val (.int zj2), .val (.int zj4), .val (.int zj6), .val (.int zj8), .val (.int vg9), .unset, .unset, .unset, .unset, .unset, .unset, .unset, .unset] [(.ref b87)]
            clear f90 f91 f92 f93 f94 f95 Zs97 Wk96
            refine own_via (fun t k => XS.astore X98.here hx rfl (hb hby at_76) rfl rfl (l' := #[.val (.int p0), .val (.int p1), .val (.int p2), .val (.int p3), .val (.int zj2), .val (.int zj4), .val (.int zj6), .val (.int zj8), .val (.int vg9), .val (.ref b87), .unset, .unset, .unset, .unset, .unset, .unset, .unset]) rfl k) ?_
            show own_H T98 78 #[.val (.int p0), .val (.int p1), .val (.int p2), .val (.int p3), .val (.int zj2), .val (.int zj4), .val (.int zj6), .val (.int zj8), .val (.int vg9), .val (.ref b87), .unset, .unset, .unset, .unset, .unset, .unset, .unset] []
            refine own_via (fun t k => XS.goto X98.here hx rfl (pc0 := 78) (pc' := 159) rfl (hb hby at_78) (by decide) (by decide) k) ?_
            show own_H T98 159 #[.val (.int p0), .val (.int p1), .val (.int p2), .val (.int p3), .val (.int zj2), .val (.int zj4), .val (.int zj6), .val (.int zj8), .val (.int vg9), .val (.ref b87), .unset, .unset, .unset, .unset, .unset, .unset, .unset] []
            exact J10 [zj2] (own_FB1 zj2) (1 : Int32) (2 : Int32) b87 k87 _ _ _ (X98.mono (Nat.le_refl _) (by decide)) N98 e98 Zs106 Wk105 f99 f100 f101 f102 f104 f103 ⟨(Or.inl ⟨_, rfl, rfl, rfl, rfl⟩), hc86⟩
          ·
            refine own_via (fun t k => XS.icmpYes XJ7.here hx rfl (pc0 := 65) (pc' := 81) rfl (hb hby at_65) rfl (feq hc86).2 (by decide) (by decide) k) ?_
            show own_H TJ7 81 #[.val (.int p0), .val (.int p1), .val (.int p2), .val (.int p3), .val (.int zj2), .val (.int zj4), .val (.int zj6), .val (.int zj8), .val (.int vg9), .unset, .unset, .unset, .unset, .unset, .unset, .unset, .unset] []
            refine own_via (fun t k => XS.iload XJ7.here hx rfl (hb hby at_81) rfl k) ?_
            refine own_via (fun t k => XS.iconst XJ7.here hx rfl (hb hby at_83) k) ?_
            show own_H TJ7 84 #[.val (.int p0), .val (.int p1), .val (.int p2), .val (.int p3), .val (.int zj2), .val (.int zj4), .val (.int zj6), .val (.int zj8), .val (.int vg9), .unset, .unset, .unset, .unset, .unset, .unset, .unset, .unset] [(.int (2 : Int32)), (.int vg9)]
            by_cases hc107 : vg9 = (2 : Int32)
            ·
              refine own_via (fun t k => XS.icmpNo XJ7.here hx rfl (hb hby at_84) rfl (teq hc107).2 k) ?_
              show own_H TJ7 87 #[.val (.int p0), .val (.int p1), .val (.int p2), .val (.int p3), .val (.int zj2), .val (.int zj4), .val (.int zj6), .val (.int zj8), .val (.int vg9), .unset, .unset, .unset, .unset, .unset, .unset, .unset, .unset] []
              refine own_via (fun t k => XS.iconst XJ7.here hx rfl (hb hby at_87) k) ?_
              show own_H TJ7 88 #[.val (.int p0), .val (.int p1), .val (.int p2), .val (.int p3), .val (.int zj2), .val (.int zj4), .val (.int zj6), .val (.int zj8), .val (.int vg9), .unset, .unset, .unset, .unset, .unset, .unset, .unset, .unset] [(.int (2 : Int32))]
              obtain ⟨T108, h108, k108, b108, X108, e108, E108, ga108, V108, Ex108, st108⟩ := own_newA XJ7 hx hZ (own_u hw 0 rfl) EJ7 (pc := 88) (Ls := #[.val (.int p0), .val (.int p1), .val (.int p2), .val (.int p3), .val (.int zj2), .val (.int zj4), .val (.int zj6), .val (.int zj8), .val (.int vg9), .unset, .unset, .unset, .unset, .unset, .unset, .unset, .unset]) (rest := []) (hb hby at_88) (n := (2 : Int32)) (by decide) (cap := 2) (by decide) (by decide) (by decide) (by decide) 2 rfl
              refine own_via st108 ?_
              have f111 := i_S1.ext E108
              have f112 := i_S2.ext E108
              have f113 := i_E1.ext E108
              have f114 := i_E2.ext E108
              have f115 : Arv Z h108 b108 k108 .int (2 : Int32) [(.int (0 : Int32)), (.int (0 : Int32))] (.int (0 : Int32)) := V108
              have f116 : Exa Z h108 b108 "[I" := Ex108
              have g_b108 : n0 ≤ b108 := Nat.le_trans Z0 (Nat.le_of_eq ga108.symm)
              have Wk117 : 0 ≤ h108.size := Nat.le_trans W0 E108.1
              have Zs118 : n0 ≤ h108.size := Nat.le_trans Z0 E108.1
              show own_H T108 90 #[.val (.int p0), .val (.int p1), .val (.int p2), .val (.int p3), .val (.int zj2), .val (.int zj4), .val (.int zj6), .val (.int zj8), .val (.int vg9), .unset, .unset, .unset, .unset, .unset, .unset, .unset, .unset] [(.ref b108)]
              clear i_S1 i_S2 i_E1 i_E2 W0
              refine own_via (fun t k => XS.dup X108.here hx rfl (hb hby at_90) rfl rfl k) ?_
              refine own_via (fun t k => XS.iconst X108.here hx rfl (hb hby at_91) k) ?_
              refine own_via (fun t k => XS.iload X108.here hx rfl (hb hby at_92) rfl k) ?_
              show own_H T108 94 #[.val (.int p0), .val (.int p1), .val (.int p2), .val (.int p3), .val (.int zj2), .val (.int zj4), .val (.int zj6), .val (.int zj8), .val (.int vg9), .unset, .unset, .unset, .unset, .unset, .unset, .unset, .unset] [(.int zj2), (.int (0 : Int32)), (.ref b108), (.ref b108)]
              obtain ⟨T119, h119, L119, X119, N119, e119, W119, V119, st119⟩ := own_stI X108 N0 hx hZ e108 f115 g_b108 (j := (0 : Int32)) (x := zj2) (i := 0) ⟨by decide, by decide⟩ rfl (Nat.le_of_ble_eq_true rfl) (pc := 94) (Ls := #[.val (.int p0), .val (.int p1), .val (.int p2), .val (.int p3), .val (.int zj2), .val (.int zj4), .val (.int zj6), .val (.int zj8), .val (.int vg9), .unset, .unset, .unset, .unset, .unset, .unset, .unset, .unset]) (rest := [(.ref b108)]) (hb hby at_94)
              refine own_via st119 ?_
              have f120 := f111.wr W119
              have f121 := f112.wr W119
              have f122 := f113.wr W119
              have f123 := f114.wr W119
              have f124 := f116.wr W119
              have f125 : Arv Z h119 b108 k108 .int (2 : Int32) [(.int zj2), (.int (0 : Int32))] (.int (0 : Int32)) := V119
              have Wk126 : 0 ≤ h119.size := by rw [W119.size]; exact Wk117
              have Zs127 : n0 ≤ h119.size := by rw [W119.size]; exact Zs118
              show own_H T119 95 #[.val (.int p0), .val (.int p1), .val (.int p2), .val (.int p3), .val (.int zj2), .val (.int zj4), .val (.int zj6), .val (.int zj8), .val (.int vg9), .unset, .unset, .unset, .unset, .unset, .unset, .unset, .unset] [(.ref b108)]
              clear f111 f112 f113 f114 f115 f116 Zs118 Wk117
              refine own_via (fun t k => XS.dup X119.here hx rfl (hb hby at_95) rfl rfl k) ?_
              refine own_via (fun t k => XS.iconst X119.here hx rfl (hb hby at_96) k) ?_
              refine own_via (fun t k => XS.iload X119.here hx rfl (hb hby at_97) rfl k) ?_
              show own_H T119 99 #[.val (.int p0), .val (.int p1), .val (.int p2), .val (.int p3), .val (.int zj2), .val (.int zj4), .val (.int zj6), .val (.int zj8), .val (.int vg9), .unset, .unset, .unset, .unset, .unset, .unset, .unset, .unset] [(.int zj4), (.int (1 : Int32)), (.ref b108), (.ref b108)]
              obtain ⟨T128, h128, L128, X128, N128, e128, W128, V128, st128⟩ := own_stI X119 N119 hx hZ e119 f125 g_b108 (j := (1 : Int32)) (x := zj4) (i := 1) ⟨by decide, by decide⟩ rfl (Nat.le_of_ble_eq_true rfl) (pc := 99) (Ls := #[.val (.int p0), .val (.int p1), .val (.int p2), .val (.int p3), .val (.int zj2), .val (.int zj4), .val (.int zj6), .val (.int zj8), .val (.int vg9), .unset, .unset, .unset, .unset, .unset, .unset, .unset, .unset]) (rest := [(.ref b108)]) (hb hby at_99)
              refine own_via st128 ?_
              have f129 := f120.wr W128
              have f130 := f121.wr W128
              have f131 := f122.wr W128
              have f132 := f123.wr W128
              have f133 := f124.wr W128
              have f134 : Arv Z h128 b108 k108 .int (2 : Int32) [(.int zj2), (.int zj4)] (.int (0 : Int32)) := V128
              have Wk135 : 0 ≤ h128.size := by rw [W128.size]; exact Wk126
              have Zs136 : n0 ≤ h128.size := by rw [W128.size]; exact Zs127
              show own_H T128 100 #[.val (.int p0), .val (.int p1), .val (.int p2), .val (.int p3), .val (.int zj2), .val (.int zj4), .val (.int zj6), .val (.int zj8), .val (.int vg9), .unset, .unset, .unset, .unset, .unset, .unset, .unset, .unset] [(.ref b108)]
              clear f120 f121 f122 f123 f124 f125 Zs127 Wk126
              refine own_via (fun t k => XS.astore X128.here hx rfl (hb hby at_100) rfl rfl (l' := #[.val (.int p0), .val (.int p1), .val (.int p2), .val (.int p3), .val (.int zj2), .val (.int zj4), .val (.int zj6), .val (.int zj8), .val (.int vg9), .val (.ref b108), .unset, .unset, .unset, .unset, .unset, .unset, .unset]) rfl k) ?_
              show own_H T128 102 #[.val (.int p0), .val (.int p1), .val (.int p2), .val (.int p3), .val (.int zj2), .val (.int zj4), .val (.int zj6), .val (.int zj8), .val (.int vg9), .val (.ref b108), .unset, .unset, .unset, .unset, .unset, .unset, .unset] []
              refine own_via (fun t k => XS.goto X128.here hx rfl (pc0 := 102) (pc' := 159) rfl (hb hby at_102) (by decide) (by decide) k) ?_
              show own_H T128 159 #[.val (.int p0), .val (.int p1), .val (.int p2), .val (.int p3), .val (.int zj2), .val (.int zj4), .val (.int zj6), .val (.int zj8), .val (.int vg9), .val (.ref b108), .unset, .unset, .unset, .unset, .unset, .unset, .unset] []
              exact J10 [zj2, zj4] (own_FB2 zj2 zj4) (2 : Int32) (3 : Int32) b108 k108 _ _ _ (X128.mono (Nat.le_refl _) (by decide)) N128 e128 Zs136 Wk135 f129 f130 f131 f132 f134 f133 ⟨(Or.inr (Or.inl ⟨_, _, rfl, rfl, rfl, rfl⟩)), hc107⟩
            ·
              refine own_via (fun t k => XS.icmpYes XJ7.here hx rfl (pc0 := 84) (pc' := 105) rfl (hb hby at_84) rfl (feq hc107).2 (by decide) (by decide) k) ?_
              show own_H TJ7 105 #[.val (.int p0), .val (.int p1), .val (.int p2), .val (.int p3), .val (.int zj2), .val (.int zj4), .val (.int zj6), .val (.int zj8), .val (.int vg9), .unset, .unset, .unset, .unset, .unset, .unset, .unset, .unset] []
              refine own_via (fun t k => XS.iload XJ7.here hx rfl (hb hby at_105) rfl k) ?_
              refine own_via (fun t k => XS.iconst XJ7.here hx rfl (hb hby at_107) k) ?_
              show own_H TJ7 108 #[.val (.int p0), .val (.int p1), .val (.int p2), .val (.int p3), .val (.int zj2), .val (.int zj4), .val (.int zj6), .val (.int zj8), .val (.int vg9), .unset, .unset, .unset, .unset, .unset, .unset, .unset, .unset] [(.int (3 : Int32)), (.int vg9)]
              by_cases hc137 : vg9 = (3 : Int32)
              ·
                refine own_via (fun t k => XS.icmpNo XJ7.here hx rfl (hb hby at_108) rfl (teq hc137).2 k) ?_
                show own_H TJ7 111 #[.val (.int p0), .val (.int p1), .val (.int p2), .val (.int p3), .val (.int zj2), .val (.int zj4), .val (.int zj6), .val (.int zj8), .val (.int vg9), .unset, .unset, .unset, .unset, .unset, .unset, .unset, .unset] []
                refine own_via (fun t k => XS.iconst XJ7.here hx rfl (hb hby at_111) k) ?_
                show own_H TJ7 112 #[.val (.int p0), .val (.int p1), .val (.int p2), .val (.int p3), .val (.int zj2), .val (.int zj4), .val (.int zj6), .val (.int zj8), .val (.int vg9), .unset, .unset, .unset, .unset, .unset, .unset, .unset, .unset] [(.int (3 : Int32))]
                obtain ⟨T138, h138, k138, b138, X138, e138, E138, ga138, V138, Ex138, st138⟩ := own_newA XJ7 hx hZ (own_u hw 0 rfl) EJ7 (pc := 112) (Ls := #[.val (.int p0), .val (.int p1), .val (.int p2), .val (.int p3), .val (.int zj2), .val (.int zj4), .val (.int zj6), .val (.int zj8), .val (.int vg9), .unset, .unset, .unset, .unset, .unset, .unset, .unset, .unset]) (rest := []) (hb hby at_112) (n := (3 : Int32)) (by decide) (cap := 3) (by decide) (by decide) (by decide) (by decide) 3 rfl
                refine own_via st138 ?_
                have f141 := i_S1.ext E138
                have f142 := i_S2.ext E138
                have f143 := i_E1.ext E138
                have f144 := i_E2.ext E138
                have f145 : Arv Z h138 b138 k138 .int (3 : Int32) [(.int (0 : Int32)), (.int (0 : Int32)), (.int (0 : Int32))] (.int (0 : Int32)) := V138
                have f146 : Exa Z h138 b138 "[I" := Ex138
                have g_b138 : n0 ≤ b138 := Nat.le_trans Z0 (Nat.le_of_eq ga138.symm)
                have Wk147 : 0 ≤ h138.size := Nat.le_trans W0 E138.1
                have Zs148 : n0 ≤ h138.size := Nat.le_trans Z0 E138.1
                show own_H T138 114 #[.val (.int p0), .val (.int p1), .val (.int p2), .val (.int p3), .val (.int zj2), .val (.int zj4), .val (.int zj6), .val (.int zj8), .val (.int vg9), .unset, .unset, .unset, .unset, .unset, .unset, .unset, .unset] [(.ref b138)]
                clear i_S1 i_S2 i_E1 i_E2 W0
                refine own_via (fun t k => XS.dup X138.here hx rfl (hb hby at_114) rfl rfl k) ?_
                refine own_via (fun t k => XS.iconst X138.here hx rfl (hb hby at_115) k) ?_
                refine own_via (fun t k => XS.iload X138.here hx rfl (hb hby at_116) rfl k) ?_
                show own_H T138 118 #[.val (.int p0), .val (.int p1), .val (.int p2), .val (.int p3), .val (.int zj2), .val (.int zj4), .val (.int zj6), .val (.int zj8), .val (.int vg9), .unset, .unset, .unset, .unset, .unset, .unset, .unset, .unset] [(.int zj2), (.int (0 : Int32)), (.ref b138), (.ref b138)]
                obtain ⟨T149, h149, L149, X149, N149, e149, W149, V149, st149⟩ := own_stI X138 N0 hx hZ e138 f145 g_b138 (j := (0 : Int32)) (x := zj2) (i := 0) ⟨by decide, by decide⟩ rfl (Nat.le_of_ble_eq_true rfl) (pc := 118) (Ls := #[.val (.int p0), .val (.int p1), .val (.int p2), .val (.int p3), .val (.int zj2), .val (.int zj4), .val (.int zj6), .val (.int zj8), .val (.int vg9), .unset, .unset, .unset, .unset, .unset, .unset, .unset, .unset]) (rest := [(.ref b138)]) (hb hby at_118)
                refine own_via st149 ?_
                have f150 := f141.wr W149
                have f151 := f142.wr W149
                have f152 := f143.wr W149
                have f153 := f144.wr W149
                have f154 := f146.wr W149
                have f155 : Arv Z h149 b138 k138 .int (3 : Int32) [(.int zj2), (.int (0 : Int32)), (.int (0 : Int32))] (.int (0 : Int32)) := V149
                have Wk156 : 0 ≤ h149.size := by rw [W149.size]; exact Wk147
                have Zs157 : n0 ≤ h149.size := by rw [W149.size]; exact Zs148
                show own_H T149 119 #[.val (.int p0), .val (.int p1), .val (.int p2), .val (.int p3), .val (.int zj2), .val (.int zj4), .val (.int zj6), .val (.int zj8), .val (.int vg9), .unset, .unset, .unset, .unset, .unset, .unset, .unset, .unset] [(.ref b138)]
                clear f141 f142 f143 f144 f145 f146 Zs148 Wk147
                refine own_via (fun t k => XS.dup X149.here hx rfl (hb hby at_119) rfl rfl k) ?_
                refine own_via (fun t k => XS.iconst X149.here hx rfl (hb hby at_120) k) ?_
                refine own_via (fun t k => XS.iload X149.here hx rfl (hb hby at_121) rfl k) ?_
                show own_H T149 123 #[.val (.int p0), .val (.int p1), .val (.int p2), .val (.int p3), .val (.int zj2), .val (.int zj4), .val (.int zj6), .val (.int zj8), .val (.int vg9), .unset, .unset, .unset, .unset, .unset, .unset, .unset, .unset] [(.int zj4), (.int (1 : Int32)), (.ref b138), (.ref b138)]
                obtain ⟨T158, h158, L158, X158, N158, e158, W158, V158, st158⟩ := own_stI X149 N149 hx hZ e149 f155 g_b138 (j := (1 : Int32)) (x := zj4) (i := 1) ⟨by decide, by decide⟩ rfl (Nat.le_of_ble_eq_true rfl) (pc := 123) (Ls := #[.val (.int p0), .val (.int p1), .val (.int p2), .val (.int p3), .val (.int zj2), .val (.int zj4), .val (.int zj6), .val (.int zj8), .val (.int vg9), .unset, .unset, .unset, .unset, .unset, .unset, .unset, .unset]) (rest := [(.ref b138)]) (hb hby at_123)
                refine own_via st158 ?_
                have f159 := f150.wr W158
                have f160 := f151.wr W158
                have f161 := f152.wr W158
                have f162 := f153.wr W158
                have f163 := f154.wr W158
                have f164 : Arv Z h158 b138 k138 .int (3 : Int32) [(.int zj2), (.int zj4), (.int (0 : Int32))] (.int (0 : Int32)) := V158
                have Wk165 : 0 ≤ h158.size := by rw [W158.size]; exact Wk156
                have Zs166 : n0 ≤ h158.size := by rw [W158.size]; exact Zs157
                show own_H T158 124 #[.val (.int p0), .val (.int p1), .val (.int p2), .val (.int p3), .val (.int zj2), .val (.int zj4), .val (.int zj6), .val (.int zj8), .val (.int vg9), .unset, .unset, .unset, .unset, .unset, .unset, .unset, .unset] [(.ref b138)]
                clear f150 f151 f152 f153 f154 f155 Zs157 Wk156
                refine own_via (fun t k => XS.dup X158.here hx rfl (hb hby at_124) rfl rfl k) ?_
                refine own_via (fun t k => XS.iconst X158.here hx rfl (hb hby at_125) k) ?_
                refine own_via (fun t k => XS.iload X158.here hx rfl (hb hby at_126) rfl k) ?_
                show own_H T158 128 #[.val (.int p0), .val (.int p1), .val (.int p2), .val (.int p3), .val (.int zj2), .val (.int zj4), .val (.int zj6), .val (.int zj8), .val (.int vg9), .unset, .unset, .unset, .unset, .unset, .unset, .unset, .unset] [(.int zj6), (.int (2 : Int32)), (.ref b138), (.ref b138)]
                obtain ⟨T167, h167, L167, X167, N167, e167, W167, V167, st167⟩ := own_stI X158 N158 hx hZ e158 f164 g_b138 (j := (2 : Int32)) (x := zj6) (i := 2) ⟨by decide, by decide⟩ rfl (Nat.le_of_ble_eq_true rfl) (pc := 128) (Ls := #[.val (.int p0), .val (.int p1), .val (.int p2), .val (.int p3), .val (.int zj2), .val (.int zj4), .val (.int zj6), .val (.int zj8), .val (.int vg9), .unset, .unset, .unset, .unset, .unset, .unset, .unset, .unset]) (rest := [(.ref b138)]) (hb hby at_128)
                refine own_via st167 ?_
                have f168 := f159.wr W167
                have f169 := f160.wr W167
                have f170 := f161.wr W167
                have f171 := f162.wr W167
                have f172 := f163.wr W167
                have f173 : Arv Z h167 b138 k138 .int (3 : Int32) [(.int zj2), (.int zj4), (.int zj6)] (.int (0 : Int32)) := V167
                have Wk174 : 0 ≤ h167.size := by rw [W167.size]; exact Wk165
                have Zs175 : n0 ≤ h167.size := by rw [W167.size]; exact Zs166
                show own_H T167 129 #[.val (.int p0), .val (.int p1), .val (.int p2), .val (.int p3), .val (.int zj2), .val (.int zj4), .val (.int zj6), .val (.int zj8), .val (.int vg9), .unset, .unset, .unset, .unset, .unset, .unset, .unset, .unset] [(.ref b138)]
                clear f159 f160 f161 f162 f163 f164 Zs166 Wk165
                refine own_via (fun t k => XS.astore X167.here hx rfl (hb hby at_129) rfl rfl (l' := #[.val (.int p0), .val (.int p1), .val (.int p2), .val (.int p3), .val (.int zj2), .val (.int zj4), .val (.int zj6), .val (.int zj8), .val (.int vg9), .val (.ref b138), .unset, .unset, .unset, .unset, .unset, .unset, .unset]) rfl k) ?_
                show own_H T167 131 #[.val (.int p0), .val (.int p1), .val (.int p2), .val (.int p3), .val (.int zj2), .val (.int zj4), .val (.int zj6), .val (.int zj8), .val (.int vg9), .val (.ref b138), .unset, .unset, .unset, .unset, .unset, .unset, .unset] []
                refine own_via (fun t k => XS.goto X167.here hx rfl (pc0 := 131) (pc' := 159) rfl (hb hby at_131) (by decide) (by decide) k) ?_
                show own_H T167 159 #[.val (.int p0), .val (.int p1), .val (.int p2), .val (.int p3), .val (.int zj2), .val (.int zj4), .val (.int zj6), .val (.int zj8), .val (.int vg9), .val (.ref b138), .unset, .unset, .unset, .unset, .unset, .unset, .unset] []
                exact J10 [zj2, zj4, zj6] (own_FB3 zj2 zj4 zj6) (3 : Int32) (4 : Int32) b138 k138 _ _ _ (X167.mono (Nat.le_refl _) (by decide)) N167 e167 Zs175 Wk174 f168 f169 f170 f171 f173 f172 ⟨(Or.inr (Or.inr (Or.inl ⟨_, _, _, rfl, rfl, rfl, rfl⟩))), hc137⟩
              ·
                refine own_via (fun t k => XS.icmpYes XJ7.here hx rfl (pc0 := 108) (pc' := 134) rfl (hb hby at_108) rfl (feq hc137).2 (by decide) (by decide) k) ?_
                show own_H TJ7 134 #[.val (.int p0), .val (.int p1), .val (.int p2), .val (.int p3), .val (.int zj2), .val (.int zj4), .val (.int zj6), .val (.int zj8), .val (.int vg9), .unset, .unset, .unset, .unset, .unset, .unset, .unset, .unset] []
                refine own_via (fun t k => XS.iconst XJ7.here hx rfl (hb hby at_134) k) ?_
                show own_H TJ7 135 #[.val (.int p0), .val (.int p1), .val (.int p2), .val (.int p3), .val (.int zj2), .val (.int zj4), .val (.int zj6), .val (.int zj8), .val (.int vg9), .unset, .unset, .unset, .unset, .unset, .unset, .unset, .unset] [(.int (4 : Int32))]
                obtain ⟨T176, h176, k176, b176, X176, e176, E176, ga176, V176, Ex176, st176⟩ := own_newA XJ7 hx hZ (own_u hw 0 rfl) EJ7 (pc := 135) (Ls := #[.val (.int p0), .val (.int p1), .val (.int p2), .val (.int p3), .val (.int zj2), .val (.int zj4), .val (.int zj6), .val (.int zj8), .val (.int vg9), .unset, .unset, .unset, .unset, .unset, .unset, .unset, .unset]) (rest := []) (hb hby at_135) (n := (4 : Int32)) (by decide) (cap := 4) (by decide) (by decide) (by decide) (by decide) 4 rfl
                refine own_via st176 ?_
                have f179 := i_S1.ext E176
                have f180 := i_S2.ext E176
                have f181 := i_E1.ext E176
                have f182 := i_E2.ext E176
                have f183 : Arv Z h176 b176 k176 .int (4 : Int32) [(.int (0 : Int32)), (.int (0 : Int32)), (.int (0 : Int32)), (.int (0 : Int32))] (.int (0 : Int32)) := V176
                have f184 : Exa Z h176 b176 "[I" := Ex176
                have g_b176 : n0 ≤ b176 := Nat.le_trans Z0 (Nat.le_of_eq ga176.symm)
                have Wk185 : 0 ≤ h176.size := Nat.le_trans W0 E176.1
                have Zs186 : n0 ≤ h176.size := Nat.le_trans Z0 E176.1
                show own_H T176 137 #[.val (.int p0), .val (.int p1), .val (.int p2), .val (.int p3), .val (.int zj2), .val (.int zj4), .val (.int zj6), .val (.int zj8), .val (.int vg9), .unset, .unset, .unset, .unset, .unset, .unset, .unset, .unset] [(.ref b176)]
                clear i_S1 i_S2 i_E1 i_E2 W0
                refine own_via (fun t k => XS.dup X176.here hx rfl (hb hby at_137) rfl rfl k) ?_
                refine own_via (fun t k => XS.iconst X176.here hx rfl (hb hby at_138) k) ?_
                refine own_via (fun t k => XS.iload X176.here hx rfl (hb hby at_139) rfl k) ?_
                show own_H T176 141 #[.val (.int p0), .val (.int p1), .val (.int p2), .val (.int p3), .val (.int zj2), .val (.int zj4), .val (.int zj6), .val (.int zj8), .val (.int vg9), .unset, .unset, .unset, .unset, .unset, .unset, .unset, .unset] [(.int zj2), (.int (0 : Int32)), (.ref b176), (.ref b176)]
                obtain ⟨T187, h187, L187, X187, N187, e187, W187, V187, st187⟩ := own_stI X176 N0 hx hZ e176 f183 g_b176 (j := (0 : Int32)) (x := zj2) (i := 0) ⟨by decide, by decide⟩ rfl (Nat.le_of_ble_eq_true rfl) (pc := 141) (Ls := #[.val (.int p0), .val (.int p1), .val (.int p2), .val (.int p3), .val (.int zj2), .val (.int zj4), .val (.int zj6), .val (.int zj8), .val (.int vg9), .unset, .unset, .unset, .unset, .unset, .unset, .unset, .unset]) (rest := [(.ref b176)]) (hb hby at_141)
                refine own_via st187 ?_
                have f188 := f179.wr W187
                have f189 := f180.wr W187
                have f190 := f181.wr W187
                have f191 := f182.wr W187
                have f192 := f184.wr W187
                have f193 : Arv Z h187 b176 k176 .int (4 : Int32) [(.int zj2), (.int (0 : Int32)), (.int (0 : Int32)), (.int (0 : Int32))] (.int (0 : Int32)) := V187
                have Wk194 : 0 ≤ h187.size := by rw [W187.size]; exact Wk185
                have Zs195 : n0 ≤ h187.size := by rw [W187.size]; exact Zs186
                show own_H T187 142 #[.val (.int p0), .val (.int p1), .val (.int p2), .val (.int p3), .val (.int zj2), .val (.int zj4), .val (.int zj6), .val (.int zj8), .val (.int vg9), .unset, .unset, .unset, .unset, .unset, .unset, .unset, .unset] [(.ref b176)]
                clear f179 f180 f181 f182 f183 f184 Zs186 Wk185
                refine own_via (fun t k => XS.dup X187.here hx rfl (hb hby at_142) rfl rfl k) ?_
                refine own_via (fun t k => XS.iconst X187.here hx rfl (hb hby at_143) k) ?_
                refine own_via (fun t k => XS.iload X187.here hx rfl (hb hby at_144) rfl k) ?_
                show own_H T187 146 #[.val (.int p0), .val (.int p1), .val (.int p2), .val (.int p3), .val (.int zj2), .val (.int zj4), .val (.int zj6), .val (.int zj8), .val (.int vg9), .unset, .unset, .unset, .unset, .unset, .unset, .unset, .unset] [(.int zj4), (.int (1 : Int32)), (.ref b176), (.ref b176)]
                obtain ⟨T196, h196, L196, X196, N196, e196, W196, V196, st196⟩ := own_stI X187 N187 hx hZ e187 f193 g_b176 (j := (1 : Int32)) (x := zj4) (i := 1) ⟨by decide, by decide⟩ rfl (Nat.le_of_ble_eq_true rfl) (pc := 146) (Ls := #[.val (.int p0), .val (.int p1), .val (.int p2), .val (.int p3), .val (.int zj2), .val (.int zj4), .val (.int zj6), .val (.int zj8), .val (.int vg9), .unset, .unset, .unset, .unset, .unset, .unset, .unset, .unset]) (rest := [(.ref b176)]) (hb hby at_146)
                refine own_via st196 ?_
                have f197 := f188.wr W196
                have f198 := f189.wr W196
                have f199 := f190.wr W196
                have f200 := f191.wr W196
                have f201 := f192.wr W196
                have f202 : Arv Z h196 b176 k176 .int (4 : Int32) [(.int zj2), (.int zj4), (.int (0 : Int32)), (.int (0 : Int32))] (.int (0 : Int32)) := V196
                have Wk203 : 0 ≤ h196.size := by rw [W196.size]; exact Wk194
                have Zs204 : n0 ≤ h196.size := by rw [W196.size]; exact Zs195
                show own_H T196 147 #[.val (.int p0), .val (.int p1), .val (.int p2), .val (.int p3), .val (.int zj2), .val (.int zj4), .val (.int zj6), .val (.int zj8), .val (.int vg9), .unset, .unset, .unset, .unset, .unset, .unset, .unset, .unset] [(.ref b176)]
                clear f188 f189 f190 f191 f192 f193 Zs195 Wk194
                refine own_via (fun t k => XS.dup X196.here hx rfl (hb hby at_147) rfl rfl k) ?_
                refine own_via (fun t k => XS.iconst X196.here hx rfl (hb hby at_148) k) ?_
                refine own_via (fun t k => XS.iload X196.here hx rfl (hb hby at_149) rfl k) ?_
                show own_H T196 151 #[.val (.int p0), .val (.int p1), .val (.int p2), .val (.int p3), .val (.int zj2), .val (.int zj4), .val (.int zj6), .val (.int zj8), .val (.int vg9), .unset, .unset, .unset, .unset, .unset, .unset, .unset, .unset] [(.int zj6), (.int (2 : Int32)), (.ref b176), (.ref b176)]
                obtain ⟨T205, h205, L205, X205, N205, e205, W205, V205, st205⟩ := own_stI X196 N196 hx hZ e196 f202 g_b176 (j := (2 : Int32)) (x := zj6) (i := 2) ⟨by decide, by decide⟩ rfl (Nat.le_of_ble_eq_true rfl) (pc := 151) (Ls := #[.val (.int p0), .val (.int p1), .val (.int p2), .val (.int p3), .val (.int zj2), .val (.int zj4), .val (.int zj6), .val (.int zj8), .val (.int vg9), .unset, .unset, .unset, .unset, .unset, .unset, .unset, .unset]) (rest := [(.ref b176)]) (hb hby at_151)
                refine own_via st205 ?_
                have f206 := f197.wr W205
                have f207 := f198.wr W205
                have f208 := f199.wr W205
                have f209 := f200.wr W205
                have f210 := f201.wr W205
                have f211 : Arv Z h205 b176 k176 .int (4 : Int32) [(.int zj2), (.int zj4), (.int zj6), (.int (0 : Int32))] (.int (0 : Int32)) := V205
                have Wk212 : 0 ≤ h205.size := by rw [W205.size]; exact Wk203
                have Zs213 : n0 ≤ h205.size := by rw [W205.size]; exact Zs204
                show own_H T205 152 #[.val (.int p0), .val (.int p1), .val (.int p2), .val (.int p3), .val (.int zj2), .val (.int zj4), .val (.int zj6), .val (.int zj8), .val (.int vg9), .unset, .unset, .unset, .unset, .unset, .unset, .unset, .unset] [(.ref b176)]
                clear f197 f198 f199 f200 f201 f202 Zs204 Wk203
                refine own_via (fun t k => XS.dup X205.here hx rfl (hb hby at_152) rfl rfl k) ?_
                refine own_via (fun t k => XS.iconst X205.here hx rfl (hb hby at_153) k) ?_
                refine own_via (fun t k => XS.iload X205.here hx rfl (hb hby at_154) rfl k) ?_
                show own_H T205 156 #[.val (.int p0), .val (.int p1), .val (.int p2), .val (.int p3), .val (.int zj2), .val (.int zj4), .val (.int zj6), .val (.int zj8), .val (.int vg9), .unset, .unset, .unset, .unset, .unset, .unset, .unset, .unset] [(.int zj8), (.int (3 : Int32)), (.ref b176), (.ref b176)]
                obtain ⟨T214, h214, L214, X214, N214, e214, W214, V214, st214⟩ := own_stI X205 N205 hx hZ e205 f211 g_b176 (j := (3 : Int32)) (x := zj8) (i := 3) ⟨by decide, by decide⟩ rfl (Nat.le_of_ble_eq_true rfl) (pc := 156) (Ls := #[.val (.int p0), .val (.int p1), .val (.int p2), .val (.int p3), .val (.int zj2), .val (.int zj4), .val (.int zj6), .val (.int zj8), .val (.int vg9), .unset, .unset, .unset, .unset, .unset, .unset, .unset, .unset]) (rest := [(.ref b176)]) (hb hby at_156)
                refine own_via st214 ?_
                have f215 := f206.wr W214
                have f216 := f207.wr W214
                have f217 := f208.wr W214
                have f218 := f209.wr W214
                have f219 := f210.wr W214
                have f220 : Arv Z h214 b176 k176 .int (4 : Int32) [(.int zj2), (.int zj4), (.int zj6), (.int zj8)] (.int (0 : Int32)) := V214
                have Wk221 : 0 ≤ h214.size := by rw [W214.size]; exact Wk212
                have Zs222 : n0 ≤ h214.size := by rw [W214.size]; exact Zs213
                show own_H T214 157 #[.val (.int p0), .val (.int p1), .val (.int p2), .val (.int p3), .val (.int zj2), .val (.int zj4), .val (.int zj6), .val (.int zj8), .val (.int vg9), .unset, .unset, .unset, .unset, .unset, .unset, .unset, .unset] [(.ref b176)]
                clear f206 f207 f208 f209 f210 f211 Zs213 Wk212
                refine own_via (fun t k => XS.astore X214.here hx rfl (hb hby at_157) rfl rfl (l' := #[.val (.int p0), .val (.int p1), .val (.int p2), .val (.int p3), .val (.int zj2), .val (.int zj4), .val (.int zj6), .val (.int zj8), .val (.int vg9), .val (.ref b176), .unset, .unset, .unset, .unset, .unset, .unset, .unset]) rfl k) ?_
                show own_H T214 159 #[.val (.int p0), .val (.int p1), .val (.int p2), .val (.int p3), .val (.int zj2), .val (.int zj4), .val (.int zj6), .val (.int zj8), .val (.int vg9), .val (.ref b176), .unset, .unset, .unset, .unset, .unset, .unset, .unset] []
                exact J10 [zj2, zj4, zj6, zj8] (own_FB4 zj2 zj4 zj6 zj8) (4 : Int32) (5 : Int32) b176 k176 _ _ _ (X214.mono (Nat.le_refl _) (by decide)) N214 e214 Zs222 Wk221 f215 f216 f217 f218 f220 f219 ⟨(Or.inr (Or.inr (Or.inr ⟨_, _, _, _, rfl, rfl, rfl, rfl⟩))), (own_n4 (own_n hvg9) hc86 hc107 hc137)⟩
        by_cases hc223 : (p3 &&& (8 : Int32)) = (0 : Int32)
        ·
          refine own_via (fun t k => XS.ifNo XJ5.here hx rfl (hb hby at_43) rfl ((if0 _ _).trans (teq hc223).2) k) ?_
          show own_H TJ5 46 #[.val (.int p0), .val (.int p1), .val (.int p2), .val (.int p3), .val (.int zj2), .val (.int zj4), .val (.int zj6), .unset, .unset, .unset, .unset, .unset, .unset, .unset, .unset, .unset, .unset] []
          refine own_via (fun t k => XS.iloadN XJ5.here hx rfl (hb hby at_46) rfl k) ?_
          show own_H TJ5 47 #[.val (.int p0), .val (.int p1), .val (.int p2), .val (.int p3), .val (.int zj2), .val (.int zj4), .val (.int zj6), .unset, .unset, .unset, .unset, .unset, .unset, .unset, .unset, .unset, .unset] [(.int p0)]
          refine own_via (fun t k => XS.goto XJ5.here hx rfl (pc0 := 47) (pc' := 51) rfl (hb hby at_47) (by decide) (by decide) k) ?_
          show own_H TJ5 51 #[.val (.int p0), .val (.int p1), .val (.int p2), .val (.int p3), .val (.int zj2), .val (.int zj4), .val (.int zj6), .unset, .unset, .unset, .unset, .unset, .unset, .unset, .unset, .unset, .unset] [(.int p0)]
          exact J7 _ XJ5 EJ5 _ (by simp only [if_pos hc223])
        ·
          refine own_via (fun t k => XS.ifYes XJ5.here hx rfl (pc0 := 43) (pc' := 50) rfl (hb hby at_43) rfl ((if0 _ _).trans (feq hc223).2) (by decide) (by decide) k) ?_
          show own_H TJ5 50 #[.val (.int p0), .val (.int p1), .val (.int p2), .val (.int p3), .val (.int zj2), .val (.int zj4), .val (.int zj6), .unset, .unset, .unset, .unset, .unset, .unset, .unset, .unset, .unset, .unset] []
          refine own_via (fun t k => XS.iloadN XJ5.here hx rfl (hb hby at_50) rfl k) ?_
          show own_H TJ5 51 #[.val (.int p0), .val (.int p1), .val (.int p2), .val (.int p3), .val (.int zj2), .val (.int zj4), .val (.int zj6), .unset, .unset, .unset, .unset, .unset, .unset, .unset, .unset, .unset, .unset] [(.int p1)]
          exact J7 _ XJ5 EJ5 _ (by simp only [if_neg hc223])
      by_cases hc224 : (p3 &&& (4 : Int32)) = (0 : Int32)
      ·
        refine own_via (fun t k => XS.ifNo XJ3.here hx rfl (hb hby at_29) rfl ((if0 _ _).trans (teq hc224).2) k) ?_
        show own_H TJ3 32 #[.val (.int p0), .val (.int p1), .val (.int p2), .val (.int p3), .val (.int zj2), .val (.int zj4), .unset, .unset, .unset, .unset, .unset, .unset, .unset, .unset, .unset, .unset, .unset] []
        refine own_via (fun t k => XS.iloadN XJ3.here hx rfl (hb hby at_32) rfl k) ?_
        show own_H TJ3 33 #[.val (.int p0), .val (.int p1), .val (.int p2), .val (.int p3), .val (.int zj2), .val (.int zj4), .unset, .unset, .unset, .unset, .unset, .unset, .unset, .unset, .unset, .unset, .unset] [(.int p0)]
        refine own_via (fun t k => XS.goto XJ3.here hx rfl (pc0 := 33) (pc' := 37) rfl (hb hby at_33) (by decide) (by decide) k) ?_
        show own_H TJ3 37 #[.val (.int p0), .val (.int p1), .val (.int p2), .val (.int p3), .val (.int zj2), .val (.int zj4), .unset, .unset, .unset, .unset, .unset, .unset, .unset, .unset, .unset, .unset, .unset] [(.int p0)]
        exact J5 _ XJ3 EJ3 _ (by simp only [if_pos hc224])
      ·
        refine own_via (fun t k => XS.ifYes XJ3.here hx rfl (pc0 := 29) (pc' := 36) rfl (hb hby at_29) rfl ((if0 _ _).trans (feq hc224).2) (by decide) (by decide) k) ?_
        show own_H TJ3 36 #[.val (.int p0), .val (.int p1), .val (.int p2), .val (.int p3), .val (.int zj2), .val (.int zj4), .unset, .unset, .unset, .unset, .unset, .unset, .unset, .unset, .unset, .unset, .unset] []
        refine own_via (fun t k => XS.iloadN XJ3.here hx rfl (hb hby at_36) rfl k) ?_
        show own_H TJ3 37 #[.val (.int p0), .val (.int p1), .val (.int p2), .val (.int p3), .val (.int zj2), .val (.int zj4), .unset, .unset, .unset, .unset, .unset, .unset, .unset, .unset, .unset, .unset, .unset] [(.int p1)]
        exact J5 _ XJ3 EJ3 _ (by simp only [if_neg hc224])
    by_cases hc225 : (p3 &&& (2 : Int32)) = (0 : Int32)
    ·
      refine own_via (fun t k => XS.ifNo XJ1.here hx rfl (hb hby at_16) rfl ((if0 _ _).trans (teq hc225).2) k) ?_
      show own_H TJ1 19 #[.val (.int p0), .val (.int p1), .val (.int p2), .val (.int p3), .val (.int zj2), .unset, .unset, .unset, .unset, .unset, .unset, .unset, .unset, .unset, .unset, .unset, .unset] []
      refine own_via (fun t k => XS.iloadN XJ1.here hx rfl (hb hby at_19) rfl k) ?_
      show own_H TJ1 20 #[.val (.int p0), .val (.int p1), .val (.int p2), .val (.int p3), .val (.int zj2), .unset, .unset, .unset, .unset, .unset, .unset, .unset, .unset, .unset, .unset, .unset, .unset] [(.int p0)]
      refine own_via (fun t k => XS.goto XJ1.here hx rfl (pc0 := 20) (pc' := 24) rfl (hb hby at_20) (by decide) (by decide) k) ?_
      show own_H TJ1 24 #[.val (.int p0), .val (.int p1), .val (.int p2), .val (.int p3), .val (.int zj2), .unset, .unset, .unset, .unset, .unset, .unset, .unset, .unset, .unset, .unset, .unset, .unset] [(.int p0)]
      exact J3 _ XJ1 EJ1 _ (by simp only [if_pos hc225])
    ·
      refine own_via (fun t k => XS.ifYes XJ1.here hx rfl (pc0 := 16) (pc' := 23) rfl (hb hby at_16) rfl ((if0 _ _).trans (feq hc225).2) (by decide) (by decide) k) ?_
      show own_H TJ1 23 #[.val (.int p0), .val (.int p1), .val (.int p2), .val (.int p3), .val (.int zj2), .unset, .unset, .unset, .unset, .unset, .unset, .unset, .unset, .unset, .unset, .unset, .unset] []
      refine own_via (fun t k => XS.iloadN XJ1.here hx rfl (hb hby at_23) rfl k) ?_
      show own_H TJ1 24 #[.val (.int p0), .val (.int p1), .val (.int p2), .val (.int p3), .val (.int zj2), .unset, .unset, .unset, .unset, .unset, .unset, .unset, .unset, .unset, .unset, .unset, .unset] [(.int p1)]
      exact J3 _ XJ1 EJ1 _ (by simp only [if_neg hc225])
  by_cases hc226 : (p3 &&& (1 : Int32)) = (0 : Int32)
  ·
    refine own_via (fun t k => XS.ifNo X0.here hx rfl (hb hby at_3) rfl ((if0 _ _).trans (teq hc226).2) k) ?_
    show own_H s₁ 6 #[.val (.int p0), .val (.int p1), .val (.int p2), .val (.int p3), .unset, .unset, .unset, .unset, .unset, .unset, .unset, .unset, .unset, .unset, .unset, .unset, .unset] []
    refine own_via (fun t k => XS.iloadN X0.here hx rfl (hb hby at_6) rfl k) ?_
    show own_H s₁ 7 #[.val (.int p0), .val (.int p1), .val (.int p2), .val (.int p3), .unset, .unset, .unset, .unset, .unset, .unset, .unset, .unset, .unset, .unset, .unset, .unset, .unset] [(.int p0)]
    refine own_via (fun t k => XS.goto X0.here hx rfl (pc0 := 7) (pc' := 11) rfl (hb hby at_7) (by decide) (by decide) k) ?_
    show own_H s₁ 11 #[.val (.int p0), .val (.int p1), .val (.int p2), .val (.int p3), .unset, .unset, .unset, .unset, .unset, .unset, .unset, .unset, .unset, .unset, .unset, .unset, .unset] [(.int p0)]
    exact J1 _ X0 e0 _ (by simp only [if_pos hc226])
  ·
    refine own_via (fun t k => XS.ifYes X0.here hx rfl (pc0 := 3) (pc' := 10) rfl (hb hby at_3) rfl ((if0 _ _).trans (feq hc226).2) (by decide) (by decide) k) ?_
    show own_H s₁ 10 #[.val (.int p0), .val (.int p1), .val (.int p2), .val (.int p3), .unset, .unset, .unset, .unset, .unset, .unset, .unset, .unset, .unset, .unset, .unset, .unset, .unset] []
    refine own_via (fun t k => XS.iloadN X0.here hx rfl (hb hby at_10) rfl k) ?_
    show own_H s₁ 11 #[.val (.int p0), .val (.int p1), .val (.int p2), .val (.int p3), .unset, .unset, .unset, .unset, .unset, .unset, .unset, .unset, .unset, .unset, .unset, .unset, .unset] [(.int p1)]
    exact J1 _ X0 e0 _ (by simp only [if_neg hc226])
set_option maxRecDepth 65536 in
set_option maxHeartbeats 40000000 in
theorem comes_1 {Post : Tables → Env → Array Value → State → Outcome → State → Prop} (hpost : ∀ tb e args s v u, (limb_1_1.after args s (.returned v) u = true ∧ limb_1_2.after args s (.returned v) u = true) → ReturnedEndW s (.returned v) u (Jvm.fieldLocs frame_1_writes args s ++ Jvm.arrayLocs frame_1_arrays args s ++ Jvm.staticLocs frame_1_statics s) 32 3200 → Post tb e args s (.returned v) u) :
    ArmFor flags0 classFile x code maxLocals ret World_1 tables_1 room_1 Calls_1 rest_1 Pre_1 Post := by
  intro l hfl _ _ p e ha hc hk s m args below hf hA hF happ hP
  obtain ⟨hcalls, hrest, hpre⟩ := hP
  obtain ⟨-, -, -, hnamed, -, -, -, hat⟩ := (Spec.applies_iff hf).mp happ
  obtain ⟨hg, hn⟩ := and_e (Cond.before_iff.mp (show (Jvm.Cond.and given_1 narrow_1).before args s = true from hpre))
  obtain ⟨g1, g2⟩ := and_e hg
  obtain ⟨g3, g4⟩ := and_e g2
  obtain ⟨g5, g6⟩ := and_e g4
  obtain ⟨g7, g8⟩ := and_e g6
  obtain ⟨w0, w1, w2, w3, rfl⟩ : ∃ w0 w1 w2 w3 : Value, args = #[w0, w1, w2, w3] := by
    have hs : args.size = 4 := by simpa [Cond.value, given_1] using g1
    obtain ⟨L⟩ := args
    match L, hs with
    | [w0, w1, w2, w3], _ => exact ⟨w0, w1, w2, w3, rfl⟩
  have hw := fun d (hd : d ∈ tables_1) => atoms_spec (ws := Jvm.Cond.code x code maxLocals ret :: tables_1) hat d (List.mem_cons_of_mem _ hd)
  obtain ⟨i0, ei0⟩ := is_v g3
  obtain rfl : w0 = (.int i0) := Option.some.inj ei0
  obtain ⟨i1, ei1⟩ := is_v g5
  obtain rfl : w1 = (.int i1) := Option.some.inj ei1
  obtain ⟨i2, ei2⟩ := is_v g7
  obtain rfl : w2 = (.int i2) := Option.some.inj ei2
  obtain ⟨i3, ei3⟩ := is_v g8
  obtain rfl : w3 = (.int i3) := Option.some.inj ei3
  obtain ⟨hn1, hn2⟩ := and_e hn
  obtain ⟨x1, ev1⟩ := exa_v hn1
  obtain ⟨x2, ev2⟩ := exa_v hn2
  have S1 := Sta.start ev1 (Or.inr ⟨(own_u hw 2 rfl), (own_u hw 3 rfl)⟩)
  have S2 := Sta.start ev2 (Or.inr ⟨(own_u hw 2 rfl), (own_u hw 94 rfl)⟩)
  obtain ⟨n, o, h1, h2, h3, _, L, rfl, ⟨N, rfl⟩, hq⟩ := own_rm0 l s _ hw tables_1 i0 i1 i2 i3 x1 x2 s.heap s.heap.size (Nat.le_refl _) S1 S2 (Exa.start ev1 hn1) (Exa.start ev2 hn2) p e ha hc hk s m _ below hf ((Spec.applies_iff_loose hf).mp happ).1 ⟨rfl, State.Warmed39.refl s, rfl⟩ trivial
  refine ⟨n, _, h1, h2, h3, hpost _ _ _ _ _ _ ⟨Cond.after_iff.mpr rfl, Cond.after_iff.mpr (eq_i res_at (Term.int_eval (1)) rfl)⟩ ⟨hq.1, hq.2.1, hq.2.2.1, (hq.2.2.2.sift fun y hy => Or.inr (N y hy)).mono (by decide) (by decide)⟩⟩
theorem main_1_1 : Claimed_1_1 := comes_1 fun _ _ _ _ _ _ h hF => ⟨h.1, hF⟩
theorem main_1_2 : Claimed_1_2 := comes_1 fun _ _ _ _ _ _ h hF => ⟨h.2, hF⟩
end Jvm.Pilot.@@N@@
namespace Jvm.Pilot.@@N@@
open Jvm Jvm.ClassFile Sem Op Lib Jvm.Free Jvm.Stand Jvm.Pilot.@@N@@.Jvm.D
/-! MADE BY PROGRAM (witnessworld.py) out of the Statement's table words and the real class files: 26 classes; the members and pool entries that the words name. The judged class is class 1, her method 3. -/
namespace start1
open Jvm.ClassFile
def u (s : String) : CpInfo := .utf8 (stringToUtf16 s)
/-- a pool by its gaps: so many unusable entries, then the entry; so many at the end -/
def gap : Nat → List CpInfo → List CpInfo
  | 0, r => r
  | n + 1, r => .unusable :: gap n r
def poolList (es : List (Nat × CpInfo)) (last : Nat) : List CpInfo := es.foldr (fun e r => gap e.1 (e.2 :: r)) (gap last [])
def pool (es : List (Nat × CpInfo)) (last : Nat) : Array CpInfo := ⟨poolList es last⟩
def fileOf (pool : Array CpInfo) (this : Nat) (attrs : Array Attribute := #[]) (ms : Array MethodInfo := #[]) (fl : Nat := 33) (sup : Nat := 0) (ifs : Array Nat := #[]) (fds : Array FieldInfo := #[]) : ClassFile where
  minorVersion := 0
  majorVersion := 65
  constantPool := pool
  accessFlags := fl
  thisClass := this
  superClass := sup
  interfaces := ifs
  fields := fds
  methods := ms
  attributes := attrs
def plain (name : String) (sup : Option ClassId) : Class where
  name := name
  kind := .ordinary
  loader := none
  accessFlags := 33
  super := sup
  interfaces := #[]
  cf := none
  fields := #[]
  methods := #[]
  instanceTypes := #[]
  staticTypes := #[]
  resolved := #[]
  callSites := []
  init := .initialized
  statics := none
  mirror := none

def pool0 : Array CpInfo := pool [(5, u "<init>"), (0, u "()V"), (1, .class_ 10), (1, u "java/lang/Object"), (85, u "clone"), (0, u "()Ljava/lang/Object;")] 26

def k0c0 : Code := { maxStack := 0, maxLocals := 1, code := object_method_1_code, exceptionTable := #[], attributes := #[] }
def k0m0 : Method := { name := "<init>", desc := "()V", sig := { parameters := [], returnType := none }, accessFlags := 1, code := some k0c0 }
def k0m1 : Method := { name := "clone", desc := "()Ljava/lang/Object;", sig := { parameters := [], returnType := some (.object "java/lang/Object") }, accessFlags := 260, code := none }
/-- java/lang/Object -/
def k0 : Class := { plain "java/lang/Object" none with
  accessFlags := 33
  interfaces := #[]
  cf := some (fileOf pool0 8 #[] #[{ accessFlags := 1, nameIndex := 5, descriptorIndex := 6, attributes := #[] }, { accessFlags := 260, nameIndex := 96, descriptorIndex := 97, attributes := #[] }] 33 0 #[] #[])
  fields := #[]
  methods := #[k0m0, k0m1]
  instanceTypes := #[]
  staticTypes := #[]
  resolved := Array.replicate 124 none
  statics := none }

def pool1 : Array CpInfo := pool [(2, .class_ 4), (1, u "java/lang/Object"), (0, u "<init>"), (0, u "()V"), (0, .methodref 8 9), (0, .class_ 10), (0, .nameAndType 11 12), (0, u "com/example/skipstitch/skipstitch/KmpPatternStepPinLaw"), (0, u "at"), (0, u "([IIII)I"), (0, .fieldref 14 15), (0, .class_ 16), (0, .nameAndType 17 18), (0, u "com/example/skipstitch/skipstitch/Matching"), (0, u "OVERLAPPING"), (0, u "Lcom/example/skipstitch/skipstitch/Matching;"), (0, .fieldref 14 20), (0, .nameAndType 21 18), (0, u "NON_OVERLAPPING"), (0, .class_ 23), (0, u "com/example/skipstitch/skipstitch/KmpPattern"), (0, .methodref 22 25), (0, .nameAndType 5 26), (0, u "([ILcom/example/skipstitch/skipstitch/Matching;)V"), (0, .methodref 22 28), (0, .nameAndType 29 30), (0, u "step"), (0, u "(II)I"), (0, .methodref 8 32), (0, .nameAndType 33 34), (0, u "isBorder"), (0, u "([IIII)Z"), (3, u "law"), (0, u "(IIII)Z")] 4

def k1m0 : Method := { name := "<init>", desc := "()V", sig := { parameters := [], returnType := none }, accessFlags := 1, code := none }
def k1c1 : Code := { maxStack := 2, maxLocals := 4, code := method_2_code, exceptionTable := #[], attributes := #[] }
def k1m1 : Method := { name := "at", desc := "([IIII)I", sig := { parameters := [(.array .int), .int, .int, .int], returnType := some .int }, accessFlags := 10, code := some k1c1 }
def k1c2 : Code := { maxStack := 6, maxLocals := 5, code := method_3_code, exceptionTable := #[], attributes := #[] }
def k1m2 : Method := { name := "isBorder", desc := "([IIII)Z", sig := { parameters := [(.array .int), .int, .int, .int], returnType := some .boolean }, accessFlags := 10, code := some k1c2 }
def k1c3 : Code := { maxStack := 4, maxLocals := 17, code := code, exceptionTable := #[], attributes := #[] }
def k1m3 : Method := { name := "law", desc := "(IIII)Z", sig := { parameters := [.int, .int, .int, .int], returnType := some .boolean }, accessFlags := 9, code := some k1c3 }
/-- com/example/skipstitch/skipstitch/KmpPatternStepPinLaw -/
def k1 : Class := { plain "com/example/skipstitch/skipstitch/KmpPatternStepPinLaw" (some 0) with
  accessFlags := 49
  interfaces := #[]
  cf := some (fileOf pool1 8 #[] #[{ accessFlags := 1, nameIndex := 5, descriptorIndex := 6, attributes := #[] }, { accessFlags := 10, nameIndex := 11, descriptorIndex := 12, attributes := #[] }, { accessFlags := 10, nameIndex := 33, descriptorIndex := 34, attributes := #[] }, { accessFlags := 9, nameIndex := 38, descriptorIndex := 39, attributes := #[] }] 49 2 #[] #[])
  fields := #[]
  methods := #[k1m0, k1m1, k1m2, k1m3]
  instanceTypes := #[]
  staticTypes := #[]
  resolved := Array.replicate 44 none
  statics := none }

def pool2 : Array CpInfo := pool [(1, .class_ 2), (0, u "java/lang/constant/Constable"), (0, .class_ 4), (0, u "java/lang/Object")] 6

/-- java/lang/constant/Constable -/
def k2 : Class := { plain "java/lang/constant/Constable" (some 0) with
  accessFlags := 1537
  interfaces := #[]
  cf := some (fileOf pool2 1 #[] #[] 1537 3 #[] #[])
  fields := #[]
  methods := #[]
  instanceTypes := #[]
  staticTypes := #[]
  resolved := Array.replicate 11 none
  statics := none }

def pool3 : Array CpInfo := pool [(1, .class_ 2), (0, u "java/lang/Comparable"), (0, .class_ 4), (0, u "java/lang/Object")] 7

/-- java/lang/Comparable -/
def k3 : Class := { plain "java/lang/Comparable" (some 0) with
  accessFlags := 1537
  interfaces := #[]
  cf := some (fileOf pool3 1 #[] #[] 1537 3 #[] #[])
  fields := #[]
  methods := #[]
  instanceTypes := #[]
  staticTypes := #[]
  resolved := Array.replicate 12 none
  statics := none }

def pool4 : Array CpInfo := pool [(1, .class_ 2), (0, u "java/io/Serializable"), (0, .class_ 4), (0, u "java/lang/Object")] 2

/-- java/io/Serializable -/
def k4 : Class := { plain "java/io/Serializable" (some 0) with
  accessFlags := 1537
  interfaces := #[]
  cf := some (fileOf pool4 1 #[] #[] 1537 3 #[] #[])
  fields := #[]
  methods := #[]
  instanceTypes := #[]
  staticTypes := #[]
  resolved := Array.replicate 7 none
  statics := none }

def pool5 : Array CpInfo := pool [(2, .class_ 4), (1, u "java/lang/Enum"), (0, u "name"), (0, u "Ljava/lang/String;"), (2, u "ordinal"), (0, u "I"), (1, .class_ 14), (1, u "java/lang/Object"), (4, u "hash"), (86, .class_ 108), (1, u "java/lang/Enum$EnumDesc"), (2, .class_ 112), (0, u "java/lang/constant/Constable"), (0, .class_ 114), (0, u "java/lang/Comparable"), (0, .class_ 116), (0, u "java/io/Serializable")] 87

/-- java/lang/Enum -/
def k5 : Class := { plain "java/lang/Enum" (some 0) with
  accessFlags := 1057
  interfaces := #[2, 3, 4]
  cf := some (fileOf pool5 2 #[.nestMembers #[106]] #[] 1057 12 #[111, 113, 115] #[{ accessFlags := 18, nameIndex := 5, descriptorIndex := 6, attributes := #[] }, { accessFlags := 18, nameIndex := 9, descriptorIndex := 10, attributes := #[] }, { accessFlags := 2, nameIndex := 19, descriptorIndex := 10, attributes := #[] }])
  fields := #[{ name := "name", type := (.object "java/lang/String"), accessFlags := 18, slot := 0, constantValue := 0 }, { name := "ordinal", type := .int, accessFlags := 18, slot := 1, constantValue := 0 }, { name := "hash", type := .int, accessFlags := 2, slot := 2, constantValue := 0 }]
  methods := #[]
  instanceTypes := #[(.object "java/lang/String"), .int, .int]
  staticTypes := #[]
  resolved := Array.replicate 204 none
  statics := none }

def pool6 : Array CpInfo := pool [(1, .class_ 2), (0, u "com/example/skipstitch/skipstitch/Matching"), (2, u "OVERLAPPING"), (0, u "Lcom/example/skipstitch/skipstitch/Matching;"), (2, u "NON_OVERLAPPING"), (2, u "$VALUES"), (0, u "[Lcom/example/skipstitch/skipstitch/Matching;"), (6, .class_ 22), (1, u "java/lang/Enum")] 24

/-- com/example/skipstitch/skipstitch/Matching -/
def k6 : Class := { plain "com/example/skipstitch/skipstitch/Matching" (some 5) with
  accessFlags := 16433
  interfaces := #[]
  cf := some (fileOf pool6 1 #[] #[] 16433 20 #[] #[{ accessFlags := 16409, nameIndex := 5, descriptorIndex := 6, attributes := #[] }, { accessFlags := 16409, nameIndex := 9, descriptorIndex := 6, attributes := #[] }, { accessFlags := 4122, nameIndex := 12, descriptorIndex := 13, attributes := #[] }])
  fields := #[{ name := "OVERLAPPING", type := (.object "com/example/skipstitch/skipstitch/Matching"), accessFlags := 16409, slot := 0, constantValue := 0 }, { name := "NON_OVERLAPPING", type := (.object "com/example/skipstitch/skipstitch/Matching"), accessFlags := 16409, slot := 1, constantValue := 0 }, { name := "$VALUES", type := (.array (.object "com/example/skipstitch/skipstitch/Matching")), accessFlags := 4122, slot := 2, constantValue := 0 }]
  methods := #[]
  instanceTypes := #[(.object "java/lang/String"), .int, .int]
  staticTypes := #[(.object "com/example/skipstitch/skipstitch/Matching"), (.object "com/example/skipstitch/skipstitch/Matching"), (.array (.object "com/example/skipstitch/skipstitch/Matching"))]
  resolved := Array.replicate 47 none
  statics := some 0 }

def pool7 : Array CpInfo := pool [(1, .methodref 2 3), (0, .class_ 4), (0, .nameAndType 5 6), (0, u "java/lang/Object"), (0, u "<init>"), (0, u "()V"), (0, .methodref 8 9), (0, .class_ 10), (0, .nameAndType 11 12), (0, u "com/example/skipstitch/skipstitch/PartialMatchTable"), (0, u "fallbacksOf"), (0, u "([I)[I"), (0, .fieldref 14 15), (0, .class_ 16), (0, .nameAndType 17 18), (0, u "com/example/skipstitch/skipstitch/KmpPattern"), (0, u "fallbacks"), (0, u "[I"), (0, .methodref 20 21), (0, .class_ 22), (0, .nameAndType 23 24), (0, u "com/example/skipstitch/skipstitch/GramTable"), (0, u "of"), (0, u "([I)Lcom/example/skipstitch/skipstitch/GramTable;"), (0, .fieldref 14 26), (0, .nameAndType 27 28), (0, u "grams"), (0, u "Lcom/example/skipstitch/skipstitch/GramTable;"), (0, .methodref 20 30), (0, .nameAndType 31 32), (0, u "keyOfFirst"), (0, u "([I)I"), (0, .fieldref 14 34), (0, .nameAndType 35 36), (0, u "key"), (0, u "I"), (0, .methodref 14 38), (0, .nameAndType 39 12), (0, u "firstOfEachLowByte"), (0, .fieldref 14 41), (0, .nameAndType 39 18), (0, .methodref 43 44), (0, .class_ 18), (0, .nameAndType 45 46), (0, u "clone"), (0, u "()Ljava/lang/Object;"), (0, .fieldref 14 48), (0, .nameAndType 49 18), (0, u "units"), (0, .string 51), (0, u "matching must not be null"), (0, .methodref 53 54), (0, .class_ 55), (0, .nameAndType 56 57), (0, u "java/util/Objects"), (0, u "requireNonNull"), (0, u "(Ljava/lang/Object;Ljava/lang/String;)Ljava/lang/Object;"), (0, .class_ 59), (0, u "com/example/skipstitch/skipstitch/Matching"), (0, .fieldref 14 61), (0, .nameAndType 62 63), (0, u "matching"), (0, u "Lcom/example/skipstitch/skipstitch/Matching;"), (11, .methodref 76 77), (0, .class_ 78), (0, .nameAndType 79 80), (0, u "java/util/Arrays"), (0, u "copyOf"), (0, u "([II)[I"), (5, u "(II)I"), (44, u "([ILcom/example/skipstitch/skipstitch/Matching;)V"), (7, u "step")] 35

def k7c0 : Code := { maxStack := 3, maxLocals := 3, code := prog_6_method_1_code, exceptionTable := #[], attributes := #[] }
def k7m0 : Method := { name := "<init>", desc := "([ILcom/example/skipstitch/skipstitch/Matching;)V", sig := { parameters := [(.array .int), (.object "com/example/skipstitch/skipstitch/Matching")], returnType := none }, accessFlags := 0, code := some k7c0 }
def k7c1 : Code := { maxStack := 2, maxLocals := 3, code := prog_6_method_9_code, exceptionTable := #[], attributes := #[] }
def k7m1 : Method := { name := "step", desc := "(II)I", sig := { parameters := [.int, .int], returnType := some .int }, accessFlags := 0, code := some k7c1 }
def k7c2 : Code := { maxStack := 3, maxLocals := 6, code := prog_6_method_10_code, exceptionTable := #[], attributes := #[] }
def k7m2 : Method := { name := "firstOfEachLowByte", desc := "([I)[I", sig := { parameters := [(.array .int)], returnType := some (.array .int) }, accessFlags := 10, code := some k7c2 }
/-- com/example/skipstitch/skipstitch/KmpPattern -/
def k7 : Class := { plain "com/example/skipstitch/skipstitch/KmpPattern" (some 0) with
  accessFlags := 48
  interfaces := #[]
  cf := some (fileOf pool7 14 #[] #[{ accessFlags := 0, nameIndex := 5, descriptorIndex := 131, attributes := #[] }, { accessFlags := 0, nameIndex := 139, descriptorIndex := 86, attributes := #[] }, { accessFlags := 10, nameIndex := 39, descriptorIndex := 12, attributes := #[] }] 48 2 #[] #[{ accessFlags := 18, nameIndex := 49, descriptorIndex := 18, attributes := #[] }, { accessFlags := 18, nameIndex := 17, descriptorIndex := 18, attributes := #[] }, { accessFlags := 18, nameIndex := 62, descriptorIndex := 63, attributes := #[] }, { accessFlags := 18, nameIndex := 27, descriptorIndex := 28, attributes := #[] }, { accessFlags := 18, nameIndex := 35, descriptorIndex := 36, attributes := #[] }, { accessFlags := 18, nameIndex := 39, descriptorIndex := 18, attributes := #[] }])
  fields := #[{ name := "units", type := (.array .int), accessFlags := 18, slot := 0, constantValue := 0 }, { name := "fallbacks", type := (.array .int), accessFlags := 18, slot := 1, constantValue := 0 }, { name := "matching", type := (.object "com/example/skipstitch/skipstitch/Matching"), accessFlags := 18, slot := 2, constantValue := 0 }, { name := "grams", type := (.object "com/example/skipstitch/skipstitch/GramTable"), accessFlags := 18, slot := 3, constantValue := 0 }, { name := "key", type := .int, accessFlags := 18, slot := 4, constantValue := 0 }, { name := "firstOfEachLowByte", type := (.array .int), accessFlags := 18, slot := 5, constantValue := 0 }]
  methods := #[k7m0, k7m1, k7m2]
  instanceTypes := #[(.array .int), (.array .int), (.object "com/example/skipstitch/skipstitch/Matching"), (.object "com/example/skipstitch/skipstitch/GramTable"), .int, (.array .int)]
  staticTypes := #[]
  resolved := Array.replicate 175 none
  statics := none }

def pool8 : Array CpInfo := pool [(2, .class_ 4), (1, u "java/lang/Object"), (0, u "<init>"), (0, u "()V"), (0, .string 8), (0, u "pattern must not be null"), (0, .methodref 10 11), (0, .class_ 12), (0, .nameAndType 13 14), (0, u "java/util/Objects"), (0, u "requireNonNull"), (0, u "(Ljava/lang/Object;Ljava/lang/String;)Ljava/lang/Object;"), (7, .methodref 23 24), (0, .class_ 25), (0, .nameAndType 26 27), (0, u "com/example/skipstitch/skipstitch/PartialMatchTable"), (0, u "of"), (0, u "([I)[I"), (5, u "fallbacksOf")] 2

def k8m0 : Method := { name := "<init>", desc := "()V", sig := { parameters := [], returnType := none }, accessFlags := 2, code := none }
def k8c1 : Code := { maxStack := 3, maxLocals := 4, code := prog_9_method_2_code, exceptionTable := #[], attributes := #[] }
def k8m1 : Method := { name := "of", desc := "([I)[I", sig := { parameters := [(.array .int)], returnType := some (.array .int) }, accessFlags := 8, code := some k8c1 }
def k8c2 : Code := { maxStack := 5, maxLocals := 5, code := prog_9_method_3_code, exceptionTable := #[], attributes := #[] }
def k8m2 : Method := { name := "fallbacksOf", desc := "([I)[I", sig := { parameters := [(.array .int)], returnType := some (.array .int) }, accessFlags := 8, code := some k8c2 }
/-- com/example/skipstitch/skipstitch/PartialMatchTable -/
def k8 : Class := { plain "com/example/skipstitch/skipstitch/PartialMatchTable" (some 0) with
  accessFlags := 48
  interfaces := #[]
  cf := some (fileOf pool8 23 #[] #[{ accessFlags := 2, nameIndex := 5, descriptorIndex := 6, attributes := #[] }, { accessFlags := 8, nameIndex := 26, descriptorIndex := 27, attributes := #[] }, { accessFlags := 8, nameIndex := 33, descriptorIndex := 27, attributes := #[] }] 48 2 #[] #[])
  fields := #[]
  methods := #[k8m0, k8m1, k8m2]
  instanceTypes := #[]
  staticTypes := #[]
  resolved := Array.replicate 36 none
  statics := none }

def pool9 : Array CpInfo := pool [(2, .class_ 4), (1, u "java/lang/CharSequence"), (42, .class_ 48), (0, u "java/lang/CharSequence$1CodePointIterator"), (10, .class_ 60), (0, u "java/lang/CharSequence$1CharIterator"), (5, .class_ 67), (0, u "java/lang/Object")] 63

/-- java/lang/CharSequence -/
def k9 : Class := { plain "java/lang/CharSequence" (some 0) with
  accessFlags := 1537
  interfaces := #[]
  cf := some (fileOf pool9 2 #[.nestMembers #[47, 59]] #[] 1537 66 #[] #[])
  fields := #[]
  methods := #[]
  instanceTypes := #[]
  staticTypes := #[]
  resolved := Array.replicate 131 none
  statics := none }

def pool10 : Array CpInfo := pool [(1, .class_ 2), (0, u "java/lang/constant/ConstantDesc"), (0, .class_ 4), (0, u "java/lang/Object")] 32

/-- java/lang/constant/ConstantDesc -/
def k10 : Class := { plain "java/lang/constant/ConstantDesc" (some 0) with
  accessFlags := 1537
  interfaces := #[]
  cf := some (fileOf pool10 1 #[] #[] 1537 3 #[] #[])
  fields := #[]
  methods := #[]
  instanceTypes := #[]
  staticTypes := #[]
  resolved := Array.replicate 37 none
  statics := none }

def pool11 : Array CpInfo := pool [(2, .class_ 4), (1, u "java/lang/Object"), (0, u "<init>"), (0, u "()V"), (3, .class_ 12), (1, u "java/lang/String"), (0, u "value"), (0, u "[B"), (2, u "coder"), (0, u "B"), (2, u "hash"), (0, u "I"), (2, u "hashIsZero"), (0, u "Z"), (13, u "COMPACT_STRINGS"), (534, .class_ 576), (0, u "java/lang/CharSequence"), (22, u "CASE_INSENSITIVE_ORDER"), (0, u "Ljava/util/Comparator;"), (500, u "serialPersistentFields"), (0, u "[Ljava/io/ObjectStreamField;"), (0, .class_ 1104), (0, u "java/lang/String$CaseInsensitiveComparator"), (1, .class_ 1107), (0, u "java/io/Serializable"), (0, .class_ 1109), (0, u "java/lang/Comparable"), (0, .class_ 1111), (0, u "java/lang/constant/Constable"), (0, .class_ 1113), (0, u "java/lang/constant/ConstantDesc"), (2, u "serialVersionUID"), (0, u "J"), (3, u "REPL"), (0, u "C"), (2, u "LATIN1"), (1, u "UTF16")] 323

def k11m0 : Method := { name := "<init>", desc := "()V", sig := { parameters := [], returnType := none }, accessFlags := 1, code := none }
/-- java/lang/String -/
def k11 : Class := { plain "java/lang/String" (some 0) with
  accessFlags := 49
  interfaces := #[4, 3, 9, 2, 10]
  cf := some (fileOf pool11 10 #[.nestMembers #[1103]] #[{ accessFlags := 1, nameIndex := 5, descriptorIndex := 6, attributes := #[] }] 49 2 #[1106, 1108, 575, 1110, 1112] #[{ accessFlags := 18, nameIndex := 13, descriptorIndex := 14, attributes := #[] }, { accessFlags := 18, nameIndex := 17, descriptorIndex := 18, attributes := #[] }, { accessFlags := 2, nameIndex := 21, descriptorIndex := 22, attributes := #[] }, { accessFlags := 2, nameIndex := 25, descriptorIndex := 26, attributes := #[] }, { accessFlags := 26, nameIndex := 1116, descriptorIndex := 1117, attributes := #[] }, { accessFlags := 24, nameIndex := 40, descriptorIndex := 26, attributes := #[] }, { accessFlags := 26, nameIndex := 1101, descriptorIndex := 1102, attributes := #[] }, { accessFlags := 26, nameIndex := 1121, descriptorIndex := 1122, attributes := #[] }, { accessFlags := 25, nameIndex := 599, descriptorIndex := 600, attributes := #[] }, { accessFlags := 24, nameIndex := 1125, descriptorIndex := 18, attributes := #[] }, { accessFlags := 24, nameIndex := 1127, descriptorIndex := 18, attributes := #[] }])
  fields := #[{ name := "value", type := (.array .byte), accessFlags := 18, slot := 0, constantValue := 0 }, { name := "coder", type := .byte, accessFlags := 18, slot := 1, constantValue := 0 }, { name := "hash", type := .int, accessFlags := 2, slot := 2, constantValue := 0 }, { name := "hashIsZero", type := .boolean, accessFlags := 2, slot := 3, constantValue := 0 }, { name := "serialVersionUID", type := .long, accessFlags := 26, slot := 0, constantValue := 0 }, { name := "COMPACT_STRINGS", type := .boolean, accessFlags := 24, slot := 1, constantValue := 0 }, { name := "serialPersistentFields", type := (.array (.object "java/io/ObjectStreamField")), accessFlags := 26, slot := 2, constantValue := 0 }, { name := "REPL", type := .char, accessFlags := 26, slot := 3, constantValue := 0 }, { name := "CASE_INSENSITIVE_ORDER", type := (.object "java/util/Comparator"), accessFlags := 25, slot := 4, constantValue := 0 }, { name := "LATIN1", type := .byte, accessFlags := 24, slot := 5, constantValue := 0 }, { name := "UTF16", type := .byte, accessFlags := 24, slot := 6, constantValue := 0 }]
  methods := #[k11m0]
  instanceTypes := #[(.array .byte), .byte, .int, .boolean]
  staticTypes := #[.long, .boolean, (.array (.object "java/io/ObjectStreamField")), .char, (.object "java/util/Comparator"), .byte, .byte]
  resolved := Array.replicate 1451 none
  statics := none }

def pool12 : Array CpInfo := pool [(2, .class_ 4), (1, u "java/lang/Object"), (0, u "<init>"), (0, u "()V"), (35, .class_ 44), (1, u "java/util/Objects"), (0, u "requireNonNull"), (48, u "(Ljava/lang/Object;Ljava/lang/String;)Ljava/lang/Object;")] 89

def k12m0 : Method := { name := "<init>", desc := "()V", sig := { parameters := [], returnType := none }, accessFlags := 2, code := none }
def k12c1 : Code := { maxStack := 3, maxLocals := 2, code := jdk_31_method_11_code, exceptionTable := #[], attributes := #[] }
def k12m1 : Method := { name := "requireNonNull", desc := "(Ljava/lang/Object;Ljava/lang/String;)Ljava/lang/Object;", sig := { parameters := [(.object "java/lang/Object"), (.object "java/lang/String")], returnType := some (.object "java/lang/Object") }, accessFlags := 9, code := some k12c1 }
/-- java/util/Objects -/
def k12 : Class := { plain "java/util/Objects" (some 0) with
  accessFlags := 49
  interfaces := #[]
  cf := some (fileOf pool12 42 #[] #[{ accessFlags := 2, nameIndex := 5, descriptorIndex := 6, attributes := #[] }, { accessFlags := 9, nameIndex := 45, descriptorIndex := 94, attributes := #[] }] 49 2 #[] #[])
  fields := #[]
  methods := #[k12m0, k12m1]
  instanceTypes := #[]
  staticTypes := #[]
  resolved := Array.replicate 184 none
  statics := none }

def pool13 : Array CpInfo := pool [(4, .class_ 6), (1, u "java/lang/Object"), (3, .class_ 12), (1, u "com/example/skipstitch/skipstitch/GramTable"), (0, u "stride"), (0, u "I"), (2, u "shift"), (2, u "held"), (0, u "[J"), (2, u "offsets"), (0, .methodref 26 27), (0, .class_ 28), (0, .nameAndType 29 30), (0, u "java/lang/Math"), (0, u "min"), (0, u "(II)I"), (13, .integer 2654435769), (5, u "GRAM"), (2, u "MAX_STRIDE"), (1, u "MIN_STRIDE"), (1, u "HELD_BITS_PER_OFFSET"), (1, u "ENTRIES_PER_OFFSET"), (0, u "HASH"), (2, u "of"), (0, u "([I)Lcom/example/skipstitch/skipstitch/GramTable;"), (4, u "keyOfFirst"), (0, u "([I)I")] 8

def k13c0 : Code := { maxStack := 7, maxLocals := 7, code := prog_5_method_2_code, exceptionTable := #[], attributes := #[] }
def k13m0 : Method := { name := "of", desc := "([I)Lcom/example/skipstitch/skipstitch/GramTable;", sig := { parameters := [(.array .int)], returnType := some (.object "com/example/skipstitch/skipstitch/GramTable") }, accessFlags := 8, code := some k13c0 }
def k13c1 : Code := { maxStack := 3, maxLocals := 3, code := prog_5_method_4_code, exceptionTable := #[], attributes := #[] }
def k13m1 : Method := { name := "keyOfFirst", desc := "([I)I", sig := { parameters := [(.array .int)], returnType := some .int }, accessFlags := 8, code := some k13c1 }
/-- com/example/skipstitch/skipstitch/GramTable -/
def k13 : Class := { plain "com/example/skipstitch/skipstitch/GramTable" (some 0) with
  accessFlags := 48
  interfaces := #[]
  cf := some (fileOf pool13 10 #[] #[{ accessFlags := 8, nameIndex := 63, descriptorIndex := 64, attributes := #[] }, { accessFlags := 8, nameIndex := 69, descriptorIndex := 70, attributes := #[] }] 48 4 #[] #[{ accessFlags := 24, nameIndex := 50, descriptorIndex := 14, attributes := #[] }, { accessFlags := 24, nameIndex := 53, descriptorIndex := 14, attributes := #[] }, { accessFlags := 26, nameIndex := 55, descriptorIndex := 14, attributes := #[] }, { accessFlags := 26, nameIndex := 57, descriptorIndex := 14, attributes := #[] }, { accessFlags := 26, nameIndex := 59, descriptorIndex := 14, attributes := #[] }, { accessFlags := 26, nameIndex := 60, descriptorIndex := 14, attributes := #[] }, { accessFlags := 18, nameIndex := 13, descriptorIndex := 14, attributes := #[] }, { accessFlags := 18, nameIndex := 17, descriptorIndex := 14, attributes := #[] }, { accessFlags := 18, nameIndex := 20, descriptorIndex := 21, attributes := #[] }, { accessFlags := 18, nameIndex := 24, descriptorIndex := 21, attributes := #[] }])
  fields := #[{ name := "GRAM", type := .int, accessFlags := 24, slot := 0, constantValue := 0 }, { name := "MAX_STRIDE", type := .int, accessFlags := 24, slot := 1, constantValue := 0 }, { name := "MIN_STRIDE", type := .int, accessFlags := 26, slot := 2, constantValue := 0 }, { name := "HELD_BITS_PER_OFFSET", type := .int, accessFlags := 26, slot := 3, constantValue := 0 }, { name := "ENTRIES_PER_OFFSET", type := .int, accessFlags := 26, slot := 4, constantValue := 0 }, { name := "HASH", type := .int, accessFlags := 26, slot := 5, constantValue := 0 }, { name := "stride", type := .int, accessFlags := 18, slot := 0, constantValue := 0 }, { name := "shift", type := .int, accessFlags := 18, slot := 1, constantValue := 0 }, { name := "held", type := (.array .long), accessFlags := 18, slot := 2, constantValue := 0 }, { name := "offsets", type := (.array .long), accessFlags := 18, slot := 3, constantValue := 0 }]
  methods := #[k13m0, k13m1]
  instanceTypes := #[.int, .int, (.array .long), (.array .long)]
  staticTypes := #[.int, .int, .int, .int, .int, .int]
  resolved := Array.replicate 79 none
  statics := none }

def pool14 : Array CpInfo := pool [(1, .class_ 2), (0, u "java/lang/Math"), (1, .class_ 6), (1, u "java/lang/Object"), (0, u "<init>"), (0, u "()V"), (89, .class_ 100), (1, u "java/lang/Math$RandomNumberGeneratorHolder"), (71, u "negativeZeroFloatBits"), (0, u "J"), (2, u "negativeZeroDoubleBits"), (24, u "min"), (43, u "$assertionsDisabled"), (0, u "Z"), (88, u "(II)I"), (2, u "twoToTheDoubleScaleDown"), (0, u "D"), (4, u "twoToTheDoubleScaleUp"), (9, u "E"), (3, u "PI"), (2, u "TAU"), (2, u "DEGREES_TO_RADIANS"), (0, u "RADIANS_TO_DEGREES")] 94

def k14m0 : Method := { name := "<init>", desc := "()V", sig := { parameters := [], returnType := none }, accessFlags := 2, code := none }
def k14c1 : Code := { maxStack := 2, maxLocals := 2, code := jdk_29_method_69_code, exceptionTable := #[], attributes := #[] }
def k14m1 : Method := { name := "min", desc := "(II)I", sig := { parameters := [.int, .int], returnType := some .int }, accessFlags := 9, code := some k14c1 }
/-- java/lang/Math -/
def k14 : Class := { plain "java/lang/Math" (some 0) with
  accessFlags := 49
  interfaces := #[]
  cf := some (fileOf pool14 1 #[.nestMembers #[98]] #[{ accessFlags := 2, nameIndex := 7, descriptorIndex := 8, attributes := #[] }, { accessFlags := 9, nameIndex := 201, descriptorIndex := 335, attributes := #[] }] 49 4 #[] #[{ accessFlags := 25, nameIndex := 354, descriptorIndex := 339, attributes := #[] }, { accessFlags := 25, nameIndex := 358, descriptorIndex := 339, attributes := #[] }, { accessFlags := 25, nameIndex := 361, descriptorIndex := 339, attributes := #[] }, { accessFlags := 26, nameIndex := 364, descriptorIndex := 339, attributes := #[] }, { accessFlags := 26, nameIndex := 365, descriptorIndex := 339, attributes := #[] }, { accessFlags := 26, nameIndex := 172, descriptorIndex := 173, attributes := #[] }, { accessFlags := 26, nameIndex := 176, descriptorIndex := 173, attributes := #[] }, { accessFlags := 8, nameIndex := 344, descriptorIndex := 339, attributes := #[] }, { accessFlags := 8, nameIndex := 338, descriptorIndex := 339, attributes := #[] }, { accessFlags := 4120, nameIndex := 245, descriptorIndex := 246, attributes := #[] }])
  fields := #[{ name := "E", type := .double, accessFlags := 25, slot := 0, constantValue := 0 }, { name := "PI", type := .double, accessFlags := 25, slot := 1, constantValue := 0 }, { name := "TAU", type := .double, accessFlags := 25, slot := 2, constantValue := 0 }, { name := "DEGREES_TO_RADIANS", type := .double, accessFlags := 26, slot := 3, constantValue := 0 }, { name := "RADIANS_TO_DEGREES", type := .double, accessFlags := 26, slot := 4, constantValue := 0 }, { name := "negativeZeroFloatBits", type := .long, accessFlags := 26, slot := 5, constantValue := 0 }, { name := "negativeZeroDoubleBits", type := .long, accessFlags := 26, slot := 6, constantValue := 0 }, { name := "twoToTheDoubleScaleUp", type := .double, accessFlags := 8, slot := 7, constantValue := 0 }, { name := "twoToTheDoubleScaleDown", type := .double, accessFlags := 8, slot := 8, constantValue := 0 }, { name := "$assertionsDisabled", type := .boolean, accessFlags := 4120, slot := 9, constantValue := 0 }]
  methods := #[k14m0, k14m1]
  instanceTypes := #[]
  staticTypes := #[.double, .double, .double, .double, .double, .long, .long, .double, .double, .boolean]
  resolved := Array.replicate 460 none
  statics := none }

def pool15 : Array CpInfo := pool [(2, .class_ 4), (1, u "java/lang/Object"), (0, u "<init>"), (0, u "()V"), (7, .class_ 16), (1, u "java/util/Arrays"), (57, .class_ 76), (1, u "java/util/Arrays$NaturalOrder"), (36, .class_ 115), (1, u "java/util/Arrays$LegacyMergeSort"), (1, u "Z"), (32, .methodref 151 152), (0, .class_ 153), (0, .nameAndType 154 155), (0, u "java/lang/System"), (0, u "arraycopy"), (0, u "(Ljava/lang/Object;ILjava/lang/Object;II)V"), (146, u "copyOf"), (1, .methodref 305 306), (0, .class_ 307), (0, .nameAndType 308 309), (0, u "java/lang/Math"), (0, u "min"), (0, u "(II)I"), (65, .class_ 376), (0, u "java/util/Arrays$ArrayList"), (68, u "$assertionsDisabled"), (269, u "MIN_ARRAY_SORT_GRAN"), (0, u "I"), (2, u "INSERTIONSORT_THRESHOLD"), (151, u "([II)[I"), (103, .class_ 976), (0, u "java/util/Arrays$ArrayItr")] 52

def k15m0 : Method := { name := "<init>", desc := "()V", sig := { parameters := [], returnType := none }, accessFlags := 2, code := none }
def k15c1 : Code := { maxStack := 6, maxLocals := 3, code := jdk_65_method_123_code, exceptionTable := #[], attributes := #[] }
def k15m1 : Method := { name := "copyOf", desc := "([II)[I", sig := { parameters := [(.array .int), .int], returnType := some (.array .int) }, accessFlags := 9, code := some k15c1 }
/-- java/util/Arrays -/
def k15 : Class := { plain "java/util/Arrays" (some 0) with
  accessFlags := 49
  interfaces := #[]
  cf := some (fileOf pool15 14 #[.nestMembers #[975, 375, 113, 74]] #[{ accessFlags := 2, nameIndex := 5, descriptorIndex := 6, attributes := #[] }, { accessFlags := 9, nameIndex := 302, descriptorIndex := 871, attributes := #[] }] 49 2 #[] #[{ accessFlags := 26, nameIndex := 715, descriptorIndex := 716, attributes := #[] }, { accessFlags := 26, nameIndex := 719, descriptorIndex := 716, attributes := #[] }, { accessFlags := 4120, nameIndex := 445, descriptorIndex := 117, attributes := #[] }])
  fields := #[{ name := "MIN_ARRAY_SORT_GRAN", type := .int, accessFlags := 26, slot := 0, constantValue := 0 }, { name := "INSERTIONSORT_THRESHOLD", type := .int, accessFlags := 26, slot := 1, constantValue := 0 }, { name := "$assertionsDisabled", type := .boolean, accessFlags := 4120, slot := 2, constantValue := 0 }]
  methods := #[k15m0, k15m1]
  instanceTypes := #[]
  staticTypes := #[.int, .int, .boolean]
  resolved := Array.replicate 1029 none
  statics := none }

def pool16 : Array CpInfo := pool [(2, .class_ 4), (1, u "java/lang/Object"), (0, u "<init>"), (0, u "()V"), (1, .class_ 10), (1, u "java/lang/System"), (0, u "allowSecurityManager"), (0, u "I"), (16, u "cons"), (0, u "Ljava/io/Console;"), (77, .class_ 110), (1, u "java/lang/System$CallersHolder"), (43, u "initialErrStream"), (0, u "Ljava/io/PrintStream;"), (19, u "security"), (0, u "Ljava/lang/SecurityManager;"), (31, .class_ 209), (0, u "java/lang/System$1"), (7, u "props"), (0, u "Ljava/util/Properties;"), (2, u "lineSeparator"), (0, u "Ljava/lang/String;"), (96, .class_ 321), (1, u "java/lang/System$LoggerFinder"), (5, .class_ 328), (0, u "java/lang/System$Logger"), (67, u "err"), (2, u "out"), (91, u "notSupportedJnuEncoding"), (15, u "in"), (17, u "initialIn"), (0, u "Ljava/io/InputStream;"), (35, u "bootLayer"), (0, u "Ljava/lang/ModuleLayer;"), (99, .class_ 664), (0, u "java/lang/System$2"), (9, u "NEVER"), (2, u "MAYBE"), (49, u "arraycopy"), (0, u "(Ljava/lang/Object;ILjava/lang/Object;II)V"), (72, .class_ 802), (0, u "java/lang/System$Logger$Level")] 31

def k16m0 : Method := { name := "<init>", desc := "()V", sig := { parameters := [], returnType := none }, accessFlags := 2, code := none }
def k16m1 : Method := { name := "arraycopy", desc := "(Ljava/lang/Object;ILjava/lang/Object;II)V", sig := { parameters := [(.object "java/lang/Object"), .int, (.object "java/lang/Object"), .int, .int], returnType := none }, accessFlags := 265, code := none }
/-- java/lang/System -/
def k16 : Class := { plain "java/lang/System" (some 0) with
  accessFlags := 49
  interfaces := #[]
  cf := some (fileOf pool16 8 #[.nestMembers #[319, 327, 801, 108, 663, 208]] #[{ accessFlags := 2, nameIndex := 5, descriptorIndex := 6, attributes := #[] }, { accessFlags := 265, nameIndex := 727, descriptorIndex := 728, attributes := #[] }] 49 2 #[] #[{ accessFlags := 25, nameIndex := 507, descriptorIndex := 526, attributes := #[] }, { accessFlags := 25, nameIndex := 399, descriptorIndex := 155, attributes := #[] }, { accessFlags := 25, nameIndex := 396, descriptorIndex := 155, attributes := #[] }, { accessFlags := 10, nameIndex := 525, descriptorIndex := 526, attributes := #[] }, { accessFlags := 26, nameIndex := 674, descriptorIndex := 12, attributes := #[] }, { accessFlags := 26, nameIndex := 677, descriptorIndex := 12, attributes := #[] }, { accessFlags := 10, nameIndex := 11, descriptorIndex := 12, attributes := #[] }, { accessFlags := 74, nameIndex := 175, descriptorIndex := 176, attributes := #[] }, { accessFlags := 10, nameIndex := 491, descriptorIndex := 222, attributes := #[] }, { accessFlags := 74, nameIndex := 29, descriptorIndex := 30, attributes := #[] }, { accessFlags := 74, nameIndex := 154, descriptorIndex := 155, attributes := #[] }, { accessFlags := 10, nameIndex := 217, descriptorIndex := 218, attributes := #[] }, { accessFlags := 10, nameIndex := 221, descriptorIndex := 222, attributes := #[] }, { accessFlags := 8, nameIndex := 562, descriptorIndex := 563, attributes := #[] }])
  fields := #[{ name := "in", type := (.object "java/io/InputStream"), accessFlags := 25, slot := 0, constantValue := 0 }, { name := "out", type := (.object "java/io/PrintStream"), accessFlags := 25, slot := 1, constantValue := 0 }, { name := "err", type := (.object "java/io/PrintStream"), accessFlags := 25, slot := 2, constantValue := 0 }, { name := "initialIn", type := (.object "java/io/InputStream"), accessFlags := 10, slot := 3, constantValue := 0 }, { name := "NEVER", type := .int, accessFlags := 26, slot := 4, constantValue := 0 }, { name := "MAYBE", type := .int, accessFlags := 26, slot := 5, constantValue := 0 }, { name := "allowSecurityManager", type := .int, accessFlags := 10, slot := 6, constantValue := 0 }, { name := "security", type := (.object "java/lang/SecurityManager"), accessFlags := 74, slot := 7, constantValue := 0 }, { name := "notSupportedJnuEncoding", type := (.object "java/lang/String"), accessFlags := 10, slot := 8, constantValue := 0 }, { name := "cons", type := (.object "java/io/Console"), accessFlags := 74, slot := 9, constantValue := 0 }, { name := "initialErrStream", type := (.object "java/io/PrintStream"), accessFlags := 74, slot := 10, constantValue := 0 }, { name := "props", type := (.object "java/util/Properties"), accessFlags := 10, slot := 11, constantValue := 0 }, { name := "lineSeparator", type := (.object "java/lang/String"), accessFlags := 10, slot := 12, constantValue := 0 }, { name := "bootLayer", type := (.object "java/lang/ModuleLayer"), accessFlags := 8, slot := 13, constantValue := 0 }]
  methods := #[k16m0, k16m1]
  instanceTypes := #[]
  staticTypes := #[(.object "java/io/InputStream"), (.object "java/io/PrintStream"), (.object "java/io/PrintStream"), (.object "java/io/InputStream"), .int, .int, .int, (.object "java/lang/SecurityManager"), (.object "java/lang/String"), (.object "java/io/Console"), (.object "java/io/PrintStream"), (.object "java/util/Properties"), (.object "java/lang/String"), (.object "java/lang/ModuleLayer")]
  resolved := Array.replicate 834 none
  statics := none }

def pool17 : Array CpInfo := pool [(1, .class_ 2), (0, u "java/lang/Cloneable"), (0, .class_ 4), (0, u "java/lang/Object")] 2

/-- java/lang/Cloneable -/
def k17 : Class := { plain "java/lang/Cloneable" (some 0) with
  accessFlags := 1537
  interfaces := #[]
  cf := some (fileOf pool17 1 #[] #[] 1537 3 #[] #[])
  fields := #[]
  methods := #[]
  instanceTypes := #[]
  staticTypes := #[]
  resolved := Array.replicate 7 none
  statics := none }

/-- the primitive boolean -/
def k18 : Class := { plain "boolean" none with kind := .primitive 'Z', accessFlags := 0x411 }
/-- [Z -/
def k19 : Class := { plain "[Z" (some 0) with kind := .array 18 .boolean, interfaces := #[17, 4], accessFlags := 1041 }

/-- the primitive byte -/
def k20 : Class := { plain "byte" none with kind := .primitive 'B', accessFlags := 0x411 }
/-- [B -/
def k21 : Class := { plain "[B" (some 0) with kind := .array 20 .byte, interfaces := #[17, 4], accessFlags := 1041 }

/-- the primitive int -/
def k22 : Class := { plain "int" none with kind := .primitive 'I', accessFlags := 0x411 }
/-- [I -/
def k23 : Class := { plain "[I" (some 0) with kind := .array 22 .int, interfaces := #[17, 4], accessFlags := 1041 }

/-- the primitive long -/
def k24 : Class := { plain "long" none with kind := .primitive 'J', accessFlags := 0x411 }
/-- [J -/
def k25 : Class := { plain "[J" (some 0) with kind := .array 24 .long, interfaces := #[17, 4], accessFlags := 1041 }

def heap : Heap := #[{ cls := 6, slots := #[.ref 1, .ref 2, .null], vm := .statics 6 },
  { cls := 6, slots := #[.null, .int 0, .int 0], vm := .none },
  { cls := 6, slots := #[.null, .int 1, .int 0], vm := .none }]
def classes : Array Class := #[k0, k1, k2, k3, k4, k5, k6, k7, k8, k9, k10, k11, k12, k13, k14, k15, k16, k17, k18, k19, k20, k21, k22, k23, k24, k25]
def interned : List (Array UInt16 × Addr) := []
def slotsUsed : Nat := 9
def theMethod : MethodId := ⟨1, 3⟩
def args0 : Array Value := #[.int 5, .int 300, .int 7, .int 2]
def aboutOver (below : List Frame) : State where
  vm := { classes := classes, interned := interned.toArray }
  heap := heap
  slotsUsed := slotsUsed
  threads := #[{ frames := .invoking theMethod args0 :: below }]
def below0 : List Frame := [.native { method := ⟨0, 0⟩, args := #[] }]
def about1 : State := aboutOver below0
def p0 : Program := .bare "" "" ""
def e0 : Env := launch0.env 0 0 0
theorem w_frames : about1.frames = Frame.invoking theMethod args0 :: below0 := rfl
set_option maxRecDepth 65536 in
theorem w_args : argsFit about1.vm theMethod args0 = true := by decide +kernel
set_option maxRecDepth 65536 in
theorem w_heap : heapFits about1 = true := by decide +kernel
set_option maxRecDepth 65536 in
theorem w_runnable : about1.curStatus? = some .runnable := by decide +kernel
set_option maxRecDepth 65536 in
theorem w_alone : about1.alone = true := by decide +kernel
set_option maxRecDepth 65536 in
theorem w_named : about1.methodNamed? x = some theMethod := by decide +kernel
set_option maxRecDepth 65536 in
theorem w_hears : about1.hears theMethod below0 = true := by decide +kernel
set_option maxRecDepth 65536 in
theorem w_ripe : about1.ripe theMethod args0 below0 = true := by decide +kernel
theorem w_running : about1.status = .running := rfl
set_option maxRecDepth 65536 in
theorem w_room : about1.hasRoom e0.platform room_1 = true :=
  launch0.hasRoom_least _ room_1 (by decide +kernel) (by decide +kernel) (by decide +kernel) (by decide +kernel) (by decide +kernel) (by decide +kernel)
theorem allAtoms_all (ts : List Jvm.Cond) (a : Array Jvm.Value) (st : Jvm.State) : (allAtoms ts).before a st = ts.all (fun c => c.before a st) := by
  induction ts with
  | nil => rfl
  | cons c t ih =>
    show (Jvm.Cond.and c (allAtoms t)).before a st = _
    rw [Jvm.Cond.before_and, ih, List.all_cons]
def words1 : List Jvm.Cond := Jvm.Cond.code x code maxLocals ret :: tables_1
/-- a 'code' word, met by the world's own term for the bytes: nothing is compared byte by byte -/
theorem code_word {y : MethodName} {bytes : ByteArray} {mx : Nat} {rt : Option FieldType} {a : Array Value} {s : State} {m : MethodId} {meth : Method} {c : Code} (h1 : s.methodNamed? y = some m) (h2 : s.vm.method? m = some meth) (h3 : meth.code = some c) (h4 : c.code = bytes)
    (h5 : (c.maxLocals == mx && c.exceptionTable.isEmpty && decide (c.maxStack ≤ mostOperands) && decide (meth.sig.returnType = rt) && !meth.locks && decide (parseMethodDescriptor y.desc = some meth.sig)) = true) : (Jvm.Cond.code y bytes mx rt).before a s = true := by
  simp only [Bool.and_eq_true, beq_iff_eq, Bool.not_eq_true', decide_eq_true_eq] at h5
  obtain ⟨⟨⟨⟨⟨g1, g2⟩, g3⟩, g4⟩, g5⟩, g6⟩ := h5
  simp [Cond.before, Cond.holds, Cond.value, h1, h2, h3, h4, g1, g2, g3, g4, g5, g6]
def isCode : Jvm.Cond → Bool
  | .code _ _ _ _ => true
  | _ => false
theorem all_split {L : List Jvm.Cond} {P : Jvm.Cond → Bool} (h1 : L.all (fun c => isCode c || P c) = true) (h2 : ∀ c ∈ L.filter isCode, P c = true) : L.all P = true := by
  refine List.all_eq_true.mpr fun c hc => ?_
  have h := List.all_eq_true.mp h1 c hc
  rcases Bool.eq_false_or_eq_true (isCode c) with hi | hi
  · exact h2 c (List.mem_filter.mpr ⟨hc, hi⟩)
  · simpa [hi] using h
set_option maxRecDepth 65536 in
theorem w_c0 : (Jvm.Cond.code x code maxLocals ret).before args0 about1 = true := code_word (m := ⟨1, 3⟩) (meth := k1m3) (c := k1c3) (by decide +kernel) rfl rfl rfl (by decide +kernel)
set_option maxRecDepth 65536 in
theorem w_c1 : (Jvm.Cond.code ({ cls := "com/example/skipstitch/skipstitch/KmpPattern", name := "<init>", desc := "([ILcom/example/skipstitch/skipstitch/Matching;)V" } : Jvm.MethodName) prog_6_method_1_code (3 : Nat) (Option.none : Option Jvm.ClassFile.FieldType)).before args0 about1 = true := code_word (m := ⟨7, 0⟩) (meth := k7m0) (c := k7c0) (by decide +kernel) rfl rfl rfl (by decide +kernel)
set_option maxRecDepth 65536 in
theorem w_c2 : (Jvm.Cond.code ({ cls := "java/lang/Object", name := "<init>", desc := "()V" } : Jvm.MethodName) object_method_1_code (1 : Nat) (Option.none : Option Jvm.ClassFile.FieldType)).before args0 about1 = true := code_word (m := ⟨0, 0⟩) (meth := k0m0) (c := k0c0) (by decide +kernel) rfl rfl rfl (by decide +kernel)
set_option maxRecDepth 65536 in
theorem w_c3 : (Jvm.Cond.code ({ cls := "com/example/skipstitch/skipstitch/PartialMatchTable", name := "fallbacksOf", desc := "([I)[I" } : Jvm.MethodName) prog_9_method_3_code (5 : Nat) (Option.some (Jvm.ClassFile.FieldType.array Jvm.ClassFile.FieldType.int))).before args0 about1 = true := code_word (m := ⟨8, 2⟩) (meth := k8m2) (c := k8c2) (by decide +kernel) rfl rfl rfl (by decide +kernel)
set_option maxRecDepth 65536 in
theorem w_c4 : (Jvm.Cond.code ({ cls := "com/example/skipstitch/skipstitch/PartialMatchTable", name := "of", desc := "([I)[I" } : Jvm.MethodName) prog_9_method_2_code (4 : Nat) (Option.some (Jvm.ClassFile.FieldType.array Jvm.ClassFile.FieldType.int))).before args0 about1 = true := code_word (m := ⟨8, 1⟩) (meth := k8m1) (c := k8c1) (by decide +kernel) rfl rfl rfl (by decide +kernel)
set_option maxRecDepth 65536 in
theorem w_c5 : (Jvm.Cond.code ({ cls := "java/util/Objects", name := "requireNonNull", desc := "(Ljava/lang/Object;Ljava/lang/String;)Ljava/lang/Object;" } : Jvm.MethodName) jdk_31_method_11_code (2 : Nat) (Option.some (Jvm.ClassFile.FieldType.object "java/lang/Object"))).before args0 about1 = true := code_word (m := ⟨12, 1⟩) (meth := k12m1) (c := k12c1) (by decide +kernel) rfl rfl rfl (by decide +kernel)
set_option maxRecDepth 65536 in
theorem w_c6 : (Jvm.Cond.code ({ cls := "com/example/skipstitch/skipstitch/GramTable", name := "of", desc := "([I)Lcom/example/skipstitch/skipstitch/GramTable;" } : Jvm.MethodName) prog_5_method_2_code (7 : Nat) (Option.some (Jvm.ClassFile.FieldType.object "com/example/skipstitch/skipstitch/GramTable"))).before args0 about1 = true := code_word (m := ⟨13, 0⟩) (meth := k13m0) (c := k13c0) (by decide +kernel) rfl rfl rfl (by decide +kernel)
set_option maxRecDepth 65536 in
theorem w_c7 : (Jvm.Cond.code ({ cls := "java/lang/Math", name := "min", desc := "(II)I" } : Jvm.MethodName) jdk_29_method_69_code (2 : Nat) (Option.some Jvm.ClassFile.FieldType.int)).before args0 about1 = true := code_word (m := ⟨14, 1⟩) (meth := k14m1) (c := k14c1) (by decide +kernel) rfl rfl rfl (by decide +kernel)
set_option maxRecDepth 65536 in
theorem w_c8 : (Jvm.Cond.code ({ cls := "com/example/skipstitch/skipstitch/GramTable", name := "keyOfFirst", desc := "([I)I" } : Jvm.MethodName) prog_5_method_4_code (3 : Nat) (Option.some Jvm.ClassFile.FieldType.int)).before args0 about1 = true := code_word (m := ⟨13, 1⟩) (meth := k13m1) (c := k13c1) (by decide +kernel) rfl rfl rfl (by decide +kernel)
set_option maxRecDepth 65536 in
theorem w_c9 : (Jvm.Cond.code ({ cls := "com/example/skipstitch/skipstitch/KmpPattern", name := "firstOfEachLowByte", desc := "([I)[I" } : Jvm.MethodName) prog_6_method_10_code (6 : Nat) (Option.some (Jvm.ClassFile.FieldType.array Jvm.ClassFile.FieldType.int))).before args0 about1 = true := code_word (m := ⟨7, 2⟩) (meth := k7m2) (c := k7c2) (by decide +kernel) rfl rfl rfl (by decide +kernel)
set_option maxRecDepth 65536 in
theorem w_c10 : (Jvm.Cond.code ({ cls := "java/util/Arrays", name := "copyOf", desc := "([II)[I" } : Jvm.MethodName) jdk_65_method_123_code (3 : Nat) (Option.some (Jvm.ClassFile.FieldType.array Jvm.ClassFile.FieldType.int))).before args0 about1 = true := code_word (m := ⟨15, 1⟩) (meth := k15m1) (c := k15c1) (by decide +kernel) rfl rfl rfl (by decide +kernel)
set_option maxRecDepth 65536 in
theorem w_c11 : (Jvm.Cond.code ({ cls := "com/example/skipstitch/skipstitch/KmpPattern", name := "step", desc := "(II)I" } : Jvm.MethodName) prog_6_method_9_code (3 : Nat) (Option.some Jvm.ClassFile.FieldType.int)).before args0 about1 = true := code_word (m := ⟨7, 1⟩) (meth := k7m1) (c := k7c1) (by decide +kernel) rfl rfl rfl (by decide +kernel)
set_option maxRecDepth 65536 in
theorem w_c12 : (Jvm.Cond.code ({ cls := "com/example/skipstitch/skipstitch/KmpPatternStepPinLaw", name := "isBorder", desc := "([IIII)Z" } : Jvm.MethodName) method_3_code (5 : Nat) (Option.some Jvm.ClassFile.FieldType.boolean)).before args0 about1 = true := code_word (m := ⟨1, 2⟩) (meth := k1m2) (c := k1c2) (by decide +kernel) rfl rfl rfl (by decide +kernel)
set_option maxRecDepth 65536 in
theorem w_c13 : (Jvm.Cond.code ({ cls := "com/example/skipstitch/skipstitch/KmpPatternStepPinLaw", name := "at", desc := "([IIII)I" } : Jvm.MethodName) method_2_code (4 : Nat) (Option.some Jvm.ClassFile.FieldType.int)).before args0 about1 = true := code_word (m := ⟨1, 1⟩) (meth := k1m1) (c := k1c1) (by decide +kernel) rfl rfl rfl (by decide +kernel)
def codes1 : List Jvm.Cond := [Jvm.Cond.code x code maxLocals ret, Jvm.Cond.code ({ cls := "com/example/skipstitch/skipstitch/KmpPattern", name := "<init>", desc := "([ILcom/example/skipstitch/skipstitch/Matching;)V" } : Jvm.MethodName) prog_6_method_1_code (3 : Nat) (Option.none : Option Jvm.ClassFile.FieldType), Jvm.Cond.code ({ cls := "java/lang/Object", name := "<init>", desc := "()V" } : Jvm.MethodName) object_method_1_code (1 : Nat) (Option.none : Option Jvm.ClassFile.FieldType), Jvm.Cond.code ({ cls := "com/example/skipstitch/skipstitch/PartialMatchTable", name := "fallbacksOf", desc := "([I)[I" } : Jvm.MethodName) prog_9_method_3_code (5 : Nat) (Option.some (Jvm.ClassFile.FieldType.array Jvm.ClassFile.FieldType.int)), Jvm.Cond.code ({ cls := "com/example/skipstitch/skipstitch/PartialMatchTable", name := "of", desc := "([I)[I" } : Jvm.MethodName) prog_9_method_2_code (4 : Nat) (Option.some (Jvm.ClassFile.FieldType.array Jvm.ClassFile.FieldType.int)), Jvm.Cond.code ({ cls := "java/util/Objects", name := "requireNonNull", desc := "(Ljava/lang/Object;Ljava/lang/String;)Ljava/lang/Object;" } : Jvm.MethodName) jdk_31_method_11_code (2 : Nat) (Option.some (Jvm.ClassFile.FieldType.object "java/lang/Object")), Jvm.Cond.code ({ cls := "com/example/skipstitch/skipstitch/GramTable", name := "of", desc := "([I)Lcom/example/skipstitch/skipstitch/GramTable;" } : Jvm.MethodName) prog_5_method_2_code (7 : Nat) (Option.some (Jvm.ClassFile.FieldType.object "com/example/skipstitch/skipstitch/GramTable")), Jvm.Cond.code ({ cls := "java/lang/Math", name := "min", desc := "(II)I" } : Jvm.MethodName) jdk_29_method_69_code (2 : Nat) (Option.some Jvm.ClassFile.FieldType.int), Jvm.Cond.code ({ cls := "com/example/skipstitch/skipstitch/GramTable", name := "keyOfFirst", desc := "([I)I" } : Jvm.MethodName) prog_5_method_4_code (3 : Nat) (Option.some Jvm.ClassFile.FieldType.int), Jvm.Cond.code ({ cls := "com/example/skipstitch/skipstitch/KmpPattern", name := "firstOfEachLowByte", desc := "([I)[I" } : Jvm.MethodName) prog_6_method_10_code (6 : Nat) (Option.some (Jvm.ClassFile.FieldType.array Jvm.ClassFile.FieldType.int)), Jvm.Cond.code ({ cls := "java/util/Arrays", name := "copyOf", desc := "([II)[I" } : Jvm.MethodName) jdk_65_method_123_code (3 : Nat) (Option.some (Jvm.ClassFile.FieldType.array Jvm.ClassFile.FieldType.int)), Jvm.Cond.code ({ cls := "com/example/skipstitch/skipstitch/KmpPattern", name := "step", desc := "(II)I" } : Jvm.MethodName) prog_6_method_9_code (3 : Nat) (Option.some Jvm.ClassFile.FieldType.int), Jvm.Cond.code ({ cls := "com/example/skipstitch/skipstitch/KmpPatternStepPinLaw", name := "isBorder", desc := "([IIII)Z" } : Jvm.MethodName) method_3_code (5 : Nat) (Option.some Jvm.ClassFile.FieldType.boolean), Jvm.Cond.code ({ cls := "com/example/skipstitch/skipstitch/KmpPatternStepPinLaw", name := "at", desc := "([IIII)I" } : Jvm.MethodName) method_2_code (4 : Nat) (Option.some Jvm.ClassFile.FieldType.int)]
set_option maxRecDepth 65536 in
theorem codes_eq : words1.filter isCode = codes1 := rfl
theorem w_codes : ∀ c ∈ words1.filter isCode, c.before args0 about1 = true := by
  rw [codes_eq]
  intro c hc
  simp only [codes1, List.mem_cons, List.not_mem_nil, or_false] at hc
  rcases hc with rfl | rfl | rfl | rfl | rfl | rfl | rfl | rfl | rfl | rfl | rfl | rfl | rfl | rfl
  · exact w_c0
  · exact w_c1
  · exact w_c2
  · exact w_c3
  · exact w_c4
  · exact w_c5
  · exact w_c6
  · exact w_c7
  · exact w_c8
  · exact w_c9
  · exact w_c10
  · exact w_c11
  · exact w_c12
  · exact w_c13
set_option maxRecDepth 65536 in
theorem w_t1 : (words1.take 24).all (fun c => isCode c || c.before args0 about1) = true := by decide +kernel
set_option maxRecDepth 65536 in
theorem w_t2 : ((words1.drop 24).take 24).all (fun c => isCode c || c.before args0 about1) = true := by decide +kernel
set_option maxRecDepth 65536 in
theorem w_t3 : (((words1.drop 24).drop 24).take 24).all (fun c => isCode c || c.before args0 about1) = true := by decide +kernel
set_option maxRecDepth 65536 in
theorem w_t4 : ((((words1.drop 24).drop 24).drop 24).take 24).all (fun c => isCode c || c.before args0 about1) = true := by decide +kernel
set_option maxRecDepth 65536 in
theorem w_t5 : ((((words1.drop 24).drop 24).drop 24).drop 24).all (fun c => isCode c || c.before args0 about1) = true := by decide +kernel
theorem w_tables : (allAtoms (Jvm.Cond.code x code maxLocals ret :: tables_1)).before args0 about1 = true := by
  rw [allAtoms_all]
  show words1.all (fun c => c.before args0 about1) = true
  refine all_split ?_ w_codes
  rw [← List.take_append_drop 24 words1, List.all_append, w_t1, ← List.take_append_drop 24 (words1.drop 24), List.all_append, w_t2, ← List.take_append_drop 24 ((words1.drop 24).drop 24), List.all_append, w_t3, ← List.take_append_drop 24 (((words1.drop 24).drop 24).drop 24), List.all_append, w_t4, w_t5]
  rfl
set_option maxRecDepth 65536 in
theorem w_case : (Jvm.Cond.and given_1 narrow_1).before args0 about1 = true := by decide +kernel
theorem w_applies : (headSpec (Jvm.Cond.code x code maxLocals ret :: tables_1) room_1).applies x e0.platform about1 = true :=
  (Spec.applies_iff w_frames).mpr ⟨w_running, w_runnable, w_alone, w_named, w_hears, w_ripe, w_room, w_tables⟩
theorem atStart : AtStart classFile x code maxLocals ret World_1 tables_1 room_1 Calls_1 rest_1 Pre_1 launch0 p0 e0 about1 theMethod args0 below0 :=
  ⟨lists_1, trivial, launch0.admits_env _ _ _, launch0.least_env, fairChoices_fair.cas, fairChoices_fair.clock, w_frames, w_args, w_heap, w_applies, trivial, trivial, w_case⟩
end start1
theorem witness_1 : WitnessClaimed_1 := ⟨start1.p0, start1.e0, start1.about1, start1.theMethod, start1.args0, start1.below0, start1.atStart⟩
end Jvm.Pilot.@@N@@
